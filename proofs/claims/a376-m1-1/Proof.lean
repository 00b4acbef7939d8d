import JvmDerived
import JvmDerived.Pilot.@@N@@Statement
import JvmDerived.Pilot.@@N@@Code
set_option linter.unusedVariables false
set_option linter.unusedSimpArgs false
set_option maxRecDepth 65536
namespace Jvm.Pilot.@@N@@
open Jvm Jvm.ClassFile Sem Op Lib Jvm.Free Jvm.Stand Jvm.LawKit Jvm.RoadKit Bundle Jvm.Pilot.@@N@@.Jvm.D
section OwnBase
/-- where a walk stands: the Stand, that nothing old was written, the heap -/
def Wd (p : Program) (l : Launch) (e : Env) (R : Room) (s : State) (m : MethodId) (args : Array Value) (below : List Frame) (meth : Method) (c : Code) (n0 : Nat) (T : State) (h : Heap) (cs ss : Nat) : Prop :=
  ∃ locs, Stand p l e R s m args below meth c T locs cs ss ∧ Fr n0 locs ∧ T.heap = h ∧ n0 ≤ s.heap.size
/-- from the frame g on the body comes to its end, and Q holds of what it returns and of the heap -/
def Go (p : Program) (e : Env) (below : List Frame) (s : State) (n0 : Nat) (Q : Option Value → Heap → Prop) (rc rs : Nat) (T : State) (g : JFrame) : Prop :=
  ∃ s₂ o, Steps p.tables e below (T.setTop g) s₂ ∧ s₂.status = .running ∧ Ended s₂ below o ∧ ∃ v L, o = .returned v ∧ (Q v s₂.heap ∧ Fr n0 L) ∧ FrameEnd s o s₂ L rc rs
/-- what a walk knows of the body that it walks -/
def Cx (p : Program) (s : State) (m : MethodId) (meth : Method) (c : Code) (Z : State) (own nm : String) (bytes : ByteArray) (maxL : Nat) (ret : Option FieldType) : Prop :=
  p.tables.exec = Jvm.exec ∧ Z.Warmed39 s.vm ∧ c.code = bytes ∧ c.maxLocals = maxL ∧ s.vm.findClass own = some m.cls ∧ meth.sig.returnType = ret ∧ meth.locks = false ∧ meth.name = nm
/-- a body's contract -/
def Mt (l : Launch) (Z : State) (y : MethodName) (bytes : ByteArray) (maxL : Nat) (ret : Option FieldType) (rm : Room) (n0 : Nat) (as' : Array Value) (h0 : Heap) (Q : Option Value → Heap → Prop) : Prop :=
  ∀ ws : List Jvm.Cond, MetFree l y (head1 (Jvm.Cond.code y bytes maxL ret :: ws) rm) (fun a U => a = as' ∧ Z.Warmed39 U.vm ∧ U.heap = h0) (fun _ _ _ _ _ => True) (fun _ U o U' => ∃ v L, o = .returned v ∧ (Q v U'.heap ∧ Fr n0 L) ∧ FrameEnd U o U' L rm.cells rm.slots)
variable {p : Program} {l : Launch} {e : Env} {R : Room} {s : State} {m : MethodId} {args : Array Value} {below : List Frame} {meth : Method} {c : Code} {Z : State} {own nm : String} {bytes : ByteArray} {maxL : Nat} {ret : Option FieldType} {T : State} {h : Heap} {cs ss n0 : Nat} {Q : Option Value → Heap → Prop} {rc rs : Nat} {pc pc' pf pt : Nat} {Ls Ls' : Array Slot} {st rest : List Value} {a0 : Array Value}
theorem Go.stp {T' : State} {g g' : JFrame} (q : ∀ target, Steps p.tables e below (T'.setTop g') target → Steps p.tables e below (T.setTop g) target) (G : Go p e below s n0 Q rc rs T' g') : Go p e below s n0 Q rc rs T g := by
  obtain ⟨s₂, o, h1, r⟩ := G
  exact ⟨s₂, o, q _ h1, r⟩
theorem Wd.mono {cs' ss' : Nat} (W : Wd p l e R s m args below meth c n0 T h cs ss) (h1 : cs ≤ cs') (h2 : ss ≤ ss') : Wd p l e R s m args below meth c n0 T h cs' ss' := by
  obtain ⟨locs, X, r⟩ := W
  exact ⟨locs, ⟨X.admits, X.cas, X.clock, X.frames, X.room, X.hears, X.method, X.code, X.here, X.tail, X.warmed, X.limits, X.bytes, X.same.mono h1 h2⟩, r⟩
theorem met_of {y : MethodName} {rm : Room} {as' : Array Value} {h0 : Heap} (hpl : plainFor y = true) (hent : ∀ m, entryFrame m as' maxL = mkF m 0 Ls []) (hn : n0 ≤ h0.size)
    (H : ∀ p e s m below meth c T, Cx p s m meth c Z y.cls y.name bytes maxL ret → Wd p l e rm s m as' below meth c n0 T h0 0 0 → Go p e below s n0 Q rm.cells rm.slots T (mkF m 0 Ls [])) :
    Mt l Z y bytes maxL ret rm n0 as' h0 Q := by
  intro ws
  refine MetFree.of_bodySF hpl hisR ?_
  intro p e s m args below meth c s₁ Bd hml0 hP hK
  obtain ⟨rfl, hZ, hh⟩ := hP
  have X0 := Stand.of_body Bd
  have e0 : s₁.heap = h0 := by rw [← hh, Bd.state]; rfl
  have G := H p e s m below meth c s₁ ⟨Bd.exec, hZ, Bd.bytes, hml0, findClass_of_methodNamed Bd.named, Bd.returns, Bd.notSynchronized, (name_of_methodNamed Bd.named Bd.method).1⟩ ⟨[], X0, Fr.nil n0, e0, by rw [hh]; exact hn⟩
  obtain ⟨s₂, o, h1, h2, h3, v, L, h4, h5, h6⟩ := G
  exact ⟨s₂, o, castTop (hent m) h1, h2, h3, v, L, h4, h5, h6⟩
/-! the single steps -/
theorem g_iload (K : Cx p s m meth c Z own nm bytes maxL ret) (W : Wd p l e R s m args below meth c n0 T h cs ss) {k : Nat} {v : Int32} (hd : decode bytes pc = .ok (.iload k, 2)) (hl : Ls[k]? = some (.val (.int v))) (hp : pc + 2 = pc') (G : Go p e below s n0 Q rc rs T (mkF m pc' Ls (.int v :: st))) : Go p e below s n0 Q rc rs T (mkF m pc Ls st) := by
  obtain ⟨_, X, -⟩ := W; subst hp
  exact Go.stp (g' := mkF m (pc + 2) Ls (.int v :: st)) (fun _ hr => XS.iload X.here K.1 rfl (hb K.2.2.1 hd) hl hr) G
theorem g_iloadN (K : Cx p s m meth c Z own nm bytes maxL ret) (W : Wd p l e R s m args below meth c n0 T h cs ss) {k : Fin 4} {v : Int32} (hd : decode bytes pc = .ok (.iload_n k, 1)) (hl : Ls[k.val]? = some (.val (.int v))) (hp : pc + 1 = pc') (G : Go p e below s n0 Q rc rs T (mkF m pc' Ls (.int v :: st))) : Go p e below s n0 Q rc rs T (mkF m pc Ls st) := by
  obtain ⟨_, X, -⟩ := W; subst hp
  exact Go.stp (g' := mkF m (pc + 1) Ls (.int v :: st)) (fun _ hr => XS.iloadN X.here K.1 rfl (hb K.2.2.1 hd) hl hr) G
theorem g_lload (K : Cx p s m meth c Z own nm bytes maxL ret) (W : Wd p l e R s m args below meth c n0 T h cs ss) {k : Nat} {v : Int64} (hd : decode bytes pc = .ok (.lload k, 2)) (hl : Ls[k]? = some (.val (.long v))) (hp : pc + 2 = pc') (G : Go p e below s n0 Q rc rs T (mkF m pc' Ls (.long v :: st))) : Go p e below s n0 Q rc rs T (mkF m pc Ls st) := by
  obtain ⟨_, X, -⟩ := W; subst hp
  exact Go.stp (g' := mkF m (pc + 2) Ls (.long v :: st)) (fun _ hr => XS.lload X.here K.1 rfl (hb K.2.2.1 hd) hl hr) G
theorem g_lloadN (K : Cx p s m meth c Z own nm bytes maxL ret) (W : Wd p l e R s m args below meth c n0 T h cs ss) {k : Fin 4} {v : Int64} (hd : decode bytes pc = .ok (.lload_n k, 1)) (hl : Ls[k.val]? = some (.val (.long v))) (hp : pc + 1 = pc') (G : Go p e below s n0 Q rc rs T (mkF m pc' Ls (.long v :: st))) : Go p e below s n0 Q rc rs T (mkF m pc Ls st) := by
  obtain ⟨_, X, -⟩ := W; subst hp
  exact Go.stp (g' := mkF m (pc + 1) Ls (.long v :: st)) (fun _ hr => XS.lloadN X.here K.1 rfl (hb K.2.2.1 hd) hl hr) G
theorem g_aload (K : Cx p s m meth c Z own nm bytes maxL ret) (W : Wd p l e R s m args below meth c n0 T h cs ss) {k : Nat} {v : Value} (hd : decode bytes pc = .ok (.aload k, 2)) (hl : Ls[k]? = some (.val v)) (hv : v.isRef = true) (hp : pc + 2 = pc') (G : Go p e below s n0 Q rc rs T (mkF m pc' Ls (v :: st))) : Go p e below s n0 Q rc rs T (mkF m pc Ls st) := by
  obtain ⟨_, X, -⟩ := W; subst hp
  exact Go.stp (g' := mkF m (pc + 2) Ls (v :: st)) (fun _ hr => XS.aload X.here K.1 rfl (hb K.2.2.1 hd) hl hv hr) G
theorem g_aloadN (K : Cx p s m meth c Z own nm bytes maxL ret) (W : Wd p l e R s m args below meth c n0 T h cs ss) {k : Fin 4} {v : Value} (hd : decode bytes pc = .ok (.aload_n k, 1)) (hl : Ls[k.val]? = some (.val v)) (hv : v.isRef = true) (hp : pc + 1 = pc') (G : Go p e below s n0 Q rc rs T (mkF m pc' Ls (v :: st))) : Go p e below s n0 Q rc rs T (mkF m pc Ls st) := by
  obtain ⟨_, X, -⟩ := W; subst hp
  exact Go.stp (g' := mkF m (pc + 1) Ls (v :: st)) (fun _ hr => XS.aloadN X.here K.1 rfl (hb K.2.2.1 hd) hl hv hr) G
theorem g_istore (K : Cx p s m meth c Z own nm bytes maxL ret) (W : Wd p l e R s m args below meth c n0 T h cs ss) {k : Nat} {x : Int32} (hd : decode bytes pc = .ok (.istore k, 2)) (hl : storeLocals Ls k (.int x) = some Ls') (hp : pc + 2 = pc') (G : Go p e below s n0 Q rc rs T (mkF m pc' Ls' st)) : Go p e below s n0 Q rc rs T (mkF m pc Ls (.int x :: st)) := by
  obtain ⟨_, X, -⟩ := W; subst hp
  exact Go.stp (g' := mkF m (pc + 2) Ls' st) (fun _ hr => XS.istore X.here K.1 rfl (hb K.2.2.1 hd) rfl hl hr) G
theorem g_istoreN (K : Cx p s m meth c Z own nm bytes maxL ret) (W : Wd p l e R s m args below meth c n0 T h cs ss) {k : Fin 4} {x : Int32} (hd : decode bytes pc = .ok (.istore_n k, 1)) (hl : storeLocals Ls k.val (.int x) = some Ls') (hp : pc + 1 = pc') (G : Go p e below s n0 Q rc rs T (mkF m pc' Ls' st)) : Go p e below s n0 Q rc rs T (mkF m pc Ls (.int x :: st)) := by
  obtain ⟨_, X, -⟩ := W; subst hp
  exact Go.stp (g' := mkF m (pc + 1) Ls' st) (fun _ hr => XS.istoreN X.here K.1 rfl (hb K.2.2.1 hd) rfl hl hr) G
theorem g_lstore (K : Cx p s m meth c Z own nm bytes maxL ret) (W : Wd p l e R s m args below meth c n0 T h cs ss) {k : Nat} {x : Int64} (hd : decode bytes pc = .ok (.lstore k, 2)) (hl : storeLocals Ls k (.long x) = some Ls') (hp : pc + 2 = pc') (G : Go p e below s n0 Q rc rs T (mkF m pc' Ls' st)) : Go p e below s n0 Q rc rs T (mkF m pc Ls (.long x :: st)) := by
  obtain ⟨_, X, -⟩ := W; subst hp
  exact Go.stp (g' := mkF m (pc + 2) Ls' st) (fun _ hr => XS.lstore X.here K.1 rfl (hb K.2.2.1 hd) rfl hl hr) G
theorem g_lstoreN (K : Cx p s m meth c Z own nm bytes maxL ret) (W : Wd p l e R s m args below meth c n0 T h cs ss) {k : Fin 4} {x : Int64} (hd : decode bytes pc = .ok (.lstore_n k, 1)) (hl : storeLocals Ls k.val (.long x) = some Ls') (hp : pc + 1 = pc') (G : Go p e below s n0 Q rc rs T (mkF m pc' Ls' st)) : Go p e below s n0 Q rc rs T (mkF m pc Ls (.long x :: st)) := by
  obtain ⟨_, X, -⟩ := W; subst hp
  exact Go.stp (g' := mkF m (pc + 1) Ls' st) (fun _ hr => XS.lstoreN X.here K.1 rfl (hb K.2.2.1 hd) rfl hl hr) G
theorem g_astore (K : Cx p s m meth c Z own nm bytes maxL ret) (W : Wd p l e R s m args below meth c n0 T h cs ss) {k : Nat} {x : Value} (hd : decode bytes pc = .ok (.astore k, 2)) (hv : x.isRef = true) (hl : storeLocals Ls k x = some Ls') (hp : pc + 2 = pc') (G : Go p e below s n0 Q rc rs T (mkF m pc' Ls' st)) : Go p e below s n0 Q rc rs T (mkF m pc Ls (x :: st)) := by
  obtain ⟨_, X, -⟩ := W; subst hp
  exact Go.stp (g' := mkF m (pc + 2) Ls' st) (fun _ hr => XS.astore X.here K.1 rfl (hb K.2.2.1 hd) rfl hv hl hr) G
theorem g_astoreN (K : Cx p s m meth c Z own nm bytes maxL ret) (W : Wd p l e R s m args below meth c n0 T h cs ss) {k : Fin 4} {x : Value} (hd : decode bytes pc = .ok (.astore_n k, 1)) (hv : x.isRef = true) (hl : storeLocals Ls k.val x = some Ls') (hp : pc + 1 = pc') (G : Go p e below s n0 Q rc rs T (mkF m pc' Ls' st)) : Go p e below s n0 Q rc rs T (mkF m pc Ls (x :: st)) := by
  obtain ⟨_, X, -⟩ := W; subst hp
  exact Go.stp (g' := mkF m (pc + 1) Ls' st) (fun _ hr => XS.astoreN X.here K.1 rfl (hb K.2.2.1 hd) rfl hv hl hr) G
theorem g_iconst (K : Cx p s m meth c Z own nm bytes maxL ret) (W : Wd p l e R s m args below meth c n0 T h cs ss) {i : Int} {v : Int32} (hd : decode bytes pc = .ok (.iconst i, 1)) (hv : Int32.ofInt i = v) (hp : pc + 1 = pc') (G : Go p e below s n0 Q rc rs T (mkF m pc' Ls (.int v :: st))) : Go p e below s n0 Q rc rs T (mkF m pc Ls st) := by
  obtain ⟨_, X, -⟩ := W; subst hp hv
  exact Go.stp (g' := mkF m (pc + 1) Ls (.int (Int32.ofInt i) :: st)) (fun _ hr => XS.iconst X.here K.1 rfl (hb K.2.2.1 hd) hr) G
theorem g_bipush (K : Cx p s m meth c Z own nm bytes maxL ret) (W : Wd p l e R s m args below meth c n0 T h cs ss) {i : Int} {v : Int32} (hd : decode bytes pc = .ok (.bipush i, 2)) (hv : (Int8.ofInt i).toInt32 = v) (hp : pc + 2 = pc') (G : Go p e below s n0 Q rc rs T (mkF m pc' Ls (.int v :: st))) : Go p e below s n0 Q rc rs T (mkF m pc Ls st) := by
  obtain ⟨_, X, -⟩ := W; subst hp hv
  exact Go.stp (g' := mkF m (pc + 2) Ls (.int ((Int8.ofInt i).toInt32) :: st)) (fun _ hr => XS.bipush X.here K.1 rfl (hb K.2.2.1 hd) hr) G
theorem g_sipush (K : Cx p s m meth c Z own nm bytes maxL ret) (W : Wd p l e R s m args below meth c n0 T h cs ss) {i : Int} {v : Int32} (hd : decode bytes pc = .ok (.sipush i, 3)) (hv : (Int16.ofInt i).toInt32 = v) (hp : pc + 3 = pc') (G : Go p e below s n0 Q rc rs T (mkF m pc' Ls (.int v :: st))) : Go p e below s n0 Q rc rs T (mkF m pc Ls st) := by
  obtain ⟨_, X, -⟩ := W; subst hp hv
  exact Go.stp (g' := mkF m (pc + 3) Ls (.int ((Int16.ofInt i).toInt32) :: st)) (fun _ hr => XS.sipush X.here K.1 rfl (hb K.2.2.1 hd) hr) G
theorem g_lconst (K : Cx p s m meth c Z own nm bytes maxL ret) (W : Wd p l e R s m args below meth c n0 T h cs ss) {k : Fin 2} {v : Int64} (hd : decode bytes pc = .ok (.lconst k, 1)) (hv : Int64.ofNat k = v) (hp : pc + 1 = pc') (G : Go p e below s n0 Q rc rs T (mkF m pc' Ls (.long v :: st))) : Go p e below s n0 Q rc rs T (mkF m pc Ls st) := by
  obtain ⟨_, X, -⟩ := W; subst hp hv
  exact Go.stp (g' := mkF m (pc + 1) Ls (.long (Int64.ofNat k) :: st)) (fun _ hr => XS.lconst X.here K.1 rfl (hb K.2.2.1 hd) hr) G
theorem g_null (K : Cx p s m meth c Z own nm bytes maxL ret) (W : Wd p l e R s m args below meth c n0 T h cs ss) (hd : decode bytes pc = .ok (.aconst_null, 1)) (hp : pc + 1 = pc') (G : Go p e below s n0 Q rc rs T (mkF m pc' Ls (.null :: st))) : Go p e below s n0 Q rc rs T (mkF m pc Ls st) := by
  obtain ⟨_, X, -⟩ := W; subst hp
  exact Go.stp (g' := mkF m (pc + 1) Ls (.null :: st)) (fun _ hr => XS.aconstNull X.here K.1 rfl (hb K.2.2.1 hd) hr) G
theorem g_ldc (K : Cx p s m meth c Z own nm bytes maxL ret) (W : Wd p l e R s m args below meth c n0 T h cs ss) {index : Nat} {v : Int32} (w : (Jvm.Cond.constant own index v).before a0 Z = true) (hd : decode bytes pc = .ok (.ldc index, 2)) (hp : pc + 2 = pc') (G : Go p e below s n0 Q rc rs T (mkF m pc' Ls (.int v :: st))) : Go p e below s n0 Q rc rs T (mkF m pc Ls st) := by
  obtain ⟨_, X, -⟩ := W; subst hp
  exact Go.stp (g' := mkF m (pc + 2) Ls (.int v :: st)) (X.ldcInt K.1 K.2.2.2.2.1 (mvT K.2.1 w) (g := mkF m pc Ls st) rfl (hb K.2.2.1 hd)) G
theorem g_ldc2 (K : Cx p s m meth c Z own nm bytes maxL ret) (W : Wd p l e R s m args below meth c n0 T h cs ss) {index : Nat} {v : Int64} (w : (Jvm.Cond.constantLong own index v).before a0 Z = true) (hd : decode bytes pc = .ok (.ldc2_w index, 3)) (hp : pc + 3 = pc') (G : Go p e below s n0 Q rc rs T (mkF m pc' Ls (.long v :: st))) : Go p e below s n0 Q rc rs T (mkF m pc Ls st) := by
  obtain ⟨_, X, -⟩ := W; subst hp
  exact Go.stp (g' := mkF m (pc + 3) Ls (.long v :: st)) (X.ldc2Long K.1 K.2.2.2.2.1 (mvT K.2.1 w) (g := mkF m pc Ls st) rfl (hb K.2.2.1 hd)) G
theorem g_iadd (K : Cx p s m meth c Z own nm bytes maxL ret) (W : Wd p l e R s m args below meth c n0 T h cs ss) {x y : Int32} (hd : decode bytes pc = .ok (.iadd, 1)) (hp : pc + 1 = pc') (G : Go p e below s n0 Q rc rs T (mkF m pc' Ls (.int (x + y) :: st))) : Go p e below s n0 Q rc rs T (mkF m pc Ls (.int y :: .int x :: st)) := by
  obtain ⟨_, X, -⟩ := W; subst hp
  exact Go.stp (g' := mkF m (pc + 1) Ls (.int (x + y) :: st)) (fun _ hr => XS.iadd X.here K.1 rfl (hb K.2.2.1 hd) rfl hr) G
theorem g_isub (K : Cx p s m meth c Z own nm bytes maxL ret) (W : Wd p l e R s m args below meth c n0 T h cs ss) {x y : Int32} (hd : decode bytes pc = .ok (.isub, 1)) (hp : pc + 1 = pc') (G : Go p e below s n0 Q rc rs T (mkF m pc' Ls (.int (x - y) :: st))) : Go p e below s n0 Q rc rs T (mkF m pc Ls (.int y :: .int x :: st)) := by
  obtain ⟨_, X, -⟩ := W; subst hp
  exact Go.stp (g' := mkF m (pc + 1) Ls (.int (x - y) :: st)) (fun _ hr => XS.isub X.here K.1 rfl (hb K.2.2.1 hd) rfl hr) G
theorem g_imul (K : Cx p s m meth c Z own nm bytes maxL ret) (W : Wd p l e R s m args below meth c n0 T h cs ss) {x y : Int32} (hd : decode bytes pc = .ok (.imul, 1)) (hp : pc + 1 = pc') (G : Go p e below s n0 Q rc rs T (mkF m pc' Ls (.int (x * y) :: st))) : Go p e below s n0 Q rc rs T (mkF m pc Ls (.int y :: .int x :: st)) := by
  obtain ⟨_, X, -⟩ := W; subst hp
  exact Go.stp (g' := mkF m (pc + 1) Ls (.int (x * y) :: st)) (fun _ hr => XS.imul X.here K.1 rfl (hb K.2.2.1 hd) rfl hr) G
theorem g_iand (K : Cx p s m meth c Z own nm bytes maxL ret) (W : Wd p l e R s m args below meth c n0 T h cs ss) {x y : Int32} (hd : decode bytes pc = .ok (.iand, 1)) (hp : pc + 1 = pc') (G : Go p e below s n0 Q rc rs T (mkF m pc' Ls (.int (x &&& y) :: st))) : Go p e below s n0 Q rc rs T (mkF m pc Ls (.int y :: .int x :: st)) := by
  obtain ⟨_, X, -⟩ := W; subst hp
  exact Go.stp (g' := mkF m (pc + 1) Ls (.int (x &&& y) :: st)) (fun _ hr => XS.iand X.here K.1 rfl (hb K.2.2.1 hd) rfl hr) G
theorem g_ior (K : Cx p s m meth c Z own nm bytes maxL ret) (W : Wd p l e R s m args below meth c n0 T h cs ss) {x y : Int32} (hd : decode bytes pc = .ok (.ior, 1)) (hp : pc + 1 = pc') (G : Go p e below s n0 Q rc rs T (mkF m pc' Ls (.int (x ||| y) :: st))) : Go p e below s n0 Q rc rs T (mkF m pc Ls (.int y :: .int x :: st)) := by
  obtain ⟨_, X, -⟩ := W; subst hp
  exact Go.stp (g' := mkF m (pc + 1) Ls (.int (x ||| y) :: st)) (fun _ hr => XS.ior X.here K.1 rfl (hb K.2.2.1 hd) rfl hr) G
theorem g_ixor (K : Cx p s m meth c Z own nm bytes maxL ret) (W : Wd p l e R s m args below meth c n0 T h cs ss) {x y : Int32} (hd : decode bytes pc = .ok (.ixor, 1)) (hp : pc + 1 = pc') (G : Go p e below s n0 Q rc rs T (mkF m pc' Ls (.int (x ^^^ y) :: st))) : Go p e below s n0 Q rc rs T (mkF m pc Ls (.int y :: .int x :: st)) := by
  obtain ⟨_, X, -⟩ := W; subst hp
  exact Go.stp (g' := mkF m (pc + 1) Ls (.int (x ^^^ y) :: st)) (fun _ hr => XS.ixor X.here K.1 rfl (hb K.2.2.1 hd) rfl hr) G
theorem g_ishl (K : Cx p s m meth c Z own nm bytes maxL ret) (W : Wd p l e R s m args below meth c n0 T h cs ss) {x y : Int32} (hd : decode bytes pc = .ok (.ishl, 1)) (hp : pc + 1 = pc') (G : Go p e below s n0 Q rc rs T (mkF m pc' Ls (.int (x <<< (y &&& 31)) :: st))) : Go p e below s n0 Q rc rs T (mkF m pc Ls (.int y :: .int x :: st)) := by
  obtain ⟨_, X, -⟩ := W; subst hp
  exact Go.stp (g' := mkF m (pc + 1) Ls (.int (x <<< (y &&& 31)) :: st)) (fun _ hr => XS.ishl X.here K.1 rfl (hb K.2.2.1 hd) rfl hr) G
theorem g_ishr (K : Cx p s m meth c Z own nm bytes maxL ret) (W : Wd p l e R s m args below meth c n0 T h cs ss) {x y : Int32} (hd : decode bytes pc = .ok (.ishr, 1)) (hp : pc + 1 = pc') (G : Go p e below s n0 Q rc rs T (mkF m pc' Ls (.int (x >>> (y &&& 31)) :: st))) : Go p e below s n0 Q rc rs T (mkF m pc Ls (.int y :: .int x :: st)) := by
  obtain ⟨_, X, -⟩ := W; subst hp
  exact Go.stp (g' := mkF m (pc + 1) Ls (.int (x >>> (y &&& 31)) :: st)) (fun _ hr => XS.ishr X.here K.1 rfl (hb K.2.2.1 hd) rfl hr) G
theorem g_iushr (K : Cx p s m meth c Z own nm bytes maxL ret) (W : Wd p l e R s m args below meth c n0 T h cs ss) {x y : Int32} (hd : decode bytes pc = .ok (.iushr, 1)) (hp : pc + 1 = pc') (G : Go p e below s n0 Q rc rs T (mkF m pc' Ls (.int ((x.toUInt32 >>> (y &&& 31).toUInt32).toInt32) :: st))) : Go p e below s n0 Q rc rs T (mkF m pc Ls (.int y :: .int x :: st)) := by
  obtain ⟨_, X, -⟩ := W; subst hp
  exact Go.stp (g' := mkF m (pc + 1) Ls (.int ((x.toUInt32 >>> (y &&& 31).toUInt32).toInt32) :: st)) (fun _ hr => XS.iushr X.here K.1 rfl (hb K.2.2.1 hd) rfl hr) G
theorem g_idiv (K : Cx p s m meth c Z own nm bytes maxL ret) (W : Wd p l e R s m args below meth c n0 T h cs ss) {x y : Int32} (hy : y ≠ 0) (hd : decode bytes pc = .ok (.idiv, 1)) (hp : pc + 1 = pc') (G : Go p e below s n0 Q rc rs T (mkF m pc' Ls (.int (x / y) :: st))) : Go p e below s n0 Q rc rs T (mkF m pc Ls (.int y :: .int x :: st)) := by
  obtain ⟨_, X, -⟩ := W; subst hp
  exact Go.stp (g' := mkF m (pc + 1) Ls (.int (x / y) :: st)) (fun _ hr => XS.idiv X.here K.1 rfl (hb K.2.2.1 hd) rfl hy hr) G
theorem g_irem (K : Cx p s m meth c Z own nm bytes maxL ret) (W : Wd p l e R s m args below meth c n0 T h cs ss) {x y : Int32} (hy : y ≠ 0) (hd : decode bytes pc = .ok (.irem, 1)) (hp : pc + 1 = pc') (G : Go p e below s n0 Q rc rs T (mkF m pc' Ls (.int (x % y) :: st))) : Go p e below s n0 Q rc rs T (mkF m pc Ls (.int y :: .int x :: st)) := by
  obtain ⟨_, X, -⟩ := W; subst hp
  exact Go.stp (g' := mkF m (pc + 1) Ls (.int (x % y) :: st)) (fun _ hr => iremM X K.1 rfl (hb K.2.2.1 hd) rfl hy hr) G
theorem g_ladd (K : Cx p s m meth c Z own nm bytes maxL ret) (W : Wd p l e R s m args below meth c n0 T h cs ss) {x y : Int64} (hd : decode bytes pc = .ok (.ladd, 1)) (hp : pc + 1 = pc') (G : Go p e below s n0 Q rc rs T (mkF m pc' Ls (.long (x + y) :: st))) : Go p e below s n0 Q rc rs T (mkF m pc Ls (.long y :: .long x :: st)) := by
  obtain ⟨_, X, -⟩ := W; subst hp
  exact Go.stp (g' := mkF m (pc + 1) Ls (.long (x + y) :: st)) (fun _ hr => XS.ladd X.here K.1 rfl (hb K.2.2.1 hd) rfl hr) G
theorem g_lsub (K : Cx p s m meth c Z own nm bytes maxL ret) (W : Wd p l e R s m args below meth c n0 T h cs ss) {x y : Int64} (hd : decode bytes pc = .ok (.lsub, 1)) (hp : pc + 1 = pc') (G : Go p e below s n0 Q rc rs T (mkF m pc' Ls (.long (x - y) :: st))) : Go p e below s n0 Q rc rs T (mkF m pc Ls (.long y :: .long x :: st)) := by
  obtain ⟨_, X, -⟩ := W; subst hp
  exact Go.stp (g' := mkF m (pc + 1) Ls (.long (x - y) :: st)) (fun _ hr => XS.lsub X.here K.1 rfl (hb K.2.2.1 hd) rfl hr) G
theorem g_lmul (K : Cx p s m meth c Z own nm bytes maxL ret) (W : Wd p l e R s m args below meth c n0 T h cs ss) {x y : Int64} (hd : decode bytes pc = .ok (.lmul, 1)) (hp : pc + 1 = pc') (G : Go p e below s n0 Q rc rs T (mkF m pc' Ls (.long (x * y) :: st))) : Go p e below s n0 Q rc rs T (mkF m pc Ls (.long y :: .long x :: st)) := by
  obtain ⟨_, X, -⟩ := W; subst hp
  exact Go.stp (g' := mkF m (pc + 1) Ls (.long (x * y) :: st)) (fun _ hr => XS.lmul X.here K.1 rfl (hb K.2.2.1 hd) rfl hr) G
theorem g_land (K : Cx p s m meth c Z own nm bytes maxL ret) (W : Wd p l e R s m args below meth c n0 T h cs ss) {x y : Int64} (hd : decode bytes pc = .ok (.land, 1)) (hp : pc + 1 = pc') (G : Go p e below s n0 Q rc rs T (mkF m pc' Ls (.long (x &&& y) :: st))) : Go p e below s n0 Q rc rs T (mkF m pc Ls (.long y :: .long x :: st)) := by
  obtain ⟨_, X, -⟩ := W; subst hp
  exact Go.stp (g' := mkF m (pc + 1) Ls (.long (x &&& y) :: st)) (fun _ hr => XS.land X.here K.1 rfl (hb K.2.2.1 hd) rfl hr) G
theorem g_lor (K : Cx p s m meth c Z own nm bytes maxL ret) (W : Wd p l e R s m args below meth c n0 T h cs ss) {x y : Int64} (hd : decode bytes pc = .ok (.lor, 1)) (hp : pc + 1 = pc') (G : Go p e below s n0 Q rc rs T (mkF m pc' Ls (.long (x ||| y) :: st))) : Go p e below s n0 Q rc rs T (mkF m pc Ls (.long y :: .long x :: st)) := by
  obtain ⟨_, X, -⟩ := W; subst hp
  exact Go.stp (g' := mkF m (pc + 1) Ls (.long (x ||| y) :: st)) (fun _ hr => XS.lor X.here K.1 rfl (hb K.2.2.1 hd) rfl hr) G
theorem g_lxor (K : Cx p s m meth c Z own nm bytes maxL ret) (W : Wd p l e R s m args below meth c n0 T h cs ss) {x y : Int64} (hd : decode bytes pc = .ok (.lxor, 1)) (hp : pc + 1 = pc') (G : Go p e below s n0 Q rc rs T (mkF m pc' Ls (.long (x ^^^ y) :: st))) : Go p e below s n0 Q rc rs T (mkF m pc Ls (.long y :: .long x :: st)) := by
  obtain ⟨_, X, -⟩ := W; subst hp
  exact Go.stp (g' := mkF m (pc + 1) Ls (.long (x ^^^ y) :: st)) (fun _ hr => XS.lxor X.here K.1 rfl (hb K.2.2.1 hd) rfl hr) G
theorem g_lshl (K : Cx p s m meth c Z own nm bytes maxL ret) (W : Wd p l e R s m args below meth c n0 T h cs ss) {x : Int64} {y : Int32} (hd : decode bytes pc = .ok (.lshl, 1)) (hp : pc + 1 = pc') (G : Go p e below s n0 Q rc rs T (mkF m pc' Ls (.long (x <<< (y &&& 0x3f).toInt64) :: st))) : Go p e below s n0 Q rc rs T (mkF m pc Ls (.int y :: .long x :: st)) := by
  obtain ⟨_, X, -⟩ := W; subst hp
  exact Go.stp (g' := mkF m (pc + 1) Ls (.long (x <<< (y &&& 0x3f).toInt64) :: st)) (fun _ hr => XS.lshl X.here K.1 rfl (hb K.2.2.1 hd) rfl hr) G
theorem g_lshr (K : Cx p s m meth c Z own nm bytes maxL ret) (W : Wd p l e R s m args below meth c n0 T h cs ss) {x : Int64} {y : Int32} (hd : decode bytes pc = .ok (.lshr, 1)) (hp : pc + 1 = pc') (G : Go p e below s n0 Q rc rs T (mkF m pc' Ls (.long (x >>> (y &&& 0x3f).toInt64) :: st))) : Go p e below s n0 Q rc rs T (mkF m pc Ls (.int y :: .long x :: st)) := by
  obtain ⟨_, X, -⟩ := W; subst hp
  exact Go.stp (g' := mkF m (pc + 1) Ls (.long (x >>> (y &&& 0x3f).toInt64) :: st)) (fun _ hr => XS.lshr X.here K.1 rfl (hb K.2.2.1 hd) rfl hr) G
theorem g_lushr (K : Cx p s m meth c Z own nm bytes maxL ret) (W : Wd p l e R s m args below meth c n0 T h cs ss) {x : Int64} {y : Int32} (hd : decode bytes pc = .ok (.lushr, 1)) (hp : pc + 1 = pc') (G : Go p e below s n0 Q rc rs T (mkF m pc' Ls (.long ((x.toUInt64 >>> (y &&& 0x3f).toInt64.toUInt64).toInt64) :: st))) : Go p e below s n0 Q rc rs T (mkF m pc Ls (.int y :: .long x :: st)) := by
  obtain ⟨_, X, -⟩ := W; subst hp
  exact Go.stp (g' := mkF m (pc + 1) Ls (.long ((x.toUInt64 >>> (y &&& 0x3f).toInt64.toUInt64).toInt64) :: st)) (fun _ hr => XS.lushr X.here K.1 rfl (hb K.2.2.1 hd) rfl hr) G
theorem g_ldiv (K : Cx p s m meth c Z own nm bytes maxL ret) (W : Wd p l e R s m args below meth c n0 T h cs ss) {x y : Int64} (hy : y ≠ 0) (hd : decode bytes pc = .ok (.ldiv, 1)) (hp : pc + 1 = pc') (G : Go p e below s n0 Q rc rs T (mkF m pc' Ls (.long (x / y) :: st))) : Go p e below s n0 Q rc rs T (mkF m pc Ls (.long y :: .long x :: st)) := by
  obtain ⟨_, X, -⟩ := W; subst hp
  exact Go.stp (g' := mkF m (pc + 1) Ls (.long (x / y) :: st)) (fun _ hr => XS.ldiv X.here K.1 rfl (hb K.2.2.1 hd) rfl hy hr) G
theorem g_lrem (K : Cx p s m meth c Z own nm bytes maxL ret) (W : Wd p l e R s m args below meth c n0 T h cs ss) {x y : Int64} (hy : y ≠ 0) (hd : decode bytes pc = .ok (.lrem, 1)) (hp : pc + 1 = pc') (G : Go p e below s n0 Q rc rs T (mkF m pc' Ls (.long (x - (x / y) * y) :: st))) : Go p e below s n0 Q rc rs T (mkF m pc Ls (.long y :: .long x :: st)) := by
  obtain ⟨_, X, -⟩ := W; subst hp
  exact Go.stp (g' := mkF m (pc + 1) Ls (.long (x - (x / y) * y) :: st)) (fun _ hr => XS.lrem X.here K.1 rfl (hb K.2.2.1 hd) rfl hy hr) G
theorem g_ineg (K : Cx p s m meth c Z own nm bytes maxL ret) (W : Wd p l e R s m args below meth c n0 T h cs ss) {x : Int32} (hd : decode bytes pc = .ok (.ineg, 1)) (hp : pc + 1 = pc') (G : Go p e below s n0 Q rc rs T (mkF m pc' Ls (.int (-x) :: st))) : Go p e below s n0 Q rc rs T (mkF m pc Ls (.int x :: st)) := by
  obtain ⟨_, X, -⟩ := W; subst hp
  exact Go.stp (g' := mkF m (pc + 1) Ls (.int (-x) :: st)) (fun _ hr => XS.ineg X.here K.1 rfl (hb K.2.2.1 hd) rfl hr) G
theorem g_i2b (K : Cx p s m meth c Z own nm bytes maxL ret) (W : Wd p l e R s m args below meth c n0 T h cs ss) {x : Int32} (hd : decode bytes pc = .ok (.i2b, 1)) (hp : pc + 1 = pc') (G : Go p e below s n0 Q rc rs T (mkF m pc' Ls (.int (x.toInt8.toInt32) :: st))) : Go p e below s n0 Q rc rs T (mkF m pc Ls (.int x :: st)) := by
  obtain ⟨_, X, -⟩ := W; subst hp
  exact Go.stp (g' := mkF m (pc + 1) Ls (.int (x.toInt8.toInt32) :: st)) (fun _ hr => XS.i2b X.here K.1 rfl (hb K.2.2.1 hd) rfl hr) G
theorem g_i2c (K : Cx p s m meth c Z own nm bytes maxL ret) (W : Wd p l e R s m args below meth c n0 T h cs ss) {x : Int32} (hd : decode bytes pc = .ok (.i2c, 1)) (hp : pc + 1 = pc') (G : Go p e below s n0 Q rc rs T (mkF m pc' Ls (.int (x.toUInt32.toUInt16.toUInt32.toInt32) :: st))) : Go p e below s n0 Q rc rs T (mkF m pc Ls (.int x :: st)) := by
  obtain ⟨_, X, -⟩ := W; subst hp
  exact Go.stp (g' := mkF m (pc + 1) Ls (.int (x.toUInt32.toUInt16.toUInt32.toInt32) :: st)) (fun _ hr => XS.i2c X.here K.1 rfl (hb K.2.2.1 hd) rfl hr) G
theorem g_i2s (K : Cx p s m meth c Z own nm bytes maxL ret) (W : Wd p l e R s m args below meth c n0 T h cs ss) {x : Int32} (hd : decode bytes pc = .ok (.i2s, 1)) (hp : pc + 1 = pc') (G : Go p e below s n0 Q rc rs T (mkF m pc' Ls (.int (x.toInt16.toInt32) :: st))) : Go p e below s n0 Q rc rs T (mkF m pc Ls (.int x :: st)) := by
  obtain ⟨_, X, -⟩ := W; subst hp
  exact Go.stp (g' := mkF m (pc + 1) Ls (.int (x.toInt16.toInt32) :: st)) (fun _ hr => XS.i2s X.here K.1 rfl (hb K.2.2.1 hd) rfl hr) G
theorem g_i2l (K : Cx p s m meth c Z own nm bytes maxL ret) (W : Wd p l e R s m args below meth c n0 T h cs ss) {x : Int32} (hd : decode bytes pc = .ok (.i2l, 1)) (hp : pc + 1 = pc') (G : Go p e below s n0 Q rc rs T (mkF m pc' Ls (.long (x.toInt64) :: st))) : Go p e below s n0 Q rc rs T (mkF m pc Ls (.int x :: st)) := by
  obtain ⟨_, X, -⟩ := W; subst hp
  exact Go.stp (g' := mkF m (pc + 1) Ls (.long (x.toInt64) :: st)) (fun _ hr => XS.i2l X.here K.1 rfl (hb K.2.2.1 hd) rfl hr) G
theorem g_l2i (K : Cx p s m meth c Z own nm bytes maxL ret) (W : Wd p l e R s m args below meth c n0 T h cs ss) {x : Int64} (hd : decode bytes pc = .ok (.l2i, 1)) (hp : pc + 1 = pc') (G : Go p e below s n0 Q rc rs T (mkF m pc' Ls (.int (x.toInt32) :: st))) : Go p e below s n0 Q rc rs T (mkF m pc Ls (.long x :: st)) := by
  obtain ⟨_, X, -⟩ := W; subst hp
  exact Go.stp (g' := mkF m (pc + 1) Ls (.int (x.toInt32) :: st)) (fun _ hr => XS.l2i X.here K.1 rfl (hb K.2.2.1 hd) rfl hr) G
theorem g_lneg (K : Cx p s m meth c Z own nm bytes maxL ret) (W : Wd p l e R s m args below meth c n0 T h cs ss) {x : Int64} (hd : decode bytes pc = .ok (.lneg, 1)) (hp : pc + 1 = pc') (G : Go p e below s n0 Q rc rs T (mkF m pc' Ls (.long (-x) :: st))) : Go p e below s n0 Q rc rs T (mkF m pc Ls (.long x :: st)) := by
  obtain ⟨_, X, -⟩ := W; subst hp
  exact Go.stp (g' := mkF m (pc + 1) Ls (.long (-x) :: st)) (fun _ hr => XS.lneg X.here K.1 rfl (hb K.2.2.1 hd) rfl hr) G
theorem g_iinc (K : Cx p s m meth c Z own nm bytes maxL ret) (W : Wd p l e R s m args below meth c n0 T h cs ss) {k : Nat} {cst : Int} {x : Int32} (hd : decode bytes pc = .ok (.iinc k cst, 3)) (hl : Ls[k]? = some (.val (.int x))) (hl' : storeLocals Ls k (.int (x + Int32.ofInt cst)) = some Ls') (hp : pc + 3 = pc') (G : Go p e below s n0 Q rc rs T (mkF m pc' Ls' st)) : Go p e below s n0 Q rc rs T (mkF m pc Ls st) := by
  obtain ⟨_, X, -⟩ := W; subst hp
  exact Go.stp (g' := mkF m (pc + 3) Ls' st) (fun _ hr => XS.iinc X.here K.1 rfl (hb K.2.2.1 hd) hl hl' hr) G
theorem g_dup (K : Cx p s m meth c Z own nm bytes maxL ret) (W : Wd p l e R s m args below meth c n0 T h cs ss) {x : Value} (hd : decode bytes pc = .ok (.dup, 1)) (hc : x.category = 1) (hp : pc + 1 = pc') (G : Go p e below s n0 Q rc rs T (mkF m pc' Ls (x :: x :: st))) : Go p e below s n0 Q rc rs T (mkF m pc Ls (x :: st)) := by
  obtain ⟨_, X, -⟩ := W; subst hp
  exact Go.stp (g' := mkF m (pc + 1) Ls (x :: x :: st)) (fun _ hr => XS.dup X.here K.1 rfl (hb K.2.2.1 hd) rfl hc hr) G
theorem g_pop (K : Cx p s m meth c Z own nm bytes maxL ret) (W : Wd p l e R s m args below meth c n0 T h cs ss) {x : Value} (hd : decode bytes pc = .ok (.pop, 1)) (hc : x.category = 1) (hp : pc + 1 = pc') (G : Go p e below s n0 Q rc rs T (mkF m pc' Ls st)) : Go p e below s n0 Q rc rs T (mkF m pc Ls (x :: st)) := by
  obtain ⟨_, X, -⟩ := W; subst hp
  exact Go.stp (g' := mkF m (pc + 1) Ls st) (fun _ hr => XS.pop X.here K.1 rfl (hb K.2.2.1 hd) rfl hc hr) G
theorem g_dup_x1 (K : Cx p s m meth c Z own nm bytes maxL ret) (W : Wd p l e R s m args below meth c n0 T h cs ss) {x y : Value} (hd : decode bytes pc = .ok (.dup_x1, 1)) (hc : x.category = 1) (hc2 : y.category = 1) (hp : pc + 1 = pc') (G : Go p e below s n0 Q rc rs T (mkF m pc' Ls (x :: y :: x :: st))) : Go p e below s n0 Q rc rs T (mkF m pc Ls (x :: y :: st)) := by
  obtain ⟨_, X, -⟩ := W; subst hp
  exact Go.stp (g' := mkF m (pc + 1) Ls (x :: y :: x :: st)) (fun _ hr => XS.dupX1 X.here K.1 rfl (hb K.2.2.1 hd) rfl hc hc2 hr) G
theorem g_dup2 (K : Cx p s m meth c Z own nm bytes maxL ret) (W : Wd p l e R s m args below meth c n0 T h cs ss) {x y : Value} (hd : decode bytes pc = .ok (.dup2, 1)) (hc : x.category = 1) (hc2 : y.category = 1) (hp : pc + 1 = pc') (G : Go p e below s n0 Q rc rs T (mkF m pc' Ls (x :: y :: x :: y :: st))) : Go p e below s n0 Q rc rs T (mkF m pc Ls (x :: y :: st)) := by
  obtain ⟨_, X, -⟩ := W; subst hp
  exact Go.stp (g' := mkF m (pc + 1) Ls (x :: y :: x :: y :: st)) (fun _ hr => XT.dup2 X.here K.1 rfl (hb K.2.2.1 hd) rfl hc hc2 hr) G
theorem g_dup2L (K : Cx p s m meth c Z own nm bytes maxL ret) (W : Wd p l e R s m args below meth c n0 T h cs ss) {x : Int64} (hd : decode bytes pc = .ok (.dup2, 1)) (hp : pc + 1 = pc') (G : Go p e below s n0 Q rc rs T (mkF m pc' Ls (.long x :: .long x :: st))) : Go p e below s n0 Q rc rs T (mkF m pc Ls (.long x :: st)) := by
  obtain ⟨_, X, -⟩ := W; subst hp
  exact Go.stp (g' := mkF m (pc + 1) Ls (.long x :: .long x :: st)) (fun _ hr => XT.dup2L X.here K.1 rfl (hb K.2.2.1 hd) rfl hr) G
theorem own_jmp {o : Int} (ht : (pc : Int) + o = (pt : Int)) : 0 ≤ (pc : Int) + o ∧ ((pc : Int) + o).toNat = pt := by omega
theorem g_goto (K : Cx p s m meth c Z own nm bytes maxL ret) (W : Wd p l e R s m args below meth c n0 T h cs ss) {o : Int} (hd : decode bytes pc = .ok (.goto o, 3)) (ht : (pc : Int) + o = (pt : Int)) (G : Go p e below s n0 Q rc rs T (mkF m pt Ls st)) : Go p e below s n0 Q rc rs T (mkF m pc Ls st) := by
  obtain ⟨_, X, -⟩ := W
  exact Go.stp (g' := mkF m pt Ls st) (fun _ hr => XS.goto X.here K.1 rfl (pc0 := pc) rfl (hb K.2.2.1 hd) (own_jmp ht).1 (own_jmp ht).2 hr) G
theorem g_icmp_eq (K : Cx p s m meth c Z own nm bytes maxL ret) (W : Wd p l e R s m args below meth c n0 T h cs ss) {x y : Int32} {o : Int} (hd : decode bytes pc = .ok (.if_icmp .eq o, 3)) (ht : (pc : Int) + o = (pt : Int)) (hp : pc + 3 = pf) (Gp : x = y → Go p e below s n0 Q rc rs T (mkF m pt Ls st)) (Gn : ¬ (x = y) → Go p e below s n0 Q rc rs T (mkF m pf Ls st)) : Go p e below s n0 Q rc rs T (mkF m pc Ls (.int y :: .int x :: st)) := by
  obtain ⟨_, X, -⟩ := W; subst hp
  by_cases q : x = y
  · exact Go.stp (g' := mkF m pt Ls st) (fun _ hr => XS.icmpYes X.here K.1 rfl (pc0 := pc) rfl (hb K.2.2.1 hd) rfl (Jvm.Free.XT.ii_eq_t q) (own_jmp ht).1 (own_jmp ht).2 hr) (Gp q)
  · exact Go.stp (g' := mkF m (pc + 3) Ls st) (fun _ hr => XS.icmpNo X.here K.1 rfl (hb K.2.2.1 hd) rfl (Jvm.Free.XT.ii_eq_f q) hr) (Gn q)
theorem g_if_eq (K : Cx p s m meth c Z own nm bytes maxL ret) (W : Wd p l e R s m args below meth c n0 T h cs ss) {x : Int32} {o : Int} (hd : decode bytes pc = .ok (.ifCond .eq o, 3)) (ht : (pc : Int) + o = (pt : Int)) (hp : pc + 3 = pf) (Gp : x = 0 → Go p e below s n0 Q rc rs T (mkF m pt Ls st)) (Gn : ¬ (x = 0) → Go p e below s n0 Q rc rs T (mkF m pf Ls st)) : Go p e below s n0 Q rc rs T (mkF m pc Ls (.int x :: st)) := by
  obtain ⟨_, X, -⟩ := W; subst hp
  by_cases q : x = 0
  · exact Go.stp (g' := mkF m pt Ls st) (fun _ hr => XS.ifYes X.here K.1 rfl (pc0 := pc) rfl (hb K.2.2.1 hd) rfl (Jvm.Free.XT.i0_eq_t q) (own_jmp ht).1 (own_jmp ht).2 hr) (Gp q)
  · exact Go.stp (g' := mkF m (pc + 3) Ls st) (fun _ hr => XS.ifNo X.here K.1 rfl (hb K.2.2.1 hd) rfl (Jvm.Free.XT.i0_eq_f q) hr) (Gn q)
theorem g_lcmp_eq (K : Cx p s m meth c Z own nm bytes maxL ret) (W : Wd p l e R s m args below meth c n0 T h cs ss) {x y : Int64} {o : Int} {pc1 : Nat} (hd0 : decode bytes pc = .ok (.lcmp, 1)) (hp0 : pc + 1 = pc1) (hd : decode bytes pc1 = .ok (.ifCond .eq o, 3)) (ht : (pc1 : Int) + o = (pt : Int)) (hp : pc1 + 3 = pf) (Gp : x = y → Go p e below s n0 Q rc rs T (mkF m pt Ls st)) (Gn : ¬ (x = y) → Go p e below s n0 Q rc rs T (mkF m pf Ls st)) : Go p e below s n0 Q rc rs T (mkF m pc Ls (.long y :: .long x :: st)) := by
  obtain ⟨_, X, -⟩ := W; subst hp hp0
  refine Go.stp (g' := mkF m (pc + 1) Ls (.int (Jvm.Free.XT.cmpL x y) :: st)) (fun _ hr => XS.lcmp X.here K.1 rfl (hb K.2.2.1 hd0) rfl hr) ?_
  by_cases q : x = y
  · exact Go.stp (g' := mkF m pt Ls st) (fun _ hr => XS.ifYes X.here K.1 rfl (pc0 := pc + 1) rfl (hb K.2.2.1 hd) rfl (Jvm.Free.XT.ll_eq_t q) (own_jmp ht).1 (own_jmp ht).2 hr) (Gp q)
  · exact Go.stp (g' := mkF m (pc + 1 + 3) Ls st) (fun _ hr => XS.ifNo X.here K.1 rfl (hb K.2.2.1 hd) rfl (Jvm.Free.XT.ll_eq_f q) hr) (Gn q)
theorem g_icmp_ne (K : Cx p s m meth c Z own nm bytes maxL ret) (W : Wd p l e R s m args below meth c n0 T h cs ss) {x y : Int32} {o : Int} (hd : decode bytes pc = .ok (.if_icmp .ne o, 3)) (ht : (pc : Int) + o = (pt : Int)) (hp : pc + 3 = pf) (Gp : x = y → Go p e below s n0 Q rc rs T (mkF m pf Ls st)) (Gn : ¬ (x = y) → Go p e below s n0 Q rc rs T (mkF m pt Ls st)) : Go p e below s n0 Q rc rs T (mkF m pc Ls (.int y :: .int x :: st)) := by
  obtain ⟨_, X, -⟩ := W; subst hp
  by_cases q : x = y
  · exact Go.stp (g' := mkF m (pc + 3) Ls st) (fun _ hr => XS.icmpNo X.here K.1 rfl (hb K.2.2.1 hd) rfl (Jvm.Free.XT.ii_ne_f q) hr) (Gp q)
  · exact Go.stp (g' := mkF m pt Ls st) (fun _ hr => XS.icmpYes X.here K.1 rfl (pc0 := pc) rfl (hb K.2.2.1 hd) rfl (Jvm.Free.XT.ii_ne_t q) (own_jmp ht).1 (own_jmp ht).2 hr) (Gn q)
theorem g_if_ne (K : Cx p s m meth c Z own nm bytes maxL ret) (W : Wd p l e R s m args below meth c n0 T h cs ss) {x : Int32} {o : Int} (hd : decode bytes pc = .ok (.ifCond .ne o, 3)) (ht : (pc : Int) + o = (pt : Int)) (hp : pc + 3 = pf) (Gp : x = 0 → Go p e below s n0 Q rc rs T (mkF m pf Ls st)) (Gn : ¬ (x = 0) → Go p e below s n0 Q rc rs T (mkF m pt Ls st)) : Go p e below s n0 Q rc rs T (mkF m pc Ls (.int x :: st)) := by
  obtain ⟨_, X, -⟩ := W; subst hp
  by_cases q : x = 0
  · exact Go.stp (g' := mkF m (pc + 3) Ls st) (fun _ hr => XS.ifNo X.here K.1 rfl (hb K.2.2.1 hd) rfl (Jvm.Free.XT.i0_ne_f q) hr) (Gp q)
  · exact Go.stp (g' := mkF m pt Ls st) (fun _ hr => XS.ifYes X.here K.1 rfl (pc0 := pc) rfl (hb K.2.2.1 hd) rfl (Jvm.Free.XT.i0_ne_t q) (own_jmp ht).1 (own_jmp ht).2 hr) (Gn q)
theorem g_lcmp_ne (K : Cx p s m meth c Z own nm bytes maxL ret) (W : Wd p l e R s m args below meth c n0 T h cs ss) {x y : Int64} {o : Int} {pc1 : Nat} (hd0 : decode bytes pc = .ok (.lcmp, 1)) (hp0 : pc + 1 = pc1) (hd : decode bytes pc1 = .ok (.ifCond .ne o, 3)) (ht : (pc1 : Int) + o = (pt : Int)) (hp : pc1 + 3 = pf) (Gp : x = y → Go p e below s n0 Q rc rs T (mkF m pf Ls st)) (Gn : ¬ (x = y) → Go p e below s n0 Q rc rs T (mkF m pt Ls st)) : Go p e below s n0 Q rc rs T (mkF m pc Ls (.long y :: .long x :: st)) := by
  obtain ⟨_, X, -⟩ := W; subst hp hp0
  refine Go.stp (g' := mkF m (pc + 1) Ls (.int (Jvm.Free.XT.cmpL x y) :: st)) (fun _ hr => XS.lcmp X.here K.1 rfl (hb K.2.2.1 hd0) rfl hr) ?_
  by_cases q : x = y
  · exact Go.stp (g' := mkF m (pc + 1 + 3) Ls st) (fun _ hr => XS.ifNo X.here K.1 rfl (hb K.2.2.1 hd) rfl (Jvm.Free.XT.ll_ne_f q) hr) (Gp q)
  · exact Go.stp (g' := mkF m pt Ls st) (fun _ hr => XS.ifYes X.here K.1 rfl (pc0 := pc + 1) rfl (hb K.2.2.1 hd) rfl (Jvm.Free.XT.ll_ne_t q) (own_jmp ht).1 (own_jmp ht).2 hr) (Gn q)
theorem g_icmp_lt (K : Cx p s m meth c Z own nm bytes maxL ret) (W : Wd p l e R s m args below meth c n0 T h cs ss) {x y : Int32} {o : Int} (hd : decode bytes pc = .ok (.if_icmp .lt o, 3)) (ht : (pc : Int) + o = (pt : Int)) (hp : pc + 3 = pf) (Gp : x < y → Go p e below s n0 Q rc rs T (mkF m pt Ls st)) (Gn : ¬ (x < y) → Go p e below s n0 Q rc rs T (mkF m pf Ls st)) : Go p e below s n0 Q rc rs T (mkF m pc Ls (.int y :: .int x :: st)) := by
  obtain ⟨_, X, -⟩ := W; subst hp
  by_cases q : x < y
  · exact Go.stp (g' := mkF m pt Ls st) (fun _ hr => XS.icmpYes X.here K.1 rfl (pc0 := pc) rfl (hb K.2.2.1 hd) rfl (Jvm.Free.XT.ii_lt_t q) (own_jmp ht).1 (own_jmp ht).2 hr) (Gp q)
  · exact Go.stp (g' := mkF m (pc + 3) Ls st) (fun _ hr => XS.icmpNo X.here K.1 rfl (hb K.2.2.1 hd) rfl (Jvm.Free.XT.ii_lt_f q) hr) (Gn q)
theorem g_if_lt (K : Cx p s m meth c Z own nm bytes maxL ret) (W : Wd p l e R s m args below meth c n0 T h cs ss) {x : Int32} {o : Int} (hd : decode bytes pc = .ok (.ifCond .lt o, 3)) (ht : (pc : Int) + o = (pt : Int)) (hp : pc + 3 = pf) (Gp : x < 0 → Go p e below s n0 Q rc rs T (mkF m pt Ls st)) (Gn : ¬ (x < 0) → Go p e below s n0 Q rc rs T (mkF m pf Ls st)) : Go p e below s n0 Q rc rs T (mkF m pc Ls (.int x :: st)) := by
  obtain ⟨_, X, -⟩ := W; subst hp
  by_cases q : x < 0
  · exact Go.stp (g' := mkF m pt Ls st) (fun _ hr => XS.ifYes X.here K.1 rfl (pc0 := pc) rfl (hb K.2.2.1 hd) rfl (Jvm.Free.XT.i0_lt_t q) (own_jmp ht).1 (own_jmp ht).2 hr) (Gp q)
  · exact Go.stp (g' := mkF m (pc + 3) Ls st) (fun _ hr => XS.ifNo X.here K.1 rfl (hb K.2.2.1 hd) rfl (Jvm.Free.XT.i0_lt_f q) hr) (Gn q)
theorem g_lcmp_lt (K : Cx p s m meth c Z own nm bytes maxL ret) (W : Wd p l e R s m args below meth c n0 T h cs ss) {x y : Int64} {o : Int} {pc1 : Nat} (hd0 : decode bytes pc = .ok (.lcmp, 1)) (hp0 : pc + 1 = pc1) (hd : decode bytes pc1 = .ok (.ifCond .lt o, 3)) (ht : (pc1 : Int) + o = (pt : Int)) (hp : pc1 + 3 = pf) (Gp : x < y → Go p e below s n0 Q rc rs T (mkF m pt Ls st)) (Gn : ¬ (x < y) → Go p e below s n0 Q rc rs T (mkF m pf Ls st)) : Go p e below s n0 Q rc rs T (mkF m pc Ls (.long y :: .long x :: st)) := by
  obtain ⟨_, X, -⟩ := W; subst hp hp0
  refine Go.stp (g' := mkF m (pc + 1) Ls (.int (Jvm.Free.XT.cmpL x y) :: st)) (fun _ hr => XS.lcmp X.here K.1 rfl (hb K.2.2.1 hd0) rfl hr) ?_
  by_cases q : x < y
  · exact Go.stp (g' := mkF m pt Ls st) (fun _ hr => XS.ifYes X.here K.1 rfl (pc0 := pc + 1) rfl (hb K.2.2.1 hd) rfl (Jvm.Free.XT.ll_lt_t q) (own_jmp ht).1 (own_jmp ht).2 hr) (Gp q)
  · exact Go.stp (g' := mkF m (pc + 1 + 3) Ls st) (fun _ hr => XS.ifNo X.here K.1 rfl (hb K.2.2.1 hd) rfl (Jvm.Free.XT.ll_lt_f q) hr) (Gn q)
theorem g_icmp_ge (K : Cx p s m meth c Z own nm bytes maxL ret) (W : Wd p l e R s m args below meth c n0 T h cs ss) {x y : Int32} {o : Int} (hd : decode bytes pc = .ok (.if_icmp .ge o, 3)) (ht : (pc : Int) + o = (pt : Int)) (hp : pc + 3 = pf) (Gp : x < y → Go p e below s n0 Q rc rs T (mkF m pf Ls st)) (Gn : ¬ (x < y) → Go p e below s n0 Q rc rs T (mkF m pt Ls st)) : Go p e below s n0 Q rc rs T (mkF m pc Ls (.int y :: .int x :: st)) := by
  obtain ⟨_, X, -⟩ := W; subst hp
  by_cases q : x < y
  · exact Go.stp (g' := mkF m (pc + 3) Ls st) (fun _ hr => XS.icmpNo X.here K.1 rfl (hb K.2.2.1 hd) rfl (Jvm.Free.XT.ii_ge_f q) hr) (Gp q)
  · exact Go.stp (g' := mkF m pt Ls st) (fun _ hr => XS.icmpYes X.here K.1 rfl (pc0 := pc) rfl (hb K.2.2.1 hd) rfl (Jvm.Free.XT.ii_ge_t q) (own_jmp ht).1 (own_jmp ht).2 hr) (Gn q)
theorem g_if_ge (K : Cx p s m meth c Z own nm bytes maxL ret) (W : Wd p l e R s m args below meth c n0 T h cs ss) {x : Int32} {o : Int} (hd : decode bytes pc = .ok (.ifCond .ge o, 3)) (ht : (pc : Int) + o = (pt : Int)) (hp : pc + 3 = pf) (Gp : x < 0 → Go p e below s n0 Q rc rs T (mkF m pf Ls st)) (Gn : ¬ (x < 0) → Go p e below s n0 Q rc rs T (mkF m pt Ls st)) : Go p e below s n0 Q rc rs T (mkF m pc Ls (.int x :: st)) := by
  obtain ⟨_, X, -⟩ := W; subst hp
  by_cases q : x < 0
  · exact Go.stp (g' := mkF m (pc + 3) Ls st) (fun _ hr => XS.ifNo X.here K.1 rfl (hb K.2.2.1 hd) rfl (Jvm.Free.XT.i0_ge_f q) hr) (Gp q)
  · exact Go.stp (g' := mkF m pt Ls st) (fun _ hr => XS.ifYes X.here K.1 rfl (pc0 := pc) rfl (hb K.2.2.1 hd) rfl (Jvm.Free.XT.i0_ge_t q) (own_jmp ht).1 (own_jmp ht).2 hr) (Gn q)
theorem g_lcmp_ge (K : Cx p s m meth c Z own nm bytes maxL ret) (W : Wd p l e R s m args below meth c n0 T h cs ss) {x y : Int64} {o : Int} {pc1 : Nat} (hd0 : decode bytes pc = .ok (.lcmp, 1)) (hp0 : pc + 1 = pc1) (hd : decode bytes pc1 = .ok (.ifCond .ge o, 3)) (ht : (pc1 : Int) + o = (pt : Int)) (hp : pc1 + 3 = pf) (Gp : x < y → Go p e below s n0 Q rc rs T (mkF m pf Ls st)) (Gn : ¬ (x < y) → Go p e below s n0 Q rc rs T (mkF m pt Ls st)) : Go p e below s n0 Q rc rs T (mkF m pc Ls (.long y :: .long x :: st)) := by
  obtain ⟨_, X, -⟩ := W; subst hp hp0
  refine Go.stp (g' := mkF m (pc + 1) Ls (.int (Jvm.Free.XT.cmpL x y) :: st)) (fun _ hr => XS.lcmp X.here K.1 rfl (hb K.2.2.1 hd0) rfl hr) ?_
  by_cases q : x < y
  · exact Go.stp (g' := mkF m (pc + 1 + 3) Ls st) (fun _ hr => XS.ifNo X.here K.1 rfl (hb K.2.2.1 hd) rfl (Jvm.Free.XT.ll_ge_f q) hr) (Gp q)
  · exact Go.stp (g' := mkF m pt Ls st) (fun _ hr => XS.ifYes X.here K.1 rfl (pc0 := pc + 1) rfl (hb K.2.2.1 hd) rfl (Jvm.Free.XT.ll_ge_t q) (own_jmp ht).1 (own_jmp ht).2 hr) (Gn q)
theorem g_icmp_gt (K : Cx p s m meth c Z own nm bytes maxL ret) (W : Wd p l e R s m args below meth c n0 T h cs ss) {x y : Int32} {o : Int} (hd : decode bytes pc = .ok (.if_icmp .gt o, 3)) (ht : (pc : Int) + o = (pt : Int)) (hp : pc + 3 = pf) (Gp : y < x → Go p e below s n0 Q rc rs T (mkF m pt Ls st)) (Gn : ¬ (y < x) → Go p e below s n0 Q rc rs T (mkF m pf Ls st)) : Go p e below s n0 Q rc rs T (mkF m pc Ls (.int y :: .int x :: st)) := by
  obtain ⟨_, X, -⟩ := W; subst hp
  by_cases q : y < x
  · exact Go.stp (g' := mkF m pt Ls st) (fun _ hr => XS.icmpYes X.here K.1 rfl (pc0 := pc) rfl (hb K.2.2.1 hd) rfl (Jvm.Free.XT.ii_gt_t q) (own_jmp ht).1 (own_jmp ht).2 hr) (Gp q)
  · exact Go.stp (g' := mkF m (pc + 3) Ls st) (fun _ hr => XS.icmpNo X.here K.1 rfl (hb K.2.2.1 hd) rfl (Jvm.Free.XT.ii_gt_f q) hr) (Gn q)
theorem g_if_gt (K : Cx p s m meth c Z own nm bytes maxL ret) (W : Wd p l e R s m args below meth c n0 T h cs ss) {x : Int32} {o : Int} (hd : decode bytes pc = .ok (.ifCond .gt o, 3)) (ht : (pc : Int) + o = (pt : Int)) (hp : pc + 3 = pf) (Gp : 0 < x → Go p e below s n0 Q rc rs T (mkF m pt Ls st)) (Gn : ¬ (0 < x) → Go p e below s n0 Q rc rs T (mkF m pf Ls st)) : Go p e below s n0 Q rc rs T (mkF m pc Ls (.int x :: st)) := by
  obtain ⟨_, X, -⟩ := W; subst hp
  by_cases q : 0 < x
  · exact Go.stp (g' := mkF m pt Ls st) (fun _ hr => XS.ifYes X.here K.1 rfl (pc0 := pc) rfl (hb K.2.2.1 hd) rfl (Jvm.Free.XT.i0_gt_t q) (own_jmp ht).1 (own_jmp ht).2 hr) (Gp q)
  · exact Go.stp (g' := mkF m (pc + 3) Ls st) (fun _ hr => XS.ifNo X.here K.1 rfl (hb K.2.2.1 hd) rfl (Jvm.Free.XT.i0_gt_f q) hr) (Gn q)
theorem g_lcmp_gt (K : Cx p s m meth c Z own nm bytes maxL ret) (W : Wd p l e R s m args below meth c n0 T h cs ss) {x y : Int64} {o : Int} {pc1 : Nat} (hd0 : decode bytes pc = .ok (.lcmp, 1)) (hp0 : pc + 1 = pc1) (hd : decode bytes pc1 = .ok (.ifCond .gt o, 3)) (ht : (pc1 : Int) + o = (pt : Int)) (hp : pc1 + 3 = pf) (Gp : y < x → Go p e below s n0 Q rc rs T (mkF m pt Ls st)) (Gn : ¬ (y < x) → Go p e below s n0 Q rc rs T (mkF m pf Ls st)) : Go p e below s n0 Q rc rs T (mkF m pc Ls (.long y :: .long x :: st)) := by
  obtain ⟨_, X, -⟩ := W; subst hp hp0
  refine Go.stp (g' := mkF m (pc + 1) Ls (.int (Jvm.Free.XT.cmpL x y) :: st)) (fun _ hr => XS.lcmp X.here K.1 rfl (hb K.2.2.1 hd0) rfl hr) ?_
  by_cases q : y < x
  · exact Go.stp (g' := mkF m pt Ls st) (fun _ hr => XS.ifYes X.here K.1 rfl (pc0 := pc + 1) rfl (hb K.2.2.1 hd) rfl (Jvm.Free.XT.ll_gt_t q) (own_jmp ht).1 (own_jmp ht).2 hr) (Gp q)
  · exact Go.stp (g' := mkF m (pc + 1 + 3) Ls st) (fun _ hr => XS.ifNo X.here K.1 rfl (hb K.2.2.1 hd) rfl (Jvm.Free.XT.ll_gt_f q) hr) (Gn q)
theorem g_icmp_le (K : Cx p s m meth c Z own nm bytes maxL ret) (W : Wd p l e R s m args below meth c n0 T h cs ss) {x y : Int32} {o : Int} (hd : decode bytes pc = .ok (.if_icmp .le o, 3)) (ht : (pc : Int) + o = (pt : Int)) (hp : pc + 3 = pf) (Gp : y < x → Go p e below s n0 Q rc rs T (mkF m pf Ls st)) (Gn : ¬ (y < x) → Go p e below s n0 Q rc rs T (mkF m pt Ls st)) : Go p e below s n0 Q rc rs T (mkF m pc Ls (.int y :: .int x :: st)) := by
  obtain ⟨_, X, -⟩ := W; subst hp
  by_cases q : y < x
  · exact Go.stp (g' := mkF m (pc + 3) Ls st) (fun _ hr => XS.icmpNo X.here K.1 rfl (hb K.2.2.1 hd) rfl (Jvm.Free.XT.ii_le_f q) hr) (Gp q)
  · exact Go.stp (g' := mkF m pt Ls st) (fun _ hr => XS.icmpYes X.here K.1 rfl (pc0 := pc) rfl (hb K.2.2.1 hd) rfl (Jvm.Free.XT.ii_le_t q) (own_jmp ht).1 (own_jmp ht).2 hr) (Gn q)
theorem g_if_le (K : Cx p s m meth c Z own nm bytes maxL ret) (W : Wd p l e R s m args below meth c n0 T h cs ss) {x : Int32} {o : Int} (hd : decode bytes pc = .ok (.ifCond .le o, 3)) (ht : (pc : Int) + o = (pt : Int)) (hp : pc + 3 = pf) (Gp : 0 < x → Go p e below s n0 Q rc rs T (mkF m pf Ls st)) (Gn : ¬ (0 < x) → Go p e below s n0 Q rc rs T (mkF m pt Ls st)) : Go p e below s n0 Q rc rs T (mkF m pc Ls (.int x :: st)) := by
  obtain ⟨_, X, -⟩ := W; subst hp
  by_cases q : 0 < x
  · exact Go.stp (g' := mkF m (pc + 3) Ls st) (fun _ hr => XS.ifNo X.here K.1 rfl (hb K.2.2.1 hd) rfl (Jvm.Free.XT.i0_le_f q) hr) (Gp q)
  · exact Go.stp (g' := mkF m pt Ls st) (fun _ hr => XS.ifYes X.here K.1 rfl (pc0 := pc) rfl (hb K.2.2.1 hd) rfl (Jvm.Free.XT.i0_le_t q) (own_jmp ht).1 (own_jmp ht).2 hr) (Gn q)
theorem g_lcmp_le (K : Cx p s m meth c Z own nm bytes maxL ret) (W : Wd p l e R s m args below meth c n0 T h cs ss) {x y : Int64} {o : Int} {pc1 : Nat} (hd0 : decode bytes pc = .ok (.lcmp, 1)) (hp0 : pc + 1 = pc1) (hd : decode bytes pc1 = .ok (.ifCond .le o, 3)) (ht : (pc1 : Int) + o = (pt : Int)) (hp : pc1 + 3 = pf) (Gp : y < x → Go p e below s n0 Q rc rs T (mkF m pf Ls st)) (Gn : ¬ (y < x) → Go p e below s n0 Q rc rs T (mkF m pt Ls st)) : Go p e below s n0 Q rc rs T (mkF m pc Ls (.long y :: .long x :: st)) := by
  obtain ⟨_, X, -⟩ := W; subst hp hp0
  refine Go.stp (g' := mkF m (pc + 1) Ls (.int (Jvm.Free.XT.cmpL x y) :: st)) (fun _ hr => XS.lcmp X.here K.1 rfl (hb K.2.2.1 hd0) rfl hr) ?_
  by_cases q : y < x
  · exact Go.stp (g' := mkF m (pc + 1 + 3) Ls st) (fun _ hr => XS.ifNo X.here K.1 rfl (hb K.2.2.1 hd) rfl (Jvm.Free.XT.ll_le_f q) hr) (Gp q)
  · exact Go.stp (g' := mkF m pt Ls st) (fun _ hr => XS.ifYes X.here K.1 rfl (pc0 := pc + 1) rfl (hb K.2.2.1 hd) rfl (Jvm.Free.XT.ll_le_t q) (own_jmp ht).1 (own_jmp ht).2 hr) (Gn q)
theorem g_ifnull_t (K : Cx p s m meth c Z own nm bytes maxL ret) (W : Wd p l e R s m args below meth c n0 T h cs ss) {o : Int} (hd : decode bytes pc = .ok (.ifnull o, 3)) (ht : (pc : Int) + o = (pt : Int)) (G : Go p e below s n0 Q rc rs T (mkF m pt Ls st)) : Go p e below s n0 Q rc rs T (mkF m pc Ls (.null :: st)) := by
  obtain ⟨_, X, -⟩ := W
  exact Go.stp (g' := mkF m pt Ls st) (fun _ hr => XS.ifnullYes X.here K.1 rfl (pc0 := pc) rfl (hb K.2.2.1 hd) rfl (own_jmp ht).1 (own_jmp ht).2 hr) G
theorem g_ifnull_f (K : Cx p s m meth c Z own nm bytes maxL ret) (W : Wd p l e R s m args below meth c n0 T h cs ss) {o : Int} {b : Addr} (hd : decode bytes pc = .ok (.ifnull o, 3)) (hp : pc + 3 = pf) (G : Go p e below s n0 Q rc rs T (mkF m pf Ls st)) : Go p e below s n0 Q rc rs T (mkF m pc Ls (.ref b :: st)) := by
  obtain ⟨_, X, -⟩ := W; subst hp
  exact Go.stp (g' := mkF m (pc + 3) Ls st) (fun _ hr => XS.ifnullNo X.here K.1 rfl (hb K.2.2.1 hd) rfl hr) G
theorem g_ifnonnull_t (K : Cx p s m meth c Z own nm bytes maxL ret) (W : Wd p l e R s m args below meth c n0 T h cs ss) {o : Int} {b : Addr} (hd : decode bytes pc = .ok (.ifnonnull o, 3)) (ht : (pc : Int) + o = (pt : Int)) (G : Go p e below s n0 Q rc rs T (mkF m pt Ls st)) : Go p e below s n0 Q rc rs T (mkF m pc Ls (.ref b :: st)) := by
  obtain ⟨_, X, -⟩ := W
  exact Go.stp (g' := mkF m pt Ls st) (fun _ hr => XS.ifnonnullYes X.here K.1 rfl (pc0 := pc) rfl (hb K.2.2.1 hd) rfl (own_jmp ht).1 (own_jmp ht).2 hr) G
theorem g_ifnonnull_f (K : Cx p s m meth c Z own nm bytes maxL ret) (W : Wd p l e R s m args below meth c n0 T h cs ss) {o : Int} (hd : decode bytes pc = .ok (.ifnonnull o, 3)) (hp : pc + 3 = pf) (G : Go p e below s n0 Q rc rs T (mkF m pf Ls st)) : Go p e below s n0 Q rc rs T (mkF m pc Ls (.null :: st)) := by
  obtain ⟨_, X, -⟩ := W; subst hp
  exact Go.stp (g' := mkF m (pc + 3) Ls st) (fun _ hr => XS.ifnonnullNo X.here K.1 rfl (hb K.2.2.1 hd) rfl hr) G
/-! the steps that read the tables or the heap -/
theorem Wd.sz (W : Wd p l e R s m args below meth c n0 T h cs ss) : n0 ≤ h.size := by
  obtain ⟨_, X, _, eT, q⟩ := W
  have r : s.heap.size ≤ T.heap.size := X.same.2.1
  rw [eT] at r
  exact Nat.le_trans q r
theorem g_getF (K : Cx p s m meth c Z own nm bytes maxL ret) (W : Wd p l e R s m args below meth c n0 T h cs ss) {R0 O n d host : String} {index : Nat} {a : Addr} {v : Value} (w : (Jvm.Cond.fieldLink own index R0 n d).before a0 Z = true ∨ (Jvm.Cond.fieldLinkNest own index R0 n d host).before a0 Z = true) (via : Via Z R0 O n d) (F : Fld Z h a O n d v) (hd : decode bytes pc = .ok (.getfield index, 3)) (hp : pc + 3 = pc')
    (G : ∀ T', Wd p l e R s m args below meth c n0 T' h cs ss → Go p e below s n0 Q rc rs T' (mkF m pc' Ls (v :: st))) : Go p e below s n0 Q rc rs T (mkF m pc Ls (.ref a :: st)) := by
  obtain ⟨locs, X, N, eT, z⟩ := W; subst hp
  obtain ⟨T', X', e', q⟩ := getF X K.1 K.2.1 K.2.2.2.2.1 w via eT F (g := mkF m pc Ls (.ref a :: st)) rfl rfl (hb K.2.2.1 hd)
  exact Go.stp q (G T' ⟨locs, X', N, e', z⟩)
theorem g_putF (K : Cx p s m meth c Z own nm bytes maxL ret) (W : Wd p l e R s m args below meth c n0 T h cs ss) {R0 O n d host C : String} {index kk : Nat} {ty : FieldType} {a : Addr} {v old : Value} (w : (Jvm.Cond.fieldLink own index R0 n d).before a0 Z = true ∨ (Jvm.Cond.fieldLinkNest own index R0 n d host).before a0 Z = true) (via : Via Z R0 O n d) (F : Fld Z h a O n d old) (E : Exa Z h a C)
    (L : (Jvm.Cond.lays C O n d).before a0 Z = true ∨ ((Jvm.Cond.laysFinal C O n d).before a0 Z = true ∧ own = O ∧ nm = "<init>")) (wi : (Jvm.Cond.instantiable C kk).before a0 Z = true) (hty : parseFieldDescriptor d = some ty) (hn : narrow ty v = v) (hf : fits ty v = true) (ha : n0 ≤ a) (hd : decode bytes pc = .ok (.putfield index, 3)) (hp : pc + 3 = pc')
    (G : ∀ T' h', Wd p l e R s m args below meth c n0 T' h' cs ss → Wr h h' a (Jvm.RoadKit.slotOf Z O n d) v → Go p e below s n0 Q rc rs T' (mkF m pc' Ls st)) : Go p e below s n0 Q rc rs T (mkF m pc Ls (v :: .ref a :: st)) := by
  obtain ⟨locs, X, N, eT, z⟩ := W; subst hp
  obtain ⟨T', h', X', e', w', q⟩ := putF X K.1 K.2.1 K.2.2.2.2.1 w via eT F E (L.imp id fun y => ⟨y.1, y.2.1, K.2.2.2.2.2.2.2.trans y.2.2⟩) wi hty hn hf (g := mkF m pc Ls (v :: .ref a :: st)) rfl rfl (hb K.2.2.1 hd)
  exact Go.stp q (G T' h' ⟨_, X', Fr.snoc X' N ha, e', z⟩ w')
theorem g_new (K : Cx p s m meth c Z own nm bytes maxL ret) (W : Wd p l e R s m args below meth c n0 T h cs ss) {C : String} {index n : Nat} (w : (Jvm.Cond.classLink own index C).before a0 Z = true) (wi : (Jvm.Cond.instantiable C n).before a0 Z = true) (wz : (Jvm.Cond.initialized C).before a0 Z = true) (hd : decode bytes pc = .ok (.new index, 3)) (hp : pc + 3 = pc') (hc : cs + 1 ≤ R.cells) (hl : ss + n ≤ R.slots)
    (G : ∀ T' h' a, Wd p l e R s m args below meth c n0 T' h' (cs + 1) (ss + n) → Ext h h' → a = h.size → n0 ≤ a → Exa Z h' a C → (∀ {O nm d : String} {ty : FieldType}, Laid Z a0 C O nm d → parseFieldDescriptor d = some ty → Fld Z h' a O nm d (defaultValue ty)) → Go p e below s n0 Q rc rs T' (mkF m pc' Ls (.ref a :: st))) : Go p e below s n0 Q rc rs T (mkF m pc Ls st) := by
  have zz := W.sz
  obtain ⟨locs, X, N, eT, z⟩ := W; subst hp
  obtain ⟨T', h', X', e', E, A, D, -, q⟩ := newO X K.1 K.2.1 K.2.2.2.2.1 w wi wz eT (g := mkF m pc Ls st) rfl (hb K.2.2.1 hd) hc hl
  exact Go.stp q (G T' h' _ ⟨_, X', N, e', z⟩ E rfl zz A (fun {O nm d ty} a b => D a b))
/-! the ways out -/
theorem g_ret0 (K : Cx p s m meth c Z own nm bytes maxL none) (W : Wd p l e R s m args below meth c n0 T h cs ss) (hd : decode bytes pc = .ok (.return_, 1)) (h1 : cs ≤ rc) (h2 : ss ≤ rs) (q : Q none h) : Go p e below s n0 Q rc rs T (mkF m pc Ls []) := by
  obtain ⟨locs, X, N, eT, z⟩ := W
  obtain ⟨fs, hr, hrun, hended, hW, hsame⟩ := X.leave (v := none) (fun _ => rfl) K.2.2.2.2.2.2.1
  exact ⟨_, _, X.returnOut K.1 K.2.2.2.2.2.1 (hb K.2.2.1 hd) hr, hrun, hended, _, _, rfl, ⟨by show Q none T.heap; rw [eT]; exact q, N⟩, ⟨_, rfl⟩, hW, hsame.mono h1 h2⟩
theorem g_retN {t : FieldType} {x v : Int32} (K : Cx p s m meth c Z own nm bytes maxL (some t)) (W : Wd p l e R s m args below meth c n0 T h cs ss) (ht : t = .boolean ∨ t = .byte ∨ t = .char ∨ t = .short) (hd : decode bytes pc = .ok (.ireturn, 1)) (h1 : cs ≤ rc) (h2 : ss ≤ rs) (hv : nar t x = v) (q : Q (some (.int v)) h) : Go p e below s n0 Q rc rs T (mkF m pc Ls (.int x :: st)) := by
  obtain ⟨locs, X, N, eT, z⟩ := W; subst hv
  obtain ⟨fs, hr, hrun, hended, hW, hsame⟩ := X.leave (v := some (.int (nar t x))) (fun y => by rw [K.2.2.2.2.2.1] at y; cases y) K.2.2.2.2.2.2.1
  exact ⟨_, _, retN X K.1 K.2.2.2.2.2.1 ht (hb K.2.2.1 hd) hr, hrun, hended, _, _, rfl, ⟨by show Q _ T.heap; rw [eT]; exact q, N⟩, ⟨_, rfl⟩, hW, hsame.mono h1 h2⟩
theorem g_retI {x : Int32} (K : Cx p s m meth c Z own nm bytes maxL (some .int)) (W : Wd p l e R s m args below meth c n0 T h cs ss) (hd : decode bytes pc = .ok (.ireturn, 1)) (h1 : cs ≤ rc) (h2 : ss ≤ rs) (q : Q (some (.int x)) h) : Go p e below s n0 Q rc rs T (mkF m pc Ls (.int x :: st)) := by
  obtain ⟨locs, X, N, eT, z⟩ := W
  obtain ⟨fs, hr, hrun, hended, hW, hsame⟩ := X.leave (v := some (.int x)) (fun y => by rw [K.2.2.2.2.2.1] at y; cases y) K.2.2.2.2.2.2.1
  exact ⟨_, _, retOut X K.1 K.2.2.2.2.2.1 rfl (Or.inl ⟨rfl, Or.inl rfl, _, rfl⟩) (hb K.2.2.1 hd) hr, hrun, hended, _, _, rfl, ⟨by show Q _ T.heap; rw [eT]; exact q, N⟩, ⟨_, rfl⟩, hW, hsame.mono h1 h2⟩
theorem g_retL {x : Int64} (K : Cx p s m meth c Z own nm bytes maxL (some .long)) (W : Wd p l e R s m args below meth c n0 T h cs ss) (hd : decode bytes pc = .ok (.lreturn, 1)) (h1 : cs ≤ rc) (h2 : ss ≤ rs) (q : Q (some (.long x)) h) : Go p e below s n0 Q rc rs T (mkF m pc Ls (.long x :: st)) := by
  obtain ⟨locs, X, N, eT, z⟩ := W
  obtain ⟨fs, hr, hrun, hended, hW, hsame⟩ := X.leave (v := some (.long x)) (fun y => by rw [K.2.2.2.2.2.1] at y; cases y) K.2.2.2.2.2.2.1
  exact ⟨_, _, retOut X K.1 K.2.2.2.2.2.1 rfl (Or.inr (Or.inl ⟨rfl, rfl, _, rfl⟩)) (hb K.2.2.1 hd) hr, hrun, hended, _, _, rfl, ⟨by show Q _ T.heap; rw [eT]; exact q, N⟩, ⟨_, rfl⟩, hW, hsame.mono h1 h2⟩
theorem g_retA {t : FieldType} {x : Value} (K : Cx p s m meth c Z own nm bytes maxL (some t)) (W : Wd p l e R s m args below meth c n0 T h cs ss) (ht : t.isReference = true) (hn : narrow t x = x) (hx : x.isRef = true) (hd : decode bytes pc = .ok (.areturn, 1)) (h1 : cs ≤ rc) (h2 : ss ≤ rs) (q : Q (some x) h) : Go p e below s n0 Q rc rs T (mkF m pc Ls (x :: st)) := by
  obtain ⟨locs, X, N, eT, z⟩ := W
  obtain ⟨fs, hr, hrun, hended, hW, hsame⟩ := X.leave (v := some x) (fun y => by rw [K.2.2.2.2.2.1] at y; cases y) K.2.2.2.2.2.2.1
  exact ⟨_, _, retOut X K.1 K.2.2.2.2.2.1 hn (Or.inr (Or.inr (Or.inr (Or.inr ⟨rfl, ht, hx⟩)))) (hb K.2.2.1 hd) hr, hrun, hended, _, _, rfl, ⟨by show Q _ T.heap; rw [eT]; exact q, N⟩, ⟨_, rfl⟩, hW, hsame.mono h1 h2⟩
/-! the calls, each by its callee's contract -/
theorem g_callS {y : MethodName} {yb : ByteArray} {yl : Nat} {yr : Option FieldType} {rm : Room} {argsL : List Value} {Qc : Option Value → Heap → Prop} {index : Nat} (M : Mt l Z y yb yl yr rm n0 argsL.toArray h Qc) (K : Cx p s m meth c Z own nm bytes maxL ret) (W : Wd p l e R s m args below meth c n0 T h cs ss)
    (wl : (Jvm.Cond.methodLink own index y).before a0 Z = true) (ws : (Jvm.Cond.static y).before a0 Z = true) (wi : (Jvm.Cond.initialized y.cls).before a0 Z = true) (wc : (Jvm.Cond.code y yb yl yr).before a0 Z = true) (hy : y.cls ≠ "java/lang/invoke/MethodHandle" ∧ y.cls ≠ "java/lang/invoke/VarHandle")
    (hlen : ∀ sig, parseMethodDescriptor y.desc = some sig → argsL.length = sig.parameters.length) (hd : decode bytes pc = .ok (.invokestatic index, 3)) (hp : pc + 3 = pc') (hst : st = argsL.reverse ++ rest) (hsz : Ls.size = maxL) (hf : rm.frames + 1 ≤ R.frames) {wt : Nat} (hwt : (rest.map fun v => v.category).sum = wt) (hl : wt + (yl + 11) + rm.locals ≤ R.locals) (hc : cs + rm.cells ≤ R.cells) (hs : ss + rm.slots ≤ R.slots)
    (G : ∀ T' h' v, Wd p l e R s m args below meth c n0 T' h' (cs + rm.cells) (ss + rm.slots) → Qc v h' → Go p e below s n0 Q rc rs T' (mkF m pc' Ls (v.toList ++ rest))) : Go p e below s n0 Q rc rs T (mkF m pc Ls st) := by
  obtain ⟨locs, X, N, eT, z⟩ := W; subst hp hwt
  obtain ⟨v, _, ⟨T', L', k', n'⟩, -, X', ⟨Lc, hQ, l1, l2, l3⟩, q⟩ := Jvm.LawKit.callS X K.1 (y := y) K.2.2.2.2.1 (mvT K.2.1 wl) (mvT K.2.1 ws) (mvT K.2.1 wi) (mvT K.2.1 wc) hy (backOf (W := (rest.map fun v => v.category).sum) (Q := fun v hh L => Qc v hh ∧ Fr n0 L) (M []) K.2.1 wc wi hf hl) (g := mkF m pc Ls st) rfl (hsz.trans K.2.2.2.1.symm) (argsL := argsL) (rest := rest) hlen hst (by show 2 * 0 + _ ≤ _; omega) (hb K.2.2.1 hd) (fun _ _ => ⟨rfl, eT, hc, hs⟩)
  dsimp only [Pt.U, Pt.locs, Pt.cells, Pt.slots] at X' l1 l2 l3 q hQ
  subst l1 l2 l3
  exact Go.stp q (G T' T'.heap v ⟨_, X', Fr.app N hQ.2, rfl, z⟩ hQ.1)
theorem g_callN {y : MethodName} {yb : ByteArray} {yl : Nat} {rm : Room} {argsL : List Value} {Qc : Option Value → Heap → Prop} {index : Nat} {a : Addr} (M : Mt l Z y yb yl none rm n0 (.ref a :: argsL).toArray h Qc) (K : Cx p s m meth c Z own nm bytes maxL ret) (W : Wd p l e R s m args below meth c n0 T h cs ss) (hy1 : y.name = "<init>")
    (wl : (Jvm.Cond.methodLink own index y).before a0 Z = true) (ws : (Jvm.Cond.instanceMethod y).before a0 Z = true) (wi : (Jvm.Cond.initialized y.cls).before a0 Z = true) (wc : (Jvm.Cond.code y yb yl none).before a0 Z = true) (hy : y.cls ≠ "java/lang/invoke/MethodHandle" ∧ y.cls ≠ "java/lang/invoke/VarHandle")
    (hlen : ∀ sig, parseMethodDescriptor y.desc = some sig → argsL.length = sig.parameters.length) (hd : decode bytes pc = .ok (.invokespecial index, 3)) (hp : pc + 3 = pc') (hst : st = argsL.reverse ++ .ref a :: rest) (hsz : Ls.size = maxL) (hf : rm.frames + 1 ≤ R.frames) {wt : Nat} (hwt : (rest.map fun v => v.category).sum = wt) (hl : wt + (yl + 11) + rm.locals ≤ R.locals) (hc : cs + rm.cells ≤ R.cells) (hs : ss + rm.slots ≤ R.slots)
    (G : ∀ T' h' v, Wd p l e R s m args below meth c n0 T' h' (cs + rm.cells) (ss + rm.slots) → Qc v h' → Go p e below s n0 Q rc rs T' (mkF m pc' Ls (v.toList ++ rest))) : Go p e below s n0 Q rc rs T (mkF m pc Ls st) := by
  obtain ⟨locs, X, N, eT, z⟩ := W; subst hp hwt
  obtain ⟨v, _, ⟨T', L', k', n'⟩, -, X', ⟨Lc, hQ, l1, l2, l3⟩, q⟩ := X.specialBack K.1 (y := y) hy1 K.2.2.2.2.1 (mvT K.2.1 wl) (mvT K.2.1 ws) (mvT K.2.1 wc) hy (backOf (W := (rest.map fun v => v.category).sum) (Q := fun v hh L => Qc v hh ∧ Fr n0 L) (M []) K.2.1 wc wi hf hl) (g := mkF m pc Ls st) rfl (hsz.trans K.2.2.2.1.symm) (Steps.refl _) (a := a) (argsL := argsL) (rest := rest) hlen hst (by show 2 * 0 + _ ≤ _; omega) (hb K.2.2.1 hd) (fun _ _ => ⟨rfl, eT, hc, hs⟩)
  dsimp only [Pt.U, Pt.locs, Pt.cells, Pt.slots] at X' l1 l2 l3 q hQ
  subst l1 l2 l3
  exact Go.stp (fun _ k => q.trans k) (G T' T'.heap v ⟨_, X', Fr.app N hQ.2, rfl, z⟩ hQ.1)
theorem g_callV {y : MethodName} {yb : ByteArray} {yl : Nat} {yr : Option FieldType} {rm : Room} {argsL : List Value} {Qc : Option Value → Heap → Prop} {index : Nat} {C : String} {a : Addr} {x : MethodName} (M : Mt l Z y yb yl yr rm n0 (.ref a :: argsL).toArray h Qc) (K : Cx p s m meth c Z own nm bytes maxL ret) (W : Wd p l e R s m args below meth c n0 T h cs ss) (E : Exa Z h a C)
    (wl : (Jvm.Cond.methodLink own index x).before a0 Z = true) (wd : (Jvm.Cond.declares x).before a0 Z = true) (wx : (Jvm.Cond.selects x.cls x x).before a0 Z = true) (wsel : (Jvm.Cond.selects C x y).before a0 Z = true) (ws : (Jvm.Cond.instanceMethod y).before a0 Z = true) (wi : (Jvm.Cond.initialized y.cls).before a0 Z = true) (wc : (Jvm.Cond.code y yb yl yr).before a0 Z = true) (hy : x.cls ≠ "java/lang/invoke/MethodHandle" ∧ x.cls ≠ "java/lang/invoke/VarHandle")
    (hlen : ∀ sig, parseMethodDescriptor x.desc = some sig → argsL.length = sig.parameters.length) (hd : decode bytes pc = .ok (.invokevirtual index, 3)) (hp : pc + 3 = pc') (hst : st = argsL.reverse ++ .ref a :: rest) (hsz : Ls.size = maxL) (hf : rm.frames + 1 ≤ R.frames) {wt : Nat} (hwt : (rest.map fun v => v.category).sum = wt) (hl : wt + (yl + 11) + rm.locals ≤ R.locals) (hc : cs + rm.cells ≤ R.cells) (hs : ss + rm.slots ≤ R.slots)
    (G : ∀ T' h' v, Wd p l e R s m args below meth c n0 T' h' (cs + rm.cells) (ss + rm.slots) → Qc v h' → Go p e below s n0 Q rc rs T' (mkF m pc' Ls (v.toList ++ rest))) : Go p e below s n0 Q rc rs T (mkF m pc Ls st) := by
  obtain ⟨locs, X, N, eT, z⟩ := W; subst hp hwt
  obtain ⟨cq, kq, qa, qb, qc⟩ := isOf K.2.1 eT E
  obtain ⟨v, _, ⟨T', L', k', n'⟩, -, X', ⟨Lc, hQ, l1, l2, l3⟩, q⟩ := X.virtualBack K.1 (y := x) (z := y) K.2.2.2.2.1 (mvT K.2.1 wl) (mvT K.2.1 wd) (notFace_of_selects (args := #[]) (mvT K.2.1 wx)) (mvT K.2.1 wsel) (mvT K.2.1 ws) hy (backOf (W := (rest.map fun v => v.category).sum) (Q := fun v hh L => Qc v hh ∧ Fr n0 L) (M []) K.2.1 wc wi hf hl) qa qc (g := mkF m pc Ls st) rfl (hsz.trans K.2.2.2.1.symm) (Steps.refl _) (argsL := argsL) (rest := rest) hlen hst (by show 2 * 0 + _ ≤ _; omega) (hb K.2.2.1 hd) (fun _ _ => ⟨rfl, eT, hc, hs⟩)
  dsimp only [Pt.U, Pt.locs, Pt.cells, Pt.slots] at X' l1 l2 l3 q hQ
  subst l1 l2 l3
  exact Go.stp (fun _ k => q.trans k) (G T' T'.heap v ⟨_, X', Fr.app N hQ.2, rfl, z⟩ hQ.1)
theorem g_callP {y : MethodName} {yb : ByteArray} {yl : Nat} {yr : Option FieldType} {rm : Room} {argsL : List Value} {Qc : Option Value → Heap → Prop} {index : Nat} {a : Addr} (M : Mt l Z y yb yl yr rm n0 (.ref a :: argsL).toArray h Qc) (K : Cx p s m meth c Z own nm bytes maxL ret) (W : Wd p l e R s m args below meth c n0 T h cs ss) (hcell : ∃ c : Cell, h[a]? = some c ∧ ∀ q, c.vm ≠ .statics q)
    (wl : (Jvm.Cond.methodLink own index y).before a0 Z = true) (ws : (Jvm.Cond.instanceMethod y).before a0 Z = true) {kk : Nat} (wk : (Jvm.Cond.instantiable y.cls kk).before a0 Z = true) (wp : (Jvm.Cond.privateMethod y).before a0 Z = true) (wi : (Jvm.Cond.initialized y.cls).before a0 Z = true) (wc : (Jvm.Cond.code y yb yl yr).before a0 Z = true) (hy : y.cls ≠ "java/lang/invoke/MethodHandle" ∧ y.cls ≠ "java/lang/invoke/VarHandle")
    (hlen : ∀ sig, parseMethodDescriptor y.desc = some sig → argsL.length = sig.parameters.length) (hd : decode bytes pc = .ok (.invokevirtual index, 3)) (hp : pc + 3 = pc') (hst : st = argsL.reverse ++ .ref a :: rest) (hsz : Ls.size = maxL) (hf : rm.frames + 1 ≤ R.frames) {wt : Nat} (hwt : (rest.map fun v => v.category).sum = wt) (hl : wt + (yl + 11) + rm.locals ≤ R.locals) (hc : cs + rm.cells ≤ R.cells) (hs : ss + rm.slots ≤ R.slots)
    (G : ∀ T' h' v, Wd p l e R s m args below meth c n0 T' h' (cs + rm.cells) (ss + rm.slots) → Qc v h' → Go p e below s n0 Q rc rs T' (mkF m pc' Ls (v.toList ++ rest))) : Go p e below s n0 Q rc rs T (mkF m pc Ls st) := by
  obtain ⟨locs, X, N, eT, z⟩ := W; subst hp hwt
  obtain ⟨cl, hc1, hc2⟩ := hcell
  have wk' : (Jvm.Cond.instantiable y.cls kk).before args s = true := mvT K.2.1 wk
  obtain ⟨ck, kc, f1, f2, f3, f4, -⟩ := Jvm.Cond.instantiable_spec wk'
  have hpr : s.PrivateAt y := Jvm.Cond.privateMethod_at (mvP K.2.1 wp (args := #[]))
  have hsel : (Jvm.Cond.selects y.cls y y).before args s = true := Jvm.Stand.selects_self_of_private f1 f2 (by simpa using (Bool.or_eq_false_iff.mp f4).1) hpr (mvT K.2.1 ws) hy
  obtain ⟨v, _, ⟨T', L', k', n'⟩, -, X', ⟨Lc, hQ, l1, l2, l3⟩, q⟩ := X.privateBack K.1 (y := y) K.2.2.2.2.1 (mvT K.2.1 wl) (mvT K.2.1 ws) hsel hpr (mvT K.2.1 wc) hy (backOf (W := (rest.map fun v => v.category).sum) (Q := fun v hh L => Qc v hh ∧ Fr n0 L) (M []) K.2.1 wc wi hf hl) (g := mkF m pc Ls st) rfl (hsz.trans K.2.2.2.1.symm) (Steps.refl _) (a := a) (by rw [eT]; exact hc1) hc2 (argsL := argsL) (rest := rest) hlen hst (by show 2 * 0 + _ ≤ _; omega) (hb K.2.2.1 hd) (fun _ _ => ⟨rfl, eT, hc, hs⟩)
  dsimp only [Pt.U, Pt.locs, Pt.cells, Pt.slots] at X' l1 l2 l3 q hQ
  subst l1 l2 l3
  exact Go.stp (fun _ k => q.trans k) (G T' T'.heap v ⟨_, X', Fr.app N hQ.2, rfl, z⟩ hQ.1)
/-! arrays: n places, place j holds f j -/
def AyI (Z : State) (h : Heap) (a : Addr) (ty : FieldType) (n : Nat) (f : Nat → Int32) : Prop := ∃ cl : Cell, Arr Z h a cl ty ∧ cl.slots.size = n ∧ ∀ j, j < n → cl.slots[j]? = some (.int (f j))
def AyJ (Z : State) (h : Heap) (a : Addr) (n : Nat) (f : Nat → Int64) : Prop := ∃ cl : Cell, Arr Z h a cl .long ∧ cl.slots.size = n ∧ ∀ j, j < n → cl.slots[j]? = some (.long (f j))
def upd {α : Type} (f : Nat → α) (k : Nat) (v : α) : Nat → α := fun j => if j = k then v else f j
theorem upd_same {α : Type} (f : Nat → α) (k : Nat) (v : α) : upd f k v k = v := if_pos rfl
theorem upd_ne {α : Type} (f : Nat → α) {k j : Nat} (v : α) (q : j ≠ k) : upd f k v j = f j := if_neg q
theorem own_ix {j : Int32} {k : Nat} (hj : j.toInt = (k : Int)) : ¬ j < 0 ∧ j.toNatClampNeg = k := by
  refine ⟨fun q => ?_, ?_⟩
  · rw [Int32.lt_iff_toInt_lt, hj, show (0 : Int32).toInt = 0 from rfl] at q; omega
  · rw [Int32.toNatClampNeg, hj]; rfl
theorem own_in {j : Int32} {k n : Nat} (hj : j.toInt = (k : Int)) (hk : k < n) {cl : Cell} (hs : cl.slots.size = n) : ¬ (j < 0 ∨ cl.slots.size ≤ j.toNatClampNeg) := by
  rw [(own_ix hj).2, hs]
  exact fun q => q.elim (own_ix hj).1 (fun q => by omega)
theorem AyI.lt {a : Addr} {ty : FieldType} {n : Nat} {f : Nat → Int32} (A : AyI Z h a ty n f) : a < h.size := by obtain ⟨_, q, -⟩ := A; exact q.lt
theorem AyJ.lt {a : Addr} {n : Nat} {f : Nat → Int64} (A : AyJ Z h a n f) : a < h.size := by obtain ⟨_, q, -⟩ := A; exact q.lt
theorem AyI.ext {h' : Heap} {a : Addr} {ty : FieldType} {n : Nat} {f : Nat → Int32} (A : AyI Z h a ty n f) (E : Ext h h') : AyI Z h' a ty n f := by obtain ⟨cl, q, r⟩ := A; exact ⟨cl, q.ext E, r⟩
theorem AyJ.ext {h' : Heap} {a : Addr} {n : Nat} {f : Nat → Int64} (A : AyJ Z h a n f) (E : Ext h h') : AyJ Z h' a n f := by obtain ⟨cl, q, r⟩ := A; exact ⟨cl, q.ext E, r⟩
theorem AyI.other {h' : Heap} {a b : Addr} {sl : Nat} {v : Value} {ty : FieldType} {n : Nat} {f : Nat → Int32} (A : AyI Z h b ty n f) (w : Wr h h' a sl v) (q : b ≠ a) : AyI Z h' b ty n f := by obtain ⟨cl, x, r⟩ := A; exact ⟨cl, x.other w q, r⟩
theorem AyJ.other {h' : Heap} {a b : Addr} {sl : Nat} {v : Value} {n : Nat} {f : Nat → Int64} (A : AyJ Z h b n f) (w : Wr h h' a sl v) (q : b ≠ a) : AyJ Z h' b n f := by obtain ⟨cl, x, r⟩ := A; exact ⟨cl, x.other w q, r⟩
theorem AyI.keep {h' : Heap} {a : Addr} {ws : List Addr} {ty : FieldType} {n : Nat} {f : Nat → Int32} (A : AyI Z h a ty n f) (k : Keep h h' ws) (q : a ∉ ws) : AyI Z h' a ty n f := by obtain ⟨cl, x, r⟩ := A; exact ⟨cl, ⟨k.2.1 a cl x.1 q, x.2⟩, r⟩
theorem AyJ.keep {h' : Heap} {a : Addr} {ws : List Addr} {n : Nat} {f : Nat → Int64} (A : AyJ Z h a n f) (k : Keep h h' ws) (q : a ∉ ws) : AyJ Z h' a n f := by obtain ⟨cl, x, r⟩ := A; exact ⟨cl, ⟨k.2.1 a cl x.1 q, x.2⟩, r⟩
theorem AyI.same {h' : Heap} {a : Addr} {k : Nat} {x : Int32} {ty : FieldType} {n : Nat} {f : Nat → Int32} (A : AyI Z h a ty n f) (w : Wr h h' a k (.int x)) : AyI Z h' a ty n (upd f k x) := by
  obtain ⟨cl, q, r1, r2⟩ := A
  refine ⟨_, q.same w, by simpa [Cell.setSlot] using r1, fun j hj => ?_⟩
  by_cases e : j = k
  · subst e; rw [upd_same]; simp [Cell.setSlot, Array.getElem?_setIfInBounds, r1, hj]
  · rw [upd_ne f x e, ← r2 j hj]; simp [Cell.setSlot, Array.getElem?_setIfInBounds, Ne.symm e]
theorem AyJ.same {h' : Heap} {a : Addr} {k : Nat} {x : Int64} {n : Nat} {f : Nat → Int64} (A : AyJ Z h a n f) (w : Wr h h' a k (.long x)) : AyJ Z h' a n (upd f k x) := by
  obtain ⟨cl, q, r1, r2⟩ := A
  refine ⟨_, q.same w, by simpa [Cell.setSlot] using r1, fun j hj => ?_⟩
  by_cases e : j = k
  · subst e; rw [upd_same]; simp [Cell.setSlot, Array.getElem?_setIfInBounds, r1, hj]
  · rw [upd_ne f x e, ← r2 j hj]; simp [Cell.setSlot, Array.getElem?_setIfInBounds, Ne.symm e]
theorem g_alenI (K : Cx p s m meth c Z own nm bytes maxL ret) (W : Wd p l e R s m args below meth c n0 T h cs ss) {a : Addr} {ty : FieldType} {n : Nat} {f : Nat → Int32} (A : AyI Z h a ty n f) {v : Int32} (hv : Int32.ofNat n = v) (hd : decode bytes pc = .ok (.arraylength, 1)) (hp : pc + 1 = pc')
    (G : Go p e below s n0 Q rc rs T (mkF m pc' Ls (.int v :: st))) : Go p e below s n0 Q rc rs T (mkF m pc Ls (.ref a :: st)) := by
  obtain ⟨_, X, N, eT, z⟩ := W; subst hp
  obtain ⟨cl, q, r1, r2⟩ := A
  refine Go.stp (g' := mkF m (pc + 1) Ls (.int v :: st)) (fun _ hr => X.arraylength K.1 (cell := cl) (by rw [eT]; exact q.1) (State.isArrayOf_alike K.2.1.alike q.2.1) (g := mkF m pc Ls (.ref a :: st)) rfl (rest := st) rfl (hb K.2.2.1 hd) _ ?_) G
  rw [r1, show n.toInt32 = v from hv]
  exact hr
theorem g_alenJ (K : Cx p s m meth c Z own nm bytes maxL ret) (W : Wd p l e R s m args below meth c n0 T h cs ss) {a : Addr} {n : Nat} {f : Nat → Int64} (A : AyJ Z h a n f) {v : Int32} (hv : Int32.ofNat n = v) (hd : decode bytes pc = .ok (.arraylength, 1)) (hp : pc + 1 = pc')
    (G : Go p e below s n0 Q rc rs T (mkF m pc' Ls (.int v :: st))) : Go p e below s n0 Q rc rs T (mkF m pc Ls (.ref a :: st)) := by
  obtain ⟨_, X, N, eT, z⟩ := W; subst hp
  obtain ⟨cl, q, r1, r2⟩ := A
  refine Go.stp (g' := mkF m (pc + 1) Ls (.int v :: st)) (fun _ hr => X.arraylength K.1 (cell := cl) (by rw [eT]; exact q.1) (State.isArrayOf_alike K.2.1.alike q.2.1) (g := mkF m pc Ls (.ref a :: st)) rfl (rest := st) rfl (hb K.2.2.1 hd) _ ?_) G
  rw [r1, show n.toInt32 = v from hv]
  exact hr
theorem g_iaload (K : Cx p s m meth c Z own nm bytes maxL ret) (W : Wd p l e R s m args below meth c n0 T h cs ss) {a : Addr} {n k : Nat} {f : Nat → Int32} {j v : Int32} (A : AyI Z h a .int n f) (hj : j.toInt = (k : Int)) (hk : k < n) (hv : f k = v) (hd : decode bytes pc = .ok (.iaload, 1)) (hp : pc + 1 = pc')
    (G : Go p e below s n0 Q rc rs T (mkF m pc' Ls (.int v :: st))) : Go p e below s n0 Q rc rs T (mkF m pc Ls (.int j :: .ref a :: st)) := by
  obtain ⟨_, X, N, eT, z⟩ := W; subst hp hv
  obtain ⟨cl, q, r1, r2⟩ := A
  exact Go.stp (g' := mkF m (pc + 1) Ls (.int (f k) :: st)) (fun _ hr => X.iaload K.1 (by rw [eT]; exact q.1) (State.isArrayOf_alike K.2.1.alike q.2.1) q.2.2 (own_in hj hk r1) (by rw [(own_ix hj).2]; exact r2 k hk) (g := mkF m pc Ls (.int j :: .ref a :: st)) rfl rfl (hb K.2.2.1 hd) _ hr) G
theorem g_baload (K : Cx p s m meth c Z own nm bytes maxL ret) (W : Wd p l e R s m args below meth c n0 T h cs ss) {a : Addr} {n k : Nat} {f : Nat → Int32} {j v : Int32} (A : AyI Z h a .byte n f) (hj : j.toInt = (k : Int)) (hk : k < n) (hv : f k = v) (hd : decode bytes pc = .ok (.baload, 1)) (hp : pc + 1 = pc')
    (G : Go p e below s n0 Q rc rs T (mkF m pc' Ls (.int v :: st))) : Go p e below s n0 Q rc rs T (mkF m pc Ls (.int j :: .ref a :: st)) := by
  obtain ⟨_, X, N, eT, z⟩ := W; subst hp hv
  obtain ⟨cl, q, r1, r2⟩ := A
  exact Go.stp (g' := mkF m (pc + 1) Ls (.int (f k) :: st)) (fun _ hr => X.baloadBytes K.1 (by rw [eT]; exact q.1) (State.isArrayOf_alike K.2.1.alike q.2.1) q.2.2 (own_in hj hk r1) (by rw [(own_ix hj).2]; exact r2 k hk) (g := mkF m pc Ls (.int j :: .ref a :: st)) rfl rfl (hb K.2.2.1 hd) _ hr) G
theorem g_zaload (K : Cx p s m meth c Z own nm bytes maxL ret) (W : Wd p l e R s m args below meth c n0 T h cs ss) {a : Addr} {n k : Nat} {f : Nat → Int32} {j v : Int32} (A : AyI Z h a .boolean n f) (hj : j.toInt = (k : Int)) (hk : k < n) (hv : f k = v) (hd : decode bytes pc = .ok (.baload, 1)) (hp : pc + 1 = pc')
    (G : Go p e below s n0 Q rc rs T (mkF m pc' Ls (.int v :: st))) : Go p e below s n0 Q rc rs T (mkF m pc Ls (.int j :: .ref a :: st)) := by
  obtain ⟨_, X, N, eT, z⟩ := W; subst hp hv
  obtain ⟨cl, q, r1, r2⟩ := A
  exact Go.stp (g' := mkF m (pc + 1) Ls (.int (f k) :: st)) (fun _ hr => X.baloadBooleans K.1 (by rw [eT]; exact q.1) (State.isArrayOf_alike K.2.1.alike q.2.1) q.2.2 (own_in hj hk r1) (by rw [(own_ix hj).2]; exact r2 k hk) (g := mkF m pc Ls (.int j :: .ref a :: st)) rfl rfl (hb K.2.2.1 hd) _ hr) G
theorem g_laload (K : Cx p s m meth c Z own nm bytes maxL ret) (W : Wd p l e R s m args below meth c n0 T h cs ss) {a : Addr} {n k : Nat} {f : Nat → Int64} {j : Int32} {v : Int64} (A : AyJ Z h a n f) (hj : j.toInt = (k : Int)) (hk : k < n) (hv : f k = v) (hd : decode bytes pc = .ok (.laload, 1)) (hp : pc + 1 = pc')
    (G : Go p e below s n0 Q rc rs T (mkF m pc' Ls (.long v :: st))) : Go p e below s n0 Q rc rs T (mkF m pc Ls (.int j :: .ref a :: st)) := by
  obtain ⟨_, X, N, eT, z⟩ := W; subst hp hv
  obtain ⟨cl, q, r1, r2⟩ := A
  exact Go.stp (g' := mkF m (pc + 1) Ls (.long (f k) :: st)) (fun _ hr => X.laload K.1 (by rw [eT]; exact q.1) (State.isArrayOf_alike K.2.1.alike q.2.1) q.2.2 (own_in hj hk r1) (by rw [(own_ix hj).2]; exact r2 k hk) (g := mkF m pc Ls (.int j :: .ref a :: st)) rfl rfl (hb K.2.2.1 hd) _ hr) G
theorem g_bastore (K : Cx p s m meth c Z own nm bytes maxL ret) (W : Wd p l e R s m args below meth c n0 T h cs ss) {a : Addr} {n k : Nat} {f : Nat → Int32} {j x : Int32} (A : AyI Z h a .byte n f) (hj : j.toInt = (k : Int)) (hk : k < n) (ha : n0 ≤ a) (hd : decode bytes pc = .ok (.bastore, 1)) (hp : pc + 1 = pc')
    (G : ∀ T' h', Wd p l e R s m args below meth c n0 T' h' cs ss → Wr h h' a k (.int x.toInt8.toInt32) → AyI Z h' a .byte n (upd f k x.toInt8.toInt32) → Go p e below s n0 Q rc rs T' (mkF m pc' Ls st)) : Go p e below s n0 Q rc rs T (mkF m pc Ls (.int x :: .int j :: .ref a :: st)) := by
  obtain ⟨locs, X, N, eT, z⟩ := W; subst hp
  have A0 := A
  obtain ⟨cl, q, r1, r2⟩ := A
  obtain ⟨T', h', X', e', w', st'⟩ := stB X K.1 K.2.1 eT q (own_in hj hk r1) (g := mkF m pc Ls (.int x :: .int j :: .ref a :: st)) rfl rfl (hb K.2.2.1 hd)
  rw [(own_ix hj).2] at w' X'
  exact Go.stp st' (G T' h' ⟨_, X', Fr.snoc X' N ha, e', z⟩ w' (A0.same w'))
theorem g_zastore (K : Cx p s m meth c Z own nm bytes maxL ret) (W : Wd p l e R s m args below meth c n0 T h cs ss) {a : Addr} {n k : Nat} {f : Nat → Int32} {j x : Int32} (A : AyI Z h a .boolean n f) (hj : j.toInt = (k : Int)) (hk : k < n) (ha : n0 ≤ a) (hd : decode bytes pc = .ok (.bastore, 1)) (hp : pc + 1 = pc')
    (G : ∀ T' h', Wd p l e R s m args below meth c n0 T' h' cs ss → Wr h h' a k (.int (x &&& 1)) → AyI Z h' a .boolean n (upd f k (x &&& 1)) → Go p e below s n0 Q rc rs T' (mkF m pc' Ls st)) : Go p e below s n0 Q rc rs T (mkF m pc Ls (.int x :: .int j :: .ref a :: st)) := by
  obtain ⟨locs, X, N, eT, z⟩ := W; subst hp
  have A0 := A
  obtain ⟨cl, q, r1, r2⟩ := A
  obtain ⟨T', h', X', e', w', st'⟩ := stZ X K.1 K.2.1 eT q (own_in hj hk r1) (g := mkF m pc Ls (.int x :: .int j :: .ref a :: st)) rfl rfl (hb K.2.2.1 hd)
  rw [(own_ix hj).2] at w' X'
  exact Go.stp st' (G T' h' ⟨_, X', Fr.snoc X' N ha, e', z⟩ w' (A0.same w'))
theorem g_iastore (K : Cx p s m meth c Z own nm bytes maxL ret) (W : Wd p l e R s m args below meth c n0 T h cs ss) {a : Addr} {n k : Nat} {f : Nat → Int32} {j x : Int32} (A : AyI Z h a .int n f) (hj : j.toInt = (k : Int)) (hk : k < n) (ha : n0 ≤ a) (hd : decode bytes pc = .ok (.iastore, 1)) (hp : pc + 1 = pc')
    (G : ∀ T' h', Wd p l e R s m args below meth c n0 T' h' cs ss → Wr h h' a k (.int x) → AyI Z h' a .int n (upd f k x) → Go p e below s n0 Q rc rs T' (mkF m pc' Ls st)) : Go p e below s n0 Q rc rs T (mkF m pc Ls (.int x :: .int j :: .ref a :: st)) := by
  obtain ⟨locs, X, N, eT, z⟩ := W; subst hp
  have A0 := A
  obtain ⟨cl, q, r1, r2⟩ := A
  obtain ⟨T', h', X', e', w', st'⟩ := stI X K.1 K.2.1 eT q (own_in hj hk r1) (g := mkF m pc Ls (.int x :: .int j :: .ref a :: st)) rfl rfl (hb K.2.2.1 hd)
  rw [(own_ix hj).2] at w' X'
  exact Go.stp st' (G T' h' ⟨_, X', Fr.snoc X' N ha, e', z⟩ w' (A0.same w'))
theorem g_lastore (K : Cx p s m meth c Z own nm bytes maxL ret) (W : Wd p l e R s m args below meth c n0 T h cs ss) {a : Addr} {n k : Nat} {f : Nat → Int64} {j : Int32} {x : Int64} (A : AyJ Z h a n f) (hj : j.toInt = (k : Int)) (hk : k < n) (ha : n0 ≤ a) (hd : decode bytes pc = .ok (.lastore, 1)) (hp : pc + 1 = pc')
    (G : ∀ T' h', Wd p l e R s m args below meth c n0 T' h' cs ss → Wr h h' a k (.long x) → AyJ Z h' a n (upd f k x) → Go p e below s n0 Q rc rs T' (mkF m pc' Ls st)) : Go p e below s n0 Q rc rs T (mkF m pc Ls (.long x :: .int j :: .ref a :: st)) := by
  obtain ⟨locs, X, N, eT, z⟩ := W; subst hp
  have A0 := A
  obtain ⟨cl, q, r1, r2⟩ := A
  obtain ⟨T', h', X', e', w', st'⟩ := stJ X K.1 K.2.1 eT q (own_in hj hk r1) (g := mkF m pc Ls (.long x :: .int j :: .ref a :: st)) rfl rfl (hb K.2.2.1 hd)
  rw [(own_ix hj).2] at w' X'
  exact Go.stp st' (G T' h' ⟨_, X', Fr.snoc X' N ha, e', z⟩ w' (A0.same w'))
theorem g_newI (K : Cx p s m meth c Z own nm bytes maxL ret) (W : Wd p l e R s m args below meth c n0 T h cs ss) {aty : ArrayType} {ty : FieldType} {j : Int32} {n cap : Nat} (w : (Jvm.Cond.arrayClass ty).before a0 Z = true) (hty : newarray.typeOf aty = ty) (hdf : defaultValue ty = .int 0) (hj : j.toInt = (n : Int)) (hcap : n ≤ cap) (hd : decode bytes pc = .ok (.newarray aty, 2)) (hp : pc + 2 = pc') (hb8 : cap * 8 ≤ 536870912) (hc : cs + 1 ≤ R.cells) (hl : ss + cap ≤ R.slots)
    (G : ∀ T' h' a, Wd p l e R s m args below meth c n0 T' h' (cs + 1) (ss + cap) → Ext h h' → a = h.size → n0 ≤ a → AyI Z h' a ty n (fun _ => 0) → Go p e below s n0 Q rc rs T' (mkF m pc' Ls (.ref a :: st))) : Go p e below s n0 Q rc rs T (mkF m pc Ls (.int j :: st)) := by
  have zz := W.sz
  obtain ⟨locs, X, N, eT, z⟩ := W; subst hp hty
  obtain ⟨T', h', kA, X', e', E, A, q⟩ := newP X K.1 K.2.1 w eT (g := mkF m pc Ls (.int j :: st)) rfl (hb K.2.2.1 hd) rfl (own_ix hj).1 (cap := cap) (by rw [(own_ix hj).2]; exact hcap) hb8 hc hl
  refine Go.stp q (G T' h' _ ⟨_, X', N, e', z⟩ E rfl zz ⟨_, A, by rw [sz_new, (own_ix hj).2], fun i hi => ?_⟩)
  rw [← hdf]
  simp [newA, (own_ix hj).2, hi]
theorem g_newJ (K : Cx p s m meth c Z own nm bytes maxL ret) (W : Wd p l e R s m args below meth c n0 T h cs ss) {j : Int32} {n cap : Nat} (w : (Jvm.Cond.arrayClass .long).before a0 Z = true) (hj : j.toInt = (n : Int)) (hcap : n ≤ cap) (hd : decode bytes pc = .ok (.newarray .long, 2)) (hp : pc + 2 = pc') (hb8 : cap * 8 ≤ 536870912) (hc : cs + 1 ≤ R.cells) (hl : ss + cap ≤ R.slots)
    (G : ∀ T' h' a, Wd p l e R s m args below meth c n0 T' h' (cs + 1) (ss + cap) → Ext h h' → a = h.size → n0 ≤ a → AyJ Z h' a n (fun _ => 0) → Go p e below s n0 Q rc rs T' (mkF m pc' Ls (.ref a :: st))) : Go p e below s n0 Q rc rs T (mkF m pc Ls (.int j :: st)) := by
  have zz := W.sz
  obtain ⟨locs, X, N, eT, z⟩ := W; subst hp
  obtain ⟨T', h', kA, X', e', E, A, q⟩ := newP X K.1 K.2.1 (aty := .long) w eT (g := mkF m pc Ls (.int j :: st)) rfl (hb K.2.2.1 hd) rfl (own_ix hj).1 (cap := cap) (by rw [(own_ix hj).2]; exact hcap) hb8 hc hl
  refine Go.stp q (G T' h' _ ⟨_, X', N, e', z⟩ E rfl zz ⟨_, A, by rw [sz_new, (own_ix hj).2], fun i hi => ?_⟩)
  rw [show (Value.long 0) = defaultValue .long from rfl]
  simp [newA, (own_ix hj).2, hi, newarray.typeOf]
end OwnBase
theorem pn_0 : plainName "com/example/vestry/vestry/InputFilesLineEndsPinLaw" = true := by first | (simp [plainName, overriddenIn]; done) | decide +kernel
theorem d1_0 : decode method_2_code 0 = .ok (.iload_n 0, 1) := by decide +kernel
theorem d1_1 : decode method_2_code 1 = .ok (.iconst 3, 1) := by decide +kernel
theorem d1_2 : decode method_2_code 2 = .ok (.iand, 1) := by decide +kernel
theorem d1_3 : decode method_2_code 3 = .ok (.istore_n 1, 1) := by decide +kernel
theorem d1_4 : decode method_2_code 4 = .ok (.iload_n 1, 1) := by decide +kernel
theorem d1_5 : decode method_2_code 5 = .ok (.ifCond .ne 6, 3) := by decide +kernel
theorem d1_8 : decode method_2_code 8 = .ok (.bipush 13, 2) := by decide +kernel
theorem d1_10 : decode method_2_code 10 = .ok (.ireturn, 1) := by decide +kernel
theorem d1_11 : decode method_2_code 11 = .ok (.iload_n 1, 1) := by decide +kernel
theorem d1_12 : decode method_2_code 12 = .ok (.iconst 1, 1) := by decide +kernel
theorem d1_13 : decode method_2_code 13 = .ok (.if_icmp .ne 6, 3) := by decide +kernel
theorem d1_16 : decode method_2_code 16 = .ok (.bipush 10, 2) := by decide +kernel
theorem d1_18 : decode method_2_code 18 = .ok (.ireturn, 1) := by decide +kernel
theorem d1_19 : decode method_2_code 19 = .ok (.iload_n 0, 1) := by decide +kernel
theorem d1_20 : decode method_2_code 20 = .ok (.iconst 2, 1) := by decide +kernel
theorem d1_21 : decode method_2_code 21 = .ok (.ishr, 1) := by decide +kernel
theorem d1_22 : decode method_2_code 22 = .ok (.i2b, 1) := by decide +kernel
theorem d1_23 : decode method_2_code 23 = .ok (.ireturn, 1) := by decide +kernel
theorem d2_0 : decode method_3_code 0 = .ok (.iload_n 1, 1) := by decide +kernel
theorem d2_1 : decode method_3_code 1 = .ok (.iload_n 2, 1) := by decide +kernel
theorem d2_2 : decode method_3_code 2 = .ok (.if_icmp .lt 8, 3) := by decide +kernel
theorem d2_5 : decode method_3_code 5 = .ok (.iload_n 1, 1) := by decide +kernel
theorem d2_6 : decode method_3_code 6 = .ok (.iload_n 3, 1) := by decide +kernel
theorem d2_7 : decode method_3_code 7 = .ok (.if_icmp .lt 5, 3) := by decide +kernel
theorem d2_10 : decode method_3_code 10 = .ok (.lconst 0, 1) := by decide +kernel
theorem d2_11 : decode method_3_code 11 = .ok (.lreturn, 1) := by decide +kernel
theorem d2_12 : decode method_3_code 12 = .ok (.lconst 0, 1) := by decide +kernel
theorem d2_13 : decode method_3_code 13 = .ok (.lstore 4, 2) := by decide +kernel
theorem d2_15 : decode method_3_code 15 = .ok (.aload_n 0, 1) := by decide +kernel
theorem d2_16 : decode method_3_code 16 = .ok (.iload_n 1, 1) := by decide +kernel
theorem d2_17 : decode method_3_code 17 = .ok (.baload, 1) := by decide +kernel
theorem d2_18 : decode method_3_code 18 = .ok (.bipush 13, 2) := by decide +kernel
theorem d2_20 : decode method_3_code 20 = .ok (.if_icmp .ne 9, 3) := by decide +kernel
theorem d2_23 : decode method_3_code 23 = .ok (.lload 4, 2) := by decide +kernel
theorem d2_25 : decode method_3_code 25 = .ok (.lconst 1, 1) := by decide +kernel
theorem d2_26 : decode method_3_code 26 = .ok (.ladd, 1) := by decide +kernel
theorem d2_27 : decode method_3_code 27 = .ok (.lstore 4, 2) := by decide +kernel
theorem d2_29 : decode method_3_code 29 = .ok (.aload_n 0, 1) := by decide +kernel
theorem d2_30 : decode method_3_code 30 = .ok (.iload_n 1, 1) := by decide +kernel
theorem d2_31 : decode method_3_code 31 = .ok (.baload, 1) := by decide +kernel
theorem d2_32 : decode method_3_code 32 = .ok (.bipush 10, 2) := by decide +kernel
theorem d2_34 : decode method_3_code 34 = .ok (.if_icmp .ne 9, 3) := by decide +kernel
theorem d2_37 : decode method_3_code 37 = .ok (.lload 4, 2) := by decide +kernel
theorem d2_39 : decode method_3_code 39 = .ok (.lconst 1, 1) := by decide +kernel
theorem d2_40 : decode method_3_code 40 = .ok (.ladd, 1) := by decide +kernel
theorem d2_41 : decode method_3_code 41 = .ok (.lstore 4, 2) := by decide +kernel
theorem d2_43 : decode method_3_code 43 = .ok (.lload 4, 2) := by decide +kernel
theorem d2_45 : decode method_3_code 45 = .ok (.lreturn, 1) := by decide +kernel
theorem d3_0 : decode method_4_code 0 = .ok (.iload_n 1, 1) := by decide +kernel
theorem d3_1 : decode method_4_code 1 = .ok (.iload_n 2, 1) := by decide +kernel
theorem d3_2 : decode method_4_code 2 = .ok (.if_icmp .lt 10, 3) := by decide +kernel
theorem d3_5 : decode method_4_code 5 = .ok (.iload_n 1, 1) := by decide +kernel
theorem d3_6 : decode method_4_code 6 = .ok (.iconst 1, 1) := by decide +kernel
theorem d3_7 : decode method_4_code 7 = .ok (.iadd, 1) := by decide +kernel
theorem d3_8 : decode method_4_code 8 = .ok (.iload_n 3, 1) := by decide +kernel
theorem d3_9 : decode method_4_code 9 = .ok (.if_icmp .lt 5, 3) := by decide +kernel
theorem d3_12 : decode method_4_code 12 = .ok (.lconst 0, 1) := by decide +kernel
theorem d3_13 : decode method_4_code 13 = .ok (.lreturn, 1) := by decide +kernel
theorem d3_14 : decode method_4_code 14 = .ok (.aload_n 0, 1) := by decide +kernel
theorem d3_15 : decode method_4_code 15 = .ok (.iload_n 1, 1) := by decide +kernel
theorem d3_16 : decode method_4_code 16 = .ok (.baload, 1) := by decide +kernel
theorem d3_17 : decode method_4_code 17 = .ok (.bipush 13, 2) := by decide +kernel
theorem d3_19 : decode method_4_code 19 = .ok (.if_icmp .ne 15, 3) := by decide +kernel
theorem d3_22 : decode method_4_code 22 = .ok (.aload_n 0, 1) := by decide +kernel
theorem d3_23 : decode method_4_code 23 = .ok (.iload_n 1, 1) := by decide +kernel
theorem d3_24 : decode method_4_code 24 = .ok (.iconst 1, 1) := by decide +kernel
theorem d3_25 : decode method_4_code 25 = .ok (.iadd, 1) := by decide +kernel
theorem d3_26 : decode method_4_code 26 = .ok (.baload, 1) := by decide +kernel
theorem d3_27 : decode method_4_code 27 = .ok (.bipush 10, 2) := by decide +kernel
theorem d3_29 : decode method_4_code 29 = .ok (.if_icmp .ne 5, 3) := by decide +kernel
theorem d3_32 : decode method_4_code 32 = .ok (.lconst 1, 1) := by decide +kernel
theorem d3_33 : decode method_4_code 33 = .ok (.lreturn, 1) := by decide +kernel
theorem d3_34 : decode method_4_code 34 = .ok (.lconst 0, 1) := by decide +kernel
theorem d3_35 : decode method_4_code 35 = .ok (.lreturn, 1) := by decide +kernel
theorem pn_1 : plainName "com/example/vestry/vestry/InputFiles" = true := by first | (simp [plainName, overriddenIn]; done) | decide +kernel
theorem d4_0 : decode prog_8_method_9_code 0 = .ok (.lconst 0, 1) := by decide +kernel
theorem d4_1 : decode prog_8_method_9_code 1 = .ok (.lstore_n 3, 1) := by decide +kernel
theorem d4_2 : decode prog_8_method_9_code 2 = .ok (.iload_n 1, 1) := by decide +kernel
theorem d4_3 : decode prog_8_method_9_code 3 = .ok (.istore 5, 2) := by decide +kernel
theorem d4_5 : decode prog_8_method_9_code 5 = .ok (.iload 5, 2) := by decide +kernel
theorem d4_7 : decode prog_8_method_9_code 7 = .ok (.iload_n 2, 1) := by decide +kernel
theorem d4_8 : decode prog_8_method_9_code 8 = .ok (.if_icmp .ge 50, 3) := by decide +kernel
theorem d4_11 : decode prog_8_method_9_code 11 = .ok (.aload_n 0, 1) := by decide +kernel
theorem d4_12 : decode prog_8_method_9_code 12 = .ok (.iload 5, 2) := by decide +kernel
theorem d4_14 : decode prog_8_method_9_code 14 = .ok (.baload, 1) := by decide +kernel
theorem d4_15 : decode prog_8_method_9_code 15 = .ok (.istore 6, 2) := by decide +kernel
theorem d4_17 : decode prog_8_method_9_code 17 = .ok (.iload 6, 2) := by decide +kernel
theorem d4_19 : decode prog_8_method_9_code 19 = .ok (.bipush 13, 2) := by decide +kernel
theorem d4_21 : decode prog_8_method_9_code 21 = .ok (.if_icmp .eq 27, 3) := by decide +kernel
theorem d4_24 : decode prog_8_method_9_code 24 = .ok (.iload 6, 2) := by decide +kernel
theorem d4_26 : decode prog_8_method_9_code 26 = .ok (.bipush 10, 2) := by decide +kernel
theorem d4_28 : decode prog_8_method_9_code 28 = .ok (.if_icmp .ne 24, 3) := by decide +kernel
theorem d4_31 : decode prog_8_method_9_code 31 = .ok (.iload 5, 2) := by decide +kernel
theorem d4_33 : decode prog_8_method_9_code 33 = .ok (.iload_n 1, 1) := by decide +kernel
theorem d4_34 : decode prog_8_method_9_code 34 = .ok (.if_icmp .eq 14, 3) := by decide +kernel
theorem d4_37 : decode prog_8_method_9_code 37 = .ok (.aload_n 0, 1) := by decide +kernel
theorem d4_38 : decode prog_8_method_9_code 38 = .ok (.iload 5, 2) := by decide +kernel
theorem d4_40 : decode prog_8_method_9_code 40 = .ok (.iconst 1, 1) := by decide +kernel
theorem d4_41 : decode prog_8_method_9_code 41 = .ok (.isub, 1) := by decide +kernel
theorem d4_42 : decode prog_8_method_9_code 42 = .ok (.baload, 1) := by decide +kernel
theorem d4_43 : decode prog_8_method_9_code 43 = .ok (.bipush 13, 2) := by decide +kernel
theorem d4_45 : decode prog_8_method_9_code 45 = .ok (.if_icmp .eq 7, 3) := by decide +kernel
theorem d4_48 : decode prog_8_method_9_code 48 = .ok (.lload_n 3, 1) := by decide +kernel
theorem d4_49 : decode prog_8_method_9_code 49 = .ok (.lconst 1, 1) := by decide +kernel
theorem d4_50 : decode prog_8_method_9_code 50 = .ok (.ladd, 1) := by decide +kernel
theorem d4_51 : decode prog_8_method_9_code 51 = .ok (.lstore_n 3, 1) := by decide +kernel
theorem d4_52 : decode prog_8_method_9_code 52 = .ok (.iinc 5 1, 3) := by decide +kernel
theorem d4_55 : decode prog_8_method_9_code 55 = .ok (.goto (-50), 3) := by decide +kernel
theorem d4_58 : decode prog_8_method_9_code 58 = .ok (.lload_n 3, 1) := by decide +kernel
theorem d4_59 : decode prog_8_method_9_code 59 = .ok (.lreturn, 1) := by decide +kernel
theorem pd_0 : parseMethodDescriptor "(I)B" = some ⟨[.int], some .byte⟩ := by decide +kernel
theorem pd_1 : parseMethodDescriptor "([BIII)J" = some ⟨[(.array .byte), .int, .int, .int], some .long⟩ := by decide +kernel
theorem pd_2 : parseMethodDescriptor "([BII)J" = some ⟨[(.array .byte), .int, .int], some .long⟩ := by decide +kernel
/-! numbers -/
theorem own_ofNat {n : Nat} (hn : n < 2147483648) : (Int32.ofNat n).toInt = (n : Int) := Int32.toInt_ofNat_of_lt hn
theorem own_and_nat (x : Int32) (m : Nat) (hm : m < 2147483648) : ∃ k : Nat, k ≤ m ∧ (x &&& Int32.ofNat m) = Int32.ofNat k := by
  refine ⟨(x &&& Int32.ofNat m).toBitVec.toNat, ?_, ?_⟩
  · simp only [Int32.toBitVec_and, BitVec.toNat_and]
    refine Nat.le_trans Nat.and_le_right ?_
    show (BitVec.ofNat 32 m).toNat ≤ m
    rw [BitVec.toNat_ofNat]
    exact Nat.mod_le _ _
  · apply Int32.toBitVec_inj.mp
    show _ = BitVec.ofNat 32 _
    rw [BitVec.ofNat_toNat]; simp
theorem own_rem (x : Int32) (n : Nat) (h1 : 0 < n) (h2 : n < 2147483648) : ∃ k : Nat, k < n ∧ ((x &&& (2147483647 : Int32)) % Int32.ofNat n).toInt = (k : Int) := by
  obtain ⟨j, hj, e⟩ := own_and_nat x 2147483647 (by decide)
  refine ⟨j % n, Nat.mod_lt _ h1, ?_⟩
  have e' : (x &&& (2147483647 : Int32)) = Int32.ofNat j := e
  rw [e', Int32.toInt_mod, own_ofNat (by omega), own_ofNat h2]
  exact (Int.ofNat_tmod j n).symm

theorem own_one (i : Nat) : Int32.ofNat i + (1 : Int32) = Int32.ofNat (i + 1) := (Int32.ofNat_add i 1).symm
theorem own_lt {i n : Nat} (hi : i < 2147483648) (hn : n < 2147483648) : Int32.ofNat i < Int32.ofNat n ↔ i < n := by
  rw [Int32.lt_iff_toInt_lt, own_ofNat hi, own_ofNat hn]; omega
theorem own_eq {i n : Nat} (hi : i < 2147483648) (hn : n < 2147483648) : Int32.ofNat i = Int32.ofNat n ↔ i = n := by
  rw [← Int32.toInt_inj, own_ofNat hi, own_ofNat hn]; omega
theorem own_pred {i : Nat} (hi : 0 < i) : Int32.ofNat i - (1 : Int32) = Int32.ofNat (i - 1) := by
  obtain ⟨j, rfl⟩ : ∃ j, i = j + 1 := ⟨i - 1, by omega⟩
  rw [← own_one, Int32.add_sub_cancel, Nat.add_sub_cancel]
theorem own_mod6 (x : Int32) : ∃ k : Nat, k < 6 ∧ (x &&& 32767) % (6 : Int32) = Int32.ofNat k := by
  obtain ⟨k, hk, e⟩ := own_and_nat x 32767 (by decide)
  refine ⟨k % 6, Nat.mod_lt _ (by decide), ?_⟩
  rw [show (x &&& 32767) = Int32.ofNat k from e, ← Int32.toInt_inj, Int32.toInt_mod, own_ofNat (by omega), own_ofNat (by omega)]
  exact (Int.ofNat_tmod k 6).symm
def own_s1 (f : Nat → Int32) (i : Nat) : Int := (if f i = 13 then 1 else 0) + (if f i = 10 then 1 else 0)
def own_p1 (f : Nat → Int32) (i : Nat) : Int := if f i = 13 ∧ f (i + 1) = 10 then 1 else 0
def own_s (f : Nat → Int32) (i a b : Nat) : Int := if a ≤ i ∧ i < b then own_s1 f i else 0
def own_p (f : Nat → Int32) (i a b : Nat) : Int := if a ≤ i ∧ i + 1 < b then own_p1 f i else 0
def own_c (f : Nat → Int32) (a i : Nat) : Int := if f i = 13 ∨ (f i = 10 ∧ (i = a ∨ f (i - 1) ≠ 13)) then 1 else 0
def own_cnt (f : Nat → Int32) (a : Nat) : Nat → Nat → Int
  | 0, _ => 0
  | k + 1, i => own_c f a i + own_cnt f a k (i + 1)
theorem own_c0 (f : Nat → Int32) (a : Nat) : own_c f a a = own_s1 f a := by
  unfold own_c own_s1
  by_cases q : f a = 13
  · rw [if_pos (Or.inl q), if_pos q, if_neg (by rw [q]; decide)]; rfl
  · by_cases r : f a = 10
    · rw [if_pos (Or.inr ⟨r, Or.inl rfl⟩), if_neg q, if_pos r]; rfl
    · rw [if_neg (fun z => z.elim q (fun z => r z.1)), if_neg q, if_neg r]; rfl
theorem own_c1 (f : Nat → Int32) {a i : Nat} (h : i + 1 ≠ a) : own_c f a (i + 1) = own_s1 f (i + 1) - own_p1 f i := by
  unfold own_c own_s1 own_p1
  rw [Nat.add_sub_cancel]
  by_cases q : f (i + 1) = 13
  · rw [if_pos (Or.inl q), if_pos q, if_neg (by rw [q]; decide), if_neg (fun z => absurd (q.symm.trans z.2) (by decide))]; rfl
  · by_cases r : f (i + 1) = 10
    · by_cases t : f i = 13
      · rw [if_neg (by rintro (z | ⟨-, z | z⟩); exact q z; exact h z; exact z t), if_neg q, if_pos r, if_pos ⟨t, r⟩]; rfl
      · rw [if_pos (Or.inr ⟨r, Or.inr t⟩), if_neg q, if_pos r, if_neg (fun z => t z.1)]; rfl
    · rw [if_neg (fun z => z.elim q (fun z => r z.1)), if_neg q, if_neg r, if_neg (fun z => r z.2)]; rfl
theorem own_law (f : Nat → Int32) {a b : Nat} (ha : a < 6) (hb : b < 6) : own_cnt f a (b - a) a = own_s f 0 a b + own_s f 1 a b + own_s f 2 a b + own_s f 3 a b + own_s f 4 a b - (own_p f 0 a b + own_p f 1 a b + own_p f 2 a b + own_p f 3 a b) := by
  match a, ha, b, hb with
  | 0, _, 0, _ => simp [own_cnt, own_s, own_p, own_c0, own_c1]
  | 0, _, 1, _ => simp [own_cnt, own_s, own_p, own_c0, own_c1]
  | 0, _, 2, _ => simp [own_cnt, own_s, own_p, own_c0, own_c1]; omega
  | 0, _, 3, _ => simp [own_cnt, own_s, own_p, own_c0, own_c1]; omega
  | 0, _, 4, _ => simp [own_cnt, own_s, own_p, own_c0, own_c1]; omega
  | 0, _, 5, _ => simp [own_cnt, own_s, own_p, own_c0, own_c1]; omega
  | 1, _, 0, _ => simp [own_cnt, own_s, own_p, own_c0, own_c1]
  | 1, _, 1, _ => simp [own_cnt, own_s, own_p, own_c0, own_c1]
  | 1, _, 2, _ => simp [own_cnt, own_s, own_p, own_c0, own_c1]
  | 1, _, 3, _ => simp [own_cnt, own_s, own_p, own_c0, own_c1]; omega
  | 1, _, 4, _ => simp [own_cnt, own_s, own_p, own_c0, own_c1]; omega
  | 1, _, 5, _ => simp [own_cnt, own_s, own_p, own_c0, own_c1]; omega
  | 2, _, 0, _ => simp [own_cnt, own_s, own_p, own_c0, own_c1]
  | 2, _, 1, _ => simp [own_cnt, own_s, own_p, own_c0, own_c1]
  | 2, _, 2, _ => simp [own_cnt, own_s, own_p, own_c0, own_c1]
  | 2, _, 3, _ => simp [own_cnt, own_s, own_p, own_c0, own_c1]
  | 2, _, 4, _ => simp [own_cnt, own_s, own_p, own_c0, own_c1]; omega
  | 2, _, 5, _ => simp [own_cnt, own_s, own_p, own_c0, own_c1]; omega
  | 3, _, 0, _ => simp [own_cnt, own_s, own_p, own_c0, own_c1]
  | 3, _, 1, _ => simp [own_cnt, own_s, own_p, own_c0, own_c1]
  | 3, _, 2, _ => simp [own_cnt, own_s, own_p, own_c0, own_c1]
  | 3, _, 3, _ => simp [own_cnt, own_s, own_p, own_c0, own_c1]
  | 3, _, 4, _ => simp [own_cnt, own_s, own_p, own_c0, own_c1]
  | 3, _, 5, _ => simp [own_cnt, own_s, own_p, own_c0, own_c1]; omega
  | 4, _, 0, _ => simp [own_cnt, own_s, own_p, own_c0, own_c1]
  | 4, _, 1, _ => simp [own_cnt, own_s, own_p, own_c0, own_c1]
  | 4, _, 2, _ => simp [own_cnt, own_s, own_p, own_c0, own_c1]
  | 4, _, 3, _ => simp [own_cnt, own_s, own_p, own_c0, own_c1]
  | 4, _, 4, _ => simp [own_cnt, own_s, own_p, own_c0, own_c1]
  | 4, _, 5, _ => simp [own_cnt, own_s, own_p, own_c0, own_c1]
  | 5, _, 0, _ => simp [own_cnt, own_s, own_p, own_c0, own_c1]
  | 5, _, 1, _ => simp [own_cnt, own_s, own_p, own_c0, own_c1]
  | 5, _, 2, _ => simp [own_cnt, own_s, own_p, own_c0, own_c1]
  | 5, _, 3, _ => simp [own_cnt, own_s, own_p, own_c0, own_c1]
  | 5, _, 4, _ => simp [own_cnt, own_s, own_p, own_c0, own_c1]
  | 5, _, 5, _ => simp [own_cnt, own_s, own_p, own_c0, own_c1]
def Q_c1 (Z : State) (n0 : Nat) (h0 : Heap) (x0 : Int32) : Option Value → Heap → Prop := fun v h => (∃ z : Int32, v = some (.int z)) ∧ h0 = h
abbrev rm_c1 : Room := { frames := 0, cells := 0, slots := 0, locals := 0 }
set_option maxHeartbeats 40000000 in
theorem c1 (l : Launch) (Z : State) (a0 : Array Value) (hw : ∀ d ∈ tables_1, d.before a0 Z = true) (n0 : Nat) (h0 : Heap) (hn : n0 ≤ h0.size) (x0 : Int32) :
    Mt l Z (⟨"com/example/vestry/vestry/InputFilesLineEndsPinLaw", "pick", "(I)B"⟩ : MethodName) method_2_code 2 (some .byte) rm_c1 n0 #[(.int x0)] h0 (Q_c1 Z n0 h0 x0) := by
  refine met_of (plainFor_of_name pn_0) (Ls := #[.val (.int x0), .unset]) (fun m => by first | (simp [entryFrame, mkF, argsToLocals, Value.category]; done) | rfl) hn ?_
  intro p e s m below meth c T K W
  replace K : Cx p s m meth c Z "com/example/vestry/vestry/InputFilesLineEndsPinLaw" "pick" method_2_code 2 (some .byte) := K
  generalize eA : (#[(.int x0)] : Array Value) = args at W
  show Go p e below s n0 (Q_c1 Z n0 h0 x0) 0 0 T (mkF m 0 #[.val (.int x0), .unset] [])
  refine g_iloadN K W d1_0 rfl (pc' := 1) rfl ?_
  refine g_iconst K W (v := (3 : Int32)) d1_1 rfl (pc' := 2) rfl ?_
  refine g_iand K W d1_2 (pc' := 3) rfl ?_
  generalize e_v3 : (x0 &&& (3 : Int32)) = v3
  refine g_istoreN K W d1_3 (Ls' := #[.val (.int x0), .val (.int v3)]) rfl (pc' := 4) rfl ?_
  refine g_iloadN K W d1_4 rfl (pc' := 5) rfl ?_
  refine g_if_ne K W d1_5 (pt := 11) rfl (pf := 8) rfl (fun hc5 => ?_) (fun hc5 => ?_)
  · refine g_bipush K W (v := (13 : Int32)) d1_8 rfl (pc' := 10) rfl ?_
    exact g_retN K W (by simp) d1_10 (by decide) (by decide) (v := (13 : Int32)) rfl ⟨⟨_, rfl⟩, rfl⟩
  · refine g_iloadN K W d1_11 rfl (pc' := 12) rfl ?_
    refine g_iconst K W (v := (1 : Int32)) d1_12 rfl (pc' := 13) rfl ?_
    refine g_icmp_ne K W d1_13 (pt := 19) rfl (pf := 16) rfl (fun hc13 => ?_) (fun hc13 => ?_)
    · refine g_bipush K W (v := (10 : Int32)) d1_16 rfl (pc' := 18) rfl ?_
      exact g_retN K W (by simp) d1_18 (by decide) (by decide) (v := (10 : Int32)) rfl ⟨⟨_, rfl⟩, rfl⟩
    · refine g_iloadN K W d1_19 rfl (pc' := 20) rfl ?_
      refine g_iconst K W (v := (2 : Int32)) d1_20 rfl (pc' := 21) rfl ?_
      refine g_ishr K W d1_21 (pc' := 22) rfl ?_
      refine g_i2b K W d1_22 (pc' := 23) rfl ?_
      exact g_retN K W (by simp) d1_23 (by decide) (by decide) rfl ⟨⟨_, rfl⟩, rfl⟩
def Q_c2 (Z : State) (n0 : Nat) (h0 : Heap) (o0 : Addr) (x1 : Int32) (x2 : Int32) (x3 : Int32) (n : Nat) (f : Nat → Int32) (i : Nat) (a : Nat) (b : Nat) : Option Value → Heap → Prop := fun v h => v = some (.long (Int64.ofInt (own_s f i a b))) ∧ h0 = h
abbrev rm_c2 : Room := { frames := 0, cells := 0, slots := 0, locals := 0 }
set_option maxHeartbeats 40000000 in
theorem c2 (l : Launch) (Z : State) (a0 : Array Value) (hw : ∀ d ∈ tables_1, d.before a0 Z = true) (n0 : Nat) (h0 : Heap) (hn : n0 ≤ h0.size) (o0 : Addr) (x1 : Int32) (x2 : Int32) (x3 : Int32) (n : Nat) (f : Nat → Int32) (i : Nat) (a : Nat) (b : Nat) (A_o0 : AyI Z h0 o0 .byte n f) (ex1 : x1 = Int32.ofNat i) (ex2 : x2 = Int32.ofNat a) (ex3 : x3 = Int32.ofNat b) (hin : i < 6) (hna : a < 6) (hnb : b < 6) (hbn : b ≤ n) :
    Mt l Z (⟨"com/example/vestry/vestry/InputFilesLineEndsPinLaw", "single", "([BIII)J"⟩ : MethodName) method_3_code 6 (some .long) rm_c2 n0 #[(.ref o0), (.int x1), (.int x2), (.int x3)] h0 (Q_c2 Z n0 h0 o0 x1 x2 x3 n f i a b) := by
  refine met_of (plainFor_of_name pn_0) (Ls := #[.val (.ref o0), .val (.int x1), .val (.int x2), .val (.int x3), .unset, .unset]) (fun m => by first | (simp [entryFrame, mkF, argsToLocals, Value.category]; done) | rfl) hn ?_
  intro p e s m below meth c T K W
  replace K : Cx p s m meth c Z "com/example/vestry/vestry/InputFilesLineEndsPinLaw" "single" method_3_code 6 (some .long) := K
  generalize eA : (#[(.ref o0), (.int x1), (.int x2), (.int x3)] : Array Value) = args at W
  show Go p e below s n0 (Q_c2 Z n0 h0 o0 x1 x2 x3 n f i a b) 0 0 T (mkF m 0 #[.val (.ref o0), .val (.int x1), .val (.int x2), .val (.int x3), .unset, .unset] [])
  subst ex1 ex2 ex3
  show Go p e below s n0 (Q_c2 Z n0 h0 o0 (Int32.ofNat i) (Int32.ofNat a) (Int32.ofNat b) n f i a b) 0 0 T (mkF m 0 #[.val (.ref o0), .val (.int (Int32.ofNat i)), .val (.int (Int32.ofNat a)), .val (.int (Int32.ofNat b)), .unset, .unset] [])
  refine g_iloadN K W d2_0 rfl (pc' := 1) rfl ?_
  refine g_iloadN K W d2_1 rfl (pc' := 2) rfl ?_
  refine g_icmp_lt K W d2_2 (pt := 10) rfl (pf := 5) rfl (fun hc2 => ?_) (fun hc2 => ?_)
  · refine g_lconst K W (v := (0 : Int64)) d2_10 rfl (pc' := 11) rfl ?_
    exact g_retL K W d2_11 (by decide) (by decide) ⟨(by rw [own_s, if_neg (by have := (own_lt (by omega) (by omega)).mp hc2; omega)]; rfl), rfl⟩
  · refine g_iloadN K W d2_5 rfl (pc' := 6) rfl ?_
    refine g_iloadN K W d2_6 rfl (pc' := 7) rfl ?_
    refine g_icmp_lt K W d2_7 (pt := 12) rfl (pf := 10) rfl (fun hc7 => ?_) (fun hc7 => ?_)
    · refine g_lconst K W (v := (0 : Int64)) d2_12 rfl (pc' := 13) rfl ?_
      refine g_lstore K W d2_13 (Ls' := #[.val (.ref o0), .val (.int (Int32.ofNat i)), .val (.int (Int32.ofNat a)), .val (.int (Int32.ofNat b)), .val (.long (0 : Int64)), .second]) rfl (pc' := 15) rfl ?_
      refine g_aloadN K W d2_15 rfl rfl (pc' := 16) rfl ?_
      refine g_iloadN K W d2_16 rfl (pc' := 17) rfl ?_
      refine g_baload K W A_o0 (k := i) (own_ofNat (by omega)) (by have := (own_lt (by omega) (by omega)).mp hc7; omega) (v := (f i)) rfl d2_17 (pc' := 18) rfl ?_
      refine g_bipush K W (v := (13 : Int32)) d2_18 rfl (pc' := 20) rfl ?_
      refine g_icmp_ne K W d2_20 (pt := 29) rfl (pf := 23) rfl (fun hc20 => ?_) (fun hc20 => ?_)
      · refine g_lload K W d2_23 rfl (pc' := 25) rfl ?_
        refine g_lconst K W (v := (1 : Int64)) d2_25 rfl (pc' := 26) rfl ?_
        refine g_ladd K W d2_26 (pc' := 27) rfl ?_
        refine g_lstore K W d2_27 (Ls' := #[.val (.ref o0), .val (.int (Int32.ofNat i)), .val (.int (Int32.ofNat a)), .val (.int (Int32.ofNat b)), .val (.long ((0 : Int64) + (1 : Int64))), .second]) rfl (pc' := 29) rfl ?_
        refine g_aloadN K W d2_29 rfl rfl (pc' := 30) rfl ?_
        refine g_iloadN K W d2_30 rfl (pc' := 31) rfl ?_
        refine g_baload K W A_o0 (k := i) (own_ofNat (by omega)) (by have := (own_lt (by omega) (by omega)).mp hc7; omega) (v := (f i)) rfl d2_31 (pc' := 32) rfl ?_
        refine g_bipush K W (v := (10 : Int32)) d2_32 rfl (pc' := 34) rfl ?_
        refine g_icmp_ne K W d2_34 (pt := 43) rfl (pf := 37) rfl (fun hc34 => ?_) (fun hc34 => ?_)
        · refine g_lload K W d2_37 rfl (pc' := 39) rfl ?_
          refine g_lconst K W (v := (1 : Int64)) d2_39 rfl (pc' := 40) rfl ?_
          refine g_ladd K W d2_40 (pc' := 41) rfl ?_
          refine g_lstore K W d2_41 (Ls' := #[.val (.ref o0), .val (.int (Int32.ofNat i)), .val (.int (Int32.ofNat a)), .val (.int (Int32.ofNat b)), .val (.long (((0 : Int64) + (1 : Int64)) + (1 : Int64))), .second]) rfl (pc' := 43) rfl ?_
          refine g_lload K W d2_43 rfl (pc' := 45) rfl ?_
          exact g_retL K W d2_45 (by decide) (by decide) ⟨(by rw [own_s, if_pos (by have := (not_congr (own_lt (by omega) (by omega))).mp hc2; have := (own_lt (by omega) (by omega)).mp hc7; omega), own_s1, if_pos hc20, if_pos hc34]; rfl), rfl⟩
        · refine g_lload K W d2_43 rfl (pc' := 45) rfl ?_
          exact g_retL K W d2_45 (by decide) (by decide) ⟨(by rw [own_s, if_pos (by have := (not_congr (own_lt (by omega) (by omega))).mp hc2; have := (own_lt (by omega) (by omega)).mp hc7; omega), own_s1, if_pos hc20, if_neg hc34]; rfl), rfl⟩
      · refine g_aloadN K W d2_29 rfl rfl (pc' := 30) rfl ?_
        refine g_iloadN K W d2_30 rfl (pc' := 31) rfl ?_
        refine g_baload K W A_o0 (k := i) (own_ofNat (by omega)) (by have := (own_lt (by omega) (by omega)).mp hc7; omega) (v := (f i)) rfl d2_31 (pc' := 32) rfl ?_
        refine g_bipush K W (v := (10 : Int32)) d2_32 rfl (pc' := 34) rfl ?_
        refine g_icmp_ne K W d2_34 (pt := 43) rfl (pf := 37) rfl (fun hc34 => ?_) (fun hc34 => ?_)
        · refine g_lload K W d2_37 rfl (pc' := 39) rfl ?_
          refine g_lconst K W (v := (1 : Int64)) d2_39 rfl (pc' := 40) rfl ?_
          refine g_ladd K W d2_40 (pc' := 41) rfl ?_
          refine g_lstore K W d2_41 (Ls' := #[.val (.ref o0), .val (.int (Int32.ofNat i)), .val (.int (Int32.ofNat a)), .val (.int (Int32.ofNat b)), .val (.long ((0 : Int64) + (1 : Int64))), .second]) rfl (pc' := 43) rfl ?_
          refine g_lload K W d2_43 rfl (pc' := 45) rfl ?_
          exact g_retL K W d2_45 (by decide) (by decide) ⟨(by rw [own_s, if_pos (by have := (not_congr (own_lt (by omega) (by omega))).mp hc2; have := (own_lt (by omega) (by omega)).mp hc7; omega), own_s1, if_neg hc20, if_pos hc34]; rfl), rfl⟩
        · refine g_lload K W d2_43 rfl (pc' := 45) rfl ?_
          exact g_retL K W d2_45 (by decide) (by decide) ⟨(by rw [own_s, if_pos (by have := (not_congr (own_lt (by omega) (by omega))).mp hc2; have := (own_lt (by omega) (by omega)).mp hc7; omega), own_s1, if_neg hc20, if_neg hc34]; rfl), rfl⟩
    · refine g_lconst K W (v := (0 : Int64)) d2_10 rfl (pc' := 11) rfl ?_
      exact g_retL K W d2_11 (by decide) (by decide) ⟨(by rw [own_s, if_neg (by have := (not_congr (own_lt (by omega) (by omega))).mp hc7; omega)]; rfl), rfl⟩
def Q_c3 (Z : State) (n0 : Nat) (h0 : Heap) (o0 : Addr) (x1 : Int32) (x2 : Int32) (x3 : Int32) (n : Nat) (f : Nat → Int32) (i : Nat) (a : Nat) (b : Nat) : Option Value → Heap → Prop := fun v h => v = some (.long (Int64.ofInt (own_p f i a b))) ∧ h0 = h
abbrev rm_c3 : Room := { frames := 0, cells := 0, slots := 0, locals := 0 }
set_option maxHeartbeats 40000000 in
theorem c3 (l : Launch) (Z : State) (a0 : Array Value) (hw : ∀ d ∈ tables_1, d.before a0 Z = true) (n0 : Nat) (h0 : Heap) (hn : n0 ≤ h0.size) (o0 : Addr) (x1 : Int32) (x2 : Int32) (x3 : Int32) (n : Nat) (f : Nat → Int32) (i : Nat) (a : Nat) (b : Nat) (A_o0 : AyI Z h0 o0 .byte n f) (ex1 : x1 = Int32.ofNat i) (ex2 : x2 = Int32.ofNat a) (ex3 : x3 = Int32.ofNat b) (hin : i < 6) (hna : a < 6) (hnb : b < 6) (hbn : b ≤ n) :
    Mt l Z (⟨"com/example/vestry/vestry/InputFilesLineEndsPinLaw", "pair", "([BIII)J"⟩ : MethodName) method_4_code 4 (some .long) rm_c3 n0 #[(.ref o0), (.int x1), (.int x2), (.int x3)] h0 (Q_c3 Z n0 h0 o0 x1 x2 x3 n f i a b) := by
  refine met_of (plainFor_of_name pn_0) (Ls := #[.val (.ref o0), .val (.int x1), .val (.int x2), .val (.int x3)]) (fun m => by first | (simp [entryFrame, mkF, argsToLocals, Value.category]; done) | rfl) hn ?_
  intro p e s m below meth c T K W
  replace K : Cx p s m meth c Z "com/example/vestry/vestry/InputFilesLineEndsPinLaw" "pair" method_4_code 4 (some .long) := K
  generalize eA : (#[(.ref o0), (.int x1), (.int x2), (.int x3)] : Array Value) = args at W
  show Go p e below s n0 (Q_c3 Z n0 h0 o0 x1 x2 x3 n f i a b) 0 0 T (mkF m 0 #[.val (.ref o0), .val (.int x1), .val (.int x2), .val (.int x3)] [])
  subst ex1 ex2 ex3
  show Go p e below s n0 (Q_c3 Z n0 h0 o0 (Int32.ofNat i) (Int32.ofNat a) (Int32.ofNat b) n f i a b) 0 0 T (mkF m 0 #[.val (.ref o0), .val (.int (Int32.ofNat i)), .val (.int (Int32.ofNat a)), .val (.int (Int32.ofNat b))] [])
  refine g_iloadN K W d3_0 rfl (pc' := 1) rfl ?_
  refine g_iloadN K W d3_1 rfl (pc' := 2) rfl ?_
  refine g_icmp_lt K W d3_2 (pt := 12) rfl (pf := 5) rfl (fun hc2 => ?_) (fun hc2 => ?_)
  · refine g_lconst K W (v := (0 : Int64)) d3_12 rfl (pc' := 13) rfl ?_
    exact g_retL K W d3_13 (by decide) (by decide) ⟨(by rw [own_p, if_neg (by have := (own_lt (by omega) (by omega)).mp hc2; omega)]; rfl), rfl⟩
  · refine g_iloadN K W d3_5 rfl (pc' := 6) rfl ?_
    refine g_iconst K W (v := (1 : Int32)) d3_6 rfl (pc' := 7) rfl ?_
    refine g_iadd K W d3_7 (pc' := 8) rfl ?_
    rw [own_one]
    refine g_iloadN K W d3_8 rfl (pc' := 9) rfl ?_
    refine g_icmp_lt K W d3_9 (pt := 14) rfl (pf := 12) rfl (fun hc9 => ?_) (fun hc9 => ?_)
    · refine g_aloadN K W d3_14 rfl rfl (pc' := 15) rfl ?_
      refine g_iloadN K W d3_15 rfl (pc' := 16) rfl ?_
      refine g_baload K W A_o0 (k := i) (own_ofNat (by omega)) (by have := (own_lt (by omega) (by omega)).mp hc9; omega) (v := (f i)) rfl d3_16 (pc' := 17) rfl ?_
      refine g_bipush K W (v := (13 : Int32)) d3_17 rfl (pc' := 19) rfl ?_
      refine g_icmp_ne K W d3_19 (pt := 34) rfl (pf := 22) rfl (fun hc19 => ?_) (fun hc19 => ?_)
      · refine g_aloadN K W d3_22 rfl rfl (pc' := 23) rfl ?_
        refine g_iloadN K W d3_23 rfl (pc' := 24) rfl ?_
        refine g_iconst K W (v := (1 : Int32)) d3_24 rfl (pc' := 25) rfl ?_
        refine g_iadd K W d3_25 (pc' := 26) rfl ?_
        rw [own_one]
        refine g_baload K W A_o0 (k := (i + 1)) (own_ofNat (by omega)) (by have := (own_lt (by omega) (by omega)).mp hc9; omega) (v := (f (i + 1))) rfl d3_26 (pc' := 27) rfl ?_
        refine g_bipush K W (v := (10 : Int32)) d3_27 rfl (pc' := 29) rfl ?_
        refine g_icmp_ne K W d3_29 (pt := 34) rfl (pf := 32) rfl (fun hc29 => ?_) (fun hc29 => ?_)
        · refine g_lconst K W (v := (1 : Int64)) d3_32 rfl (pc' := 33) rfl ?_
          exact g_retL K W d3_33 (by decide) (by decide) ⟨(by rw [own_p, if_pos (by have := (not_congr (own_lt (by omega) (by omega))).mp hc2; have := (own_lt (by omega) (by omega)).mp hc9; omega), own_p1, if_pos ⟨hc19, hc29⟩]; rfl), rfl⟩
        · refine g_lconst K W (v := (0 : Int64)) d3_34 rfl (pc' := 35) rfl ?_
          exact g_retL K W d3_35 (by decide) (by decide) ⟨(by rw [own_p, if_pos (by have := (not_congr (own_lt (by omega) (by omega))).mp hc2; have := (own_lt (by omega) (by omega)).mp hc9; omega), own_p1, if_neg (fun z => hc29 z.2)]; rfl), rfl⟩
      · refine g_lconst K W (v := (0 : Int64)) d3_34 rfl (pc' := 35) rfl ?_
        exact g_retL K W d3_35 (by decide) (by decide) ⟨(by rw [own_p, if_pos (by have := (not_congr (own_lt (by omega) (by omega))).mp hc2; have := (own_lt (by omega) (by omega)).mp hc9; omega), own_p1, if_neg (fun z => hc19 z.1)]; rfl), rfl⟩
    · refine g_lconst K W (v := (0 : Int64)) d3_12 rfl (pc' := 13) rfl ?_
      exact g_retL K W d3_13 (by decide) (by decide) ⟨(by rw [own_p, if_neg (by have := (not_congr (own_lt (by omega) (by omega))).mp hc9; omega)]; rfl), rfl⟩
def Q_c4 (Z : State) (n0 : Nat) (h0 : Heap) (o0 : Addr) (x1 : Int32) (x2 : Int32) (n : Nat) (f : Nat → Int32) (a : Nat) (b : Nat) : Option Value → Heap → Prop := fun v h => v = some (.long (Int64.ofInt (own_cnt f a (b - a) a))) ∧ h0 = h
abbrev rm_c4 : Room := { frames := 0, cells := 0, slots := 0, locals := 0 }
set_option maxHeartbeats 40000000 in
theorem c4 (l : Launch) (Z : State) (a0 : Array Value) (hw : ∀ d ∈ tables_1, d.before a0 Z = true) (n0 : Nat) (h0 : Heap) (hn : n0 ≤ h0.size) (o0 : Addr) (x1 : Int32) (x2 : Int32) (n : Nat) (f : Nat → Int32) (a : Nat) (b : Nat) (A_o0 : AyI Z h0 o0 .byte n f) (ex1 : x1 = Int32.ofNat a) (ex2 : x2 = Int32.ofNat b) (hna : a < 6) (hnb : b < 6) (hbn : b ≤ n) :
    Mt l Z (⟨"com/example/vestry/vestry/InputFiles", "lineEnds", "([BII)J"⟩ : MethodName) prog_8_method_9_code 7 (some .long) rm_c4 n0 #[(.ref o0), (.int x1), (.int x2)] h0 (Q_c4 Z n0 h0 o0 x1 x2 n f a b) := by
  refine met_of (plainFor_of_name pn_1) (Ls := #[.val (.ref o0), .val (.int x1), .val (.int x2), .unset, .unset, .unset, .unset]) (fun m => by first | (simp [entryFrame, mkF, argsToLocals, Value.category]; done) | rfl) hn ?_
  intro p e s m below meth c T K W
  replace K : Cx p s m meth c Z "com/example/vestry/vestry/InputFiles" "lineEnds" prog_8_method_9_code 7 (some .long) := K
  generalize eA : (#[(.ref o0), (.int x1), (.int x2)] : Array Value) = args at W
  show Go p e below s n0 (Q_c4 Z n0 h0 o0 x1 x2 n f a b) 0 0 T (mkF m 0 #[.val (.ref o0), .val (.int x1), .val (.int x2), .unset, .unset, .unset, .unset] [])
  subst ex1 ex2
  show Go p e below s n0 (Q_c4 Z n0 h0 o0 (Int32.ofNat a) (Int32.ofNat b) n f a b) 0 0 T (mkF m 0 #[.val (.ref o0), .val (.int (Int32.ofNat a)), .val (.int (Int32.ofNat b)), .unset, .unset, .unset, .unset] [])
  refine g_lconst K W (v := (0 : Int64)) d4_0 rfl (pc' := 1) rfl ?_
  refine g_lstoreN K W d4_1 (Ls' := #[.val (.ref o0), .val (.int (Int32.ofNat a)), .val (.int (Int32.ofNat b)), .val (.long (0 : Int64)), .second, .unset, .unset]) rfl (pc' := 2) rfl ?_
  refine g_iloadN K W d4_2 rfl (pc' := 3) rfl ?_
  refine g_istore K W d4_3 (Ls' := #[.val (.ref o0), .val (.int (Int32.ofNat a)), .val (.int (Int32.ofNat b)), .val (.long (0 : Int64)), .second, .val (.int (Int32.ofNat a)), .unset]) rfl (pc' := 5) rfl ?_
  have loop : ∀ (k : Nat) (i : Nat) (S : Int64) (s6 : Slot) (T : State), b - i = k → i < 6 → a ≤ i → (s6 = .unset ∨ ∃ z : Int32, s6 = .val (.int z)) → S + Int64.ofInt (own_cnt f a (b - i) i) = Int64.ofInt (own_cnt f a (b - a) a) → Wd p l e rm_c4 s m args below meth c n0 T h0 0 0 → Go p e below s n0 (Q_c4 Z n0 h0 o0 (Int32.ofNat a) (Int32.ofNat b) n f a b) 0 0 T (mkF m 5 #[.val (.ref o0), .val (.int (Int32.ofNat a)), .val (.int (Int32.ofNat b)), .val (.long S), .second, .val (.int (Int32.ofNat i)), s6] []) := by
    intro k
    induction k using Nat.strongRecOn with
    | ind k ih =>
      intro i S s6 T hk hi hai hs_s6 hS  W
      refine g_iload K W d4_5 rfl (pc' := 7) rfl ?_
      refine g_iloadN K W d4_7 rfl (pc' := 8) rfl ?_
      refine g_icmp_ge K W d4_8 (pt := 58) rfl (pf := 11) rfl (fun hc8 => ?_) (fun hc8 => ?_)
      · refine g_aloadN K W d4_11 rfl rfl (pc' := 12) rfl ?_
        refine g_iload K W d4_12 rfl (pc' := 14) rfl ?_
        refine g_baload K W A_o0 (k := i) (own_ofNat (by omega)) (by have := ((own_lt (by omega) (by omega)).mp hc8); omega) (v := (f i)) rfl d4_14 (pc' := 15) rfl ?_
        refine g_istore K W d4_15 (Ls' := #[.val (.ref o0), .val (.int (Int32.ofNat a)), .val (.int (Int32.ofNat b)), .val (.long S), .second, .val (.int (Int32.ofNat i)), .val (.int (f i))]) (by rcases hs_s6 with rfl | ⟨z, rfl⟩ <;> rfl) (pc' := 17) rfl ?_
        refine g_iload K W d4_17 rfl (pc' := 19) rfl ?_
        refine g_bipush K W (v := (13 : Int32)) d4_19 rfl (pc' := 21) rfl ?_
        refine g_icmp_eq K W d4_21 (pt := 48) rfl (pf := 24) rfl (fun hc21 => ?_) (fun hc21 => ?_)
        · refine g_lloadN K W d4_48 rfl (pc' := 49) rfl ?_
          refine g_lconst K W (v := (1 : Int64)) d4_49 rfl (pc' := 50) rfl ?_
          refine g_ladd K W d4_50 (pc' := 51) rfl ?_
          refine g_lstoreN K W d4_51 (Ls' := #[.val (.ref o0), .val (.int (Int32.ofNat a)), .val (.int (Int32.ofNat b)), .val (.long (S + (1 : Int64))), .second, .val (.int (Int32.ofNat i)), .val (.int (f i))]) rfl (pc' := 52) rfl ?_
          refine g_iinc K W d4_52 rfl (Ls' := #[.val (.ref o0), .val (.int (Int32.ofNat a)), .val (.int (Int32.ofNat b)), .val (.long (S + (1 : Int64))), .second, .val (.int ((Int32.ofNat i) + (1 : Int32))), .val (.int (f i))]) rfl (pc' := 55) rfl ?_
          refine g_goto K W d4_55 (pt := 5) rfl ?_
          rw [own_one]
          have hlt : i < b := ((own_lt (by omega) (by omega)).mp hc8)
          have hcv : own_c f a i = 1 := if_pos (Or.inl hc21)
          refine ih (b - (i + 1)) (by omega) (i + 1) _ (.val (.int (f i))) T rfl (by omega) (by omega) (Or.inr ⟨_, rfl⟩) ?_ W
          rw [← hS, show b - i = (b - (i + 1)) + 1 by omega, own_cnt, hcv, Int64.ofInt_add, ← Int64.add_assoc]; rfl
        · refine g_iload K W d4_24 rfl (pc' := 26) rfl ?_
          refine g_bipush K W (v := (10 : Int32)) d4_26 rfl (pc' := 28) rfl ?_
          refine g_icmp_ne K W d4_28 (pt := 52) rfl (pf := 31) rfl (fun hc28 => ?_) (fun hc28 => ?_)
          · refine g_iload K W d4_31 rfl (pc' := 33) rfl ?_
            refine g_iloadN K W d4_33 rfl (pc' := 34) rfl ?_
            refine g_icmp_eq K W d4_34 (pt := 48) rfl (pf := 37) rfl (fun hc34 => ?_) (fun hc34 => ?_)
            · refine g_lloadN K W d4_48 rfl (pc' := 49) rfl ?_
              refine g_lconst K W (v := (1 : Int64)) d4_49 rfl (pc' := 50) rfl ?_
              refine g_ladd K W d4_50 (pc' := 51) rfl ?_
              refine g_lstoreN K W d4_51 (Ls' := #[.val (.ref o0), .val (.int (Int32.ofNat a)), .val (.int (Int32.ofNat b)), .val (.long (S + (1 : Int64))), .second, .val (.int (Int32.ofNat i)), .val (.int (f i))]) rfl (pc' := 52) rfl ?_
              refine g_iinc K W d4_52 rfl (Ls' := #[.val (.ref o0), .val (.int (Int32.ofNat a)), .val (.int (Int32.ofNat b)), .val (.long (S + (1 : Int64))), .second, .val (.int ((Int32.ofNat i) + (1 : Int32))), .val (.int (f i))]) rfl (pc' := 55) rfl ?_
              refine g_goto K W d4_55 (pt := 5) rfl ?_
              rw [own_one]
              have hlt : i < b := ((own_lt (by omega) (by omega)).mp hc8)
              have hcv : own_c f a i = 1 := if_pos (Or.inr ⟨hc28, Or.inl ((own_eq (by omega) (by omega)).mp hc34)⟩)
              refine ih (b - (i + 1)) (by omega) (i + 1) _ (.val (.int (f i))) T rfl (by omega) (by omega) (Or.inr ⟨_, rfl⟩) ?_ W
              rw [← hS, show b - i = (b - (i + 1)) + 1 by omega, own_cnt, hcv, Int64.ofInt_add, ← Int64.add_assoc]; rfl
            · refine g_aloadN K W d4_37 rfl rfl (pc' := 38) rfl ?_
              refine g_iload K W d4_38 rfl (pc' := 40) rfl ?_
              refine g_iconst K W (v := (1 : Int32)) d4_40 rfl (pc' := 41) rfl ?_
              refine g_isub K W d4_41 (pc' := 42) rfl ?_
              have hia : i ≠ a := fun z => hc34 ((own_eq (by omega) (by omega)).mpr z)
              rw [own_pred (by omega)]
              refine g_baload K W A_o0 (k := (i - 1)) (own_ofNat (by omega)) (by have := ((own_lt (by omega) (by omega)).mp hc8); omega) (v := (f (i - 1))) rfl d4_42 (pc' := 43) rfl ?_
              refine g_bipush K W (v := (13 : Int32)) d4_43 rfl (pc' := 45) rfl ?_
              refine g_icmp_eq K W d4_45 (pt := 52) rfl (pf := 48) rfl (fun hc45 => ?_) (fun hc45 => ?_)
              · refine g_iinc K W d4_52 rfl (Ls' := #[.val (.ref o0), .val (.int (Int32.ofNat a)), .val (.int (Int32.ofNat b)), .val (.long S), .second, .val (.int ((Int32.ofNat i) + (1 : Int32))), .val (.int (f i))]) rfl (pc' := 55) rfl ?_
                refine g_goto K W d4_55 (pt := 5) rfl ?_
                rw [own_one]
                have hlt : i < b := ((own_lt (by omega) (by omega)).mp hc8)
                have hcv : own_c f a i = 0 := if_neg (fun z => z.elim hc21 (fun z => z.2.elim (fun z => hc34 ((own_eq (by omega) (by omega)).mpr z)) (fun z => z hc45)))
                refine ih (b - (i + 1)) (by omega) (i + 1) _ (.val (.int (f i))) T rfl (by omega) (by omega) (Or.inr ⟨_, rfl⟩) ?_ W
                rw [← hS, show b - i = (b - (i + 1)) + 1 by omega, own_cnt, hcv, Int64.ofInt_add, show Int64.ofInt 0 = 0 from rfl, Int64.zero_add]
              · refine g_lloadN K W d4_48 rfl (pc' := 49) rfl ?_
                refine g_lconst K W (v := (1 : Int64)) d4_49 rfl (pc' := 50) rfl ?_
                refine g_ladd K W d4_50 (pc' := 51) rfl ?_
                refine g_lstoreN K W d4_51 (Ls' := #[.val (.ref o0), .val (.int (Int32.ofNat a)), .val (.int (Int32.ofNat b)), .val (.long (S + (1 : Int64))), .second, .val (.int (Int32.ofNat i)), .val (.int (f i))]) rfl (pc' := 52) rfl ?_
                refine g_iinc K W d4_52 rfl (Ls' := #[.val (.ref o0), .val (.int (Int32.ofNat a)), .val (.int (Int32.ofNat b)), .val (.long (S + (1 : Int64))), .second, .val (.int ((Int32.ofNat i) + (1 : Int32))), .val (.int (f i))]) rfl (pc' := 55) rfl ?_
                refine g_goto K W d4_55 (pt := 5) rfl ?_
                rw [own_one]
                have hlt : i < b := ((own_lt (by omega) (by omega)).mp hc8)
                have hcv : own_c f a i = 1 := if_pos (Or.inr ⟨hc28, Or.inr hc45⟩)
                refine ih (b - (i + 1)) (by omega) (i + 1) _ (.val (.int (f i))) T rfl (by omega) (by omega) (Or.inr ⟨_, rfl⟩) ?_ W
                rw [← hS, show b - i = (b - (i + 1)) + 1 by omega, own_cnt, hcv, Int64.ofInt_add, ← Int64.add_assoc]; rfl
          · refine g_iinc K W d4_52 rfl (Ls' := #[.val (.ref o0), .val (.int (Int32.ofNat a)), .val (.int (Int32.ofNat b)), .val (.long S), .second, .val (.int ((Int32.ofNat i) + (1 : Int32))), .val (.int (f i))]) rfl (pc' := 55) rfl ?_
            refine g_goto K W d4_55 (pt := 5) rfl ?_
            rw [own_one]
            have hlt : i < b := ((own_lt (by omega) (by omega)).mp hc8)
            have hcv : own_c f a i = 0 := if_neg (fun z => z.elim hc21 (fun z => hc28 z.1))
            refine ih (b - (i + 1)) (by omega) (i + 1) _ (.val (.int (f i))) T rfl (by omega) (by omega) (Or.inr ⟨_, rfl⟩) ?_ W
            rw [← hS, show b - i = (b - (i + 1)) + 1 by omega, own_cnt, hcv, Int64.ofInt_add, show Int64.ofInt 0 = 0 from rfl, Int64.zero_add]
      · refine g_lloadN K W d4_58 rfl (pc' := 59) rfl ?_
        exact g_retL K W d4_59 (by decide) (by decide) ⟨by rw [← hS, show b - i = 0 by have := (not_congr (own_lt (by omega) (by omega))).mp hc8; omega, own_cnt, show Int64.ofInt 0 = 0 from rfl, Int64.add_zero], rfl⟩
  exact loop (b - a) a _ .unset T rfl hna (Nat.le_refl _) (Or.inl rfl) (Int64.zero_add _) W
def Q_c0 (Z : State) (n0 : Nat) (h0 : Heap) (x0 : Int32) (x1 : Int32) (x2 : Int32) (x3 : Int32) (x4 : Int32) (x5 : Int32) : Option Value → Heap → Prop := fun v h => v = some (.int 1)
set_option maxHeartbeats 40000000 in
theorem c0 (l : Launch) (Z : State) (a0 : Array Value) (hw : ∀ d ∈ tables_1, d.before a0 Z = true) (n0 : Nat) (h0 : Heap) (hn : n0 ≤ h0.size) (x0 : Int32) (x1 : Int32) (x2 : Int32) (x3 : Int32) (x4 : Int32) (x5 : Int32) :
    Mt l Z x code maxLocals ret room_1 n0 #[(.int x0), (.int x1), (.int x2), (.int x3), (.int x4), (.int x5)] h0 (Q_c0 Z n0 h0 x0 x1 x2 x3 x4 x5) := by
  refine met_of (plainFor_of_name pn_0) (Ls := #[.val (.int x0), .val (.int x1), .val (.int x2), .val (.int x3), .val (.int x4), .val (.int x5), .unset, .unset, .unset, .unset, .unset, .unset, .unset, .unset, .unset, .unset, .unset]) (fun m => by first | (simp [entryFrame, mkF, argsToLocals, Value.category, maxLocals]; done) | rfl) hn ?_
  intro p e s m below meth c T K W
  replace K : Cx p s m meth c Z "com/example/vestry/vestry/InputFilesLineEndsPinLaw" "law" code 17 (some .boolean) := K
  generalize eA : (#[(.int x0), (.int x1), (.int x2), (.int x3), (.int x4), (.int x5)] : Array Value) = args at W
  show Go p e below s n0 (Q_c0 Z n0 h0 x0 x1 x2 x3 x4 x5) 16 128 T (mkF m 0 #[.val (.int x0), .val (.int x1), .val (.int x2), .val (.int x3), .val (.int x4), .val (.int x5), .unset, .unset, .unset, .unset, .unset, .unset, .unset, .unset, .unset, .unset, .unset] [])
  refine g_iconst K W (v := (5 : Int32)) at_0 rfl (pc' := 1) rfl ?_
  refine g_newI K W (ty := .byte) (n := 5) (cap := 5) (hw _ (List.mem_of_getElem? (i := 0) rfl)) rfl rfl rfl (Nat.le_refl _) at_1 (pc' := 3) rfl (by decide) (by decide) (by decide) (fun T h a1 W E ha_a1 ge_a1 A_a1 => ?_)
  refine g_astore K W at_3 rfl (Ls' := #[.val (.int x0), .val (.int x1), .val (.int x2), .val (.int x3), .val (.int x4), .val (.int x5), .val (.ref a1), .unset, .unset, .unset, .unset, .unset, .unset, .unset, .unset, .unset, .unset]) rfl (pc' := 5) rfl ?_
  refine g_aload K W at_5 rfl rfl (pc' := 7) rfl ?_
  refine g_iconst K W (v := (0 : Int32)) at_7 rfl (pc' := 8) rfl ?_
  refine g_iloadN K W at_8 rfl (pc' := 9) rfl ?_
  refine g_callS (c1 l Z a0 hw n0 _ W.sz x0) K W (hw _ (List.mem_of_getElem? (i := 1) rfl)) (hw _ (List.mem_of_getElem? (i := 2) rfl)) (hw _ (List.mem_of_getElem? (i := 3) rfl)) (hw _ (List.mem_of_getElem? (i := 4) rfl)) (by decide) (lenOf pd_0 rfl) at_9 (pc' := 12) rfl (argsL := [(.int x0)]) (rest := [(.int (0 : Int32)), (.ref a1)]) rfl rfl (by decide) (wt := 2) rfl (by decide) (by decide) (by decide) ?_
  rintro T _ _ W ⟨⟨z9, rfl⟩, rfl⟩
  show Go p e below s n0 (Q_c0 Z n0 h0 x0 x1 x2 x3 x4 x5) 16 128 T (mkF m 12 #[.val (.int x0), .val (.int x1), .val (.int x2), .val (.int x3), .val (.int x4), .val (.int x5), .val (.ref a1), .unset, .unset, .unset, .unset, .unset, .unset, .unset, .unset, .unset, .unset] [(.int z9), (.int (0 : Int32)), (.ref a1)])
  refine g_bastore K W A_a1 (k := 0) rfl (by decide) ge_a1 at_12 (pc' := 13) rfl (fun T h W w A_a1 => ?_)
  refine g_aload K W at_13 rfl rfl (pc' := 15) rfl ?_
  refine g_iconst K W (v := (1 : Int32)) at_15 rfl (pc' := 16) rfl ?_
  refine g_iloadN K W at_16 rfl (pc' := 17) rfl ?_
  refine g_callS (c1 l Z a0 hw n0 _ W.sz x1) K W (hw _ (List.mem_of_getElem? (i := 1) rfl)) (hw _ (List.mem_of_getElem? (i := 2) rfl)) (hw _ (List.mem_of_getElem? (i := 3) rfl)) (hw _ (List.mem_of_getElem? (i := 4) rfl)) (by decide) (lenOf pd_0 rfl) at_17 (pc' := 20) rfl (argsL := [(.int x1)]) (rest := [(.int (1 : Int32)), (.ref a1)]) rfl rfl (by decide) (wt := 2) rfl (by decide) (by decide) (by decide) ?_
  rintro T _ _ W ⟨⟨z17, rfl⟩, rfl⟩
  show Go p e below s n0 (Q_c0 Z n0 h0 x0 x1 x2 x3 x4 x5) 16 128 T (mkF m 20 #[.val (.int x0), .val (.int x1), .val (.int x2), .val (.int x3), .val (.int x4), .val (.int x5), .val (.ref a1), .unset, .unset, .unset, .unset, .unset, .unset, .unset, .unset, .unset, .unset] [(.int z17), (.int (1 : Int32)), (.ref a1)])
  refine g_bastore K W A_a1 (k := 1) rfl (by decide) ge_a1 at_20 (pc' := 21) rfl (fun T h W w A_a1 => ?_)
  refine g_aload K W at_21 rfl rfl (pc' := 23) rfl ?_
  refine g_iconst K W (v := (2 : Int32)) at_23 rfl (pc' := 24) rfl ?_
  refine g_iloadN K W at_24 rfl (pc' := 25) rfl ?_
  refine g_callS (c1 l Z a0 hw n0 _ W.sz x2) K W (hw _ (List.mem_of_getElem? (i := 1) rfl)) (hw _ (List.mem_of_getElem? (i := 2) rfl)) (hw _ (List.mem_of_getElem? (i := 3) rfl)) (hw _ (List.mem_of_getElem? (i := 4) rfl)) (by decide) (lenOf pd_0 rfl) at_25 (pc' := 28) rfl (argsL := [(.int x2)]) (rest := [(.int (2 : Int32)), (.ref a1)]) rfl rfl (by decide) (wt := 2) rfl (by decide) (by decide) (by decide) ?_
  rintro T _ _ W ⟨⟨z25, rfl⟩, rfl⟩
  show Go p e below s n0 (Q_c0 Z n0 h0 x0 x1 x2 x3 x4 x5) 16 128 T (mkF m 28 #[.val (.int x0), .val (.int x1), .val (.int x2), .val (.int x3), .val (.int x4), .val (.int x5), .val (.ref a1), .unset, .unset, .unset, .unset, .unset, .unset, .unset, .unset, .unset, .unset] [(.int z25), (.int (2 : Int32)), (.ref a1)])
  refine g_bastore K W A_a1 (k := 2) rfl (by decide) ge_a1 at_28 (pc' := 29) rfl (fun T h W w A_a1 => ?_)
  refine g_aload K W at_29 rfl rfl (pc' := 31) rfl ?_
  refine g_iconst K W (v := (3 : Int32)) at_31 rfl (pc' := 32) rfl ?_
  refine g_iloadN K W at_32 rfl (pc' := 33) rfl ?_
  refine g_callS (c1 l Z a0 hw n0 _ W.sz x3) K W (hw _ (List.mem_of_getElem? (i := 1) rfl)) (hw _ (List.mem_of_getElem? (i := 2) rfl)) (hw _ (List.mem_of_getElem? (i := 3) rfl)) (hw _ (List.mem_of_getElem? (i := 4) rfl)) (by decide) (lenOf pd_0 rfl) at_33 (pc' := 36) rfl (argsL := [(.int x3)]) (rest := [(.int (3 : Int32)), (.ref a1)]) rfl rfl (by decide) (wt := 2) rfl (by decide) (by decide) (by decide) ?_
  rintro T _ _ W ⟨⟨z33, rfl⟩, rfl⟩
  show Go p e below s n0 (Q_c0 Z n0 h0 x0 x1 x2 x3 x4 x5) 16 128 T (mkF m 36 #[.val (.int x0), .val (.int x1), .val (.int x2), .val (.int x3), .val (.int x4), .val (.int x5), .val (.ref a1), .unset, .unset, .unset, .unset, .unset, .unset, .unset, .unset, .unset, .unset] [(.int z33), (.int (3 : Int32)), (.ref a1)])
  refine g_bastore K W A_a1 (k := 3) rfl (by decide) ge_a1 at_36 (pc' := 37) rfl (fun T h W w A_a1 => ?_)
  refine g_aload K W at_37 rfl rfl (pc' := 39) rfl ?_
  refine g_iconst K W (v := (4 : Int32)) at_39 rfl (pc' := 40) rfl ?_
  refine g_iload K W at_40 rfl (pc' := 42) rfl ?_
  refine g_callS (c1 l Z a0 hw n0 _ W.sz x4) K W (hw _ (List.mem_of_getElem? (i := 1) rfl)) (hw _ (List.mem_of_getElem? (i := 2) rfl)) (hw _ (List.mem_of_getElem? (i := 3) rfl)) (hw _ (List.mem_of_getElem? (i := 4) rfl)) (by decide) (lenOf pd_0 rfl) at_42 (pc' := 45) rfl (argsL := [(.int x4)]) (rest := [(.int (4 : Int32)), (.ref a1)]) rfl rfl (by decide) (wt := 2) rfl (by decide) (by decide) (by decide) ?_
  rintro T _ _ W ⟨⟨z42, rfl⟩, rfl⟩
  show Go p e below s n0 (Q_c0 Z n0 h0 x0 x1 x2 x3 x4 x5) 16 128 T (mkF m 45 #[.val (.int x0), .val (.int x1), .val (.int x2), .val (.int x3), .val (.int x4), .val (.int x5), .val (.ref a1), .unset, .unset, .unset, .unset, .unset, .unset, .unset, .unset, .unset, .unset] [(.int z42), (.int (4 : Int32)), (.ref a1)])
  refine g_bastore K W A_a1 (k := 4) rfl (by decide) ge_a1 at_45 (pc' := 46) rfl (fun T h W w A_a1 => ?_)
  generalize hf : (upd (upd (upd (upd (upd (fun _ => 0) 0 z9.toInt8.toInt32) 1 z17.toInt8.toInt32) 2 z25.toInt8.toInt32) 3 z33.toInt8.toInt32) 4 z42.toInt8.toInt32) = f at A_a1
  refine g_iload K W at_46 rfl (pc' := 48) rfl ?_
  refine g_sipush K W (v := (32767 : Int32)) at_48 rfl (pc' := 51) rfl ?_
  refine g_iand K W at_51 (pc' := 52) rfl ?_
  refine g_bipush K W (v := (6 : Int32)) at_52 rfl (pc' := 54) rfl ?_
  refine g_irem K W (by decide) at_54 (pc' := 55) rfl ?_
  generalize e_v55 : ((x5 &&& (32767 : Int32)) % (6 : Int32)) = v55
  refine g_istore K W at_55 (Ls' := #[.val (.int x0), .val (.int x1), .val (.int x2), .val (.int x3), .val (.int x4), .val (.int x5), .val (.ref a1), .val (.int v55), .unset, .unset, .unset, .unset, .unset, .unset, .unset, .unset, .unset]) rfl (pc' := 57) rfl ?_
  refine g_iload K W at_57 rfl (pc' := 59) rfl ?_
  refine g_bipush K W (v := (16 : Int32)) at_59 rfl (pc' := 61) rfl ?_
  refine g_iushr K W at_61 (pc' := 62) rfl ?_
  refine g_sipush K W (v := (32767 : Int32)) at_62 rfl (pc' := 65) rfl ?_
  refine g_iand K W at_65 (pc' := 66) rfl ?_
  refine g_bipush K W (v := (6 : Int32)) at_66 rfl (pc' := 68) rfl ?_
  refine g_irem K W (by decide) at_68 (pc' := 69) rfl ?_
  generalize e_v69 : ((((x5.toUInt32 >>> ((16 : Int32) &&& 31).toUInt32).toInt32) &&& (32767 : Int32)) % (6 : Int32)) = v69
  refine g_istore K W at_69 (Ls' := #[.val (.int x0), .val (.int x1), .val (.int x2), .val (.int x3), .val (.int x4), .val (.int x5), .val (.ref a1), .val (.int v55), .val (.int v69), .unset, .unset, .unset, .unset, .unset, .unset, .unset, .unset]) rfl (pc' := 71) rfl ?_
  obtain ⟨a, ha, ea⟩ := own_mod6 x5
  rw [e_v55] at ea
  obtain ⟨b, hb, eb⟩ := own_mod6 ((x5.toUInt32 >>> ((16 : Int32) &&& 31).toUInt32).toInt32)
  rw [e_v69] at eb
  refine g_aload K W at_71 rfl rfl (pc' := 73) rfl ?_
  refine g_iconst K W (v := (0 : Int32)) at_73 rfl (pc' := 74) rfl ?_
  refine g_iload K W at_74 rfl (pc' := 76) rfl ?_
  refine g_iload K W at_76 rfl (pc' := 78) rfl ?_
  refine g_callS (c2 l Z a0 hw n0 _ W.sz a1 (0 : Int32) v55 v69 5 f 0 a b A_a1 rfl ea eb (by decide) ha hb (by omega)) K W (hw _ (List.mem_of_getElem? (i := 5) rfl)) (hw _ (List.mem_of_getElem? (i := 6) rfl)) (hw _ (List.mem_of_getElem? (i := 3) rfl)) (hw _ (List.mem_of_getElem? (i := 7) rfl)) (by decide) (lenOf pd_1 rfl) at_78 (pc' := 81) rfl (argsL := [(.ref a1), (.int (0 : Int32)), (.int v55), (.int v69)]) (rest := []) rfl rfl (by decide) (wt := 0) rfl (by decide) (by decide) (by decide) ?_
  rintro T _ _ W ⟨rfl, rfl⟩
  show Go p e below s n0 (Q_c0 Z n0 h0 x0 x1 x2 x3 x4 x5) 16 128 T (mkF m 81 #[.val (.int x0), .val (.int x1), .val (.int x2), .val (.int x3), .val (.int x4), .val (.int x5), .val (.ref a1), .val (.int v55), .val (.int v69), .unset, .unset, .unset, .unset, .unset, .unset, .unset, .unset] [(.long (Int64.ofInt (own_s f 0 a b)))])
  refine g_aload K W at_81 rfl rfl (pc' := 83) rfl ?_
  refine g_iconst K W (v := (1 : Int32)) at_83 rfl (pc' := 84) rfl ?_
  refine g_iload K W at_84 rfl (pc' := 86) rfl ?_
  refine g_iload K W at_86 rfl (pc' := 88) rfl ?_
  refine g_callS (c2 l Z a0 hw n0 _ W.sz a1 (1 : Int32) v55 v69 5 f 1 a b A_a1 rfl ea eb (by decide) ha hb (by omega)) K W (hw _ (List.mem_of_getElem? (i := 5) rfl)) (hw _ (List.mem_of_getElem? (i := 6) rfl)) (hw _ (List.mem_of_getElem? (i := 3) rfl)) (hw _ (List.mem_of_getElem? (i := 7) rfl)) (by decide) (lenOf pd_1 rfl) at_88 (pc' := 91) rfl (argsL := [(.ref a1), (.int (1 : Int32)), (.int v55), (.int v69)]) (rest := [(.long (Int64.ofInt (own_s f 0 a b)))]) rfl rfl (by decide) (wt := 2) rfl (by decide) (by decide) (by decide) ?_
  rintro T _ _ W ⟨rfl, rfl⟩
  show Go p e below s n0 (Q_c0 Z n0 h0 x0 x1 x2 x3 x4 x5) 16 128 T (mkF m 91 #[.val (.int x0), .val (.int x1), .val (.int x2), .val (.int x3), .val (.int x4), .val (.int x5), .val (.ref a1), .val (.int v55), .val (.int v69), .unset, .unset, .unset, .unset, .unset, .unset, .unset, .unset] [(.long (Int64.ofInt (own_s f 1 a b))), (.long (Int64.ofInt (own_s f 0 a b)))])
  refine g_ladd K W at_91 (pc' := 92) rfl ?_
  refine g_aload K W at_92 rfl rfl (pc' := 94) rfl ?_
  refine g_iconst K W (v := (2 : Int32)) at_94 rfl (pc' := 95) rfl ?_
  refine g_iload K W at_95 rfl (pc' := 97) rfl ?_
  refine g_iload K W at_97 rfl (pc' := 99) rfl ?_
  refine g_callS (c2 l Z a0 hw n0 _ W.sz a1 (2 : Int32) v55 v69 5 f 2 a b A_a1 rfl ea eb (by decide) ha hb (by omega)) K W (hw _ (List.mem_of_getElem? (i := 5) rfl)) (hw _ (List.mem_of_getElem? (i := 6) rfl)) (hw _ (List.mem_of_getElem? (i := 3) rfl)) (hw _ (List.mem_of_getElem? (i := 7) rfl)) (by decide) (lenOf pd_1 rfl) at_99 (pc' := 102) rfl (argsL := [(.ref a1), (.int (2 : Int32)), (.int v55), (.int v69)]) (rest := [(.long ((Int64.ofInt (own_s f 0 a b)) + (Int64.ofInt (own_s f 1 a b))))]) rfl rfl (by decide) (wt := 2) rfl (by decide) (by decide) (by decide) ?_
  rintro T _ _ W ⟨rfl, rfl⟩
  show Go p e below s n0 (Q_c0 Z n0 h0 x0 x1 x2 x3 x4 x5) 16 128 T (mkF m 102 #[.val (.int x0), .val (.int x1), .val (.int x2), .val (.int x3), .val (.int x4), .val (.int x5), .val (.ref a1), .val (.int v55), .val (.int v69), .unset, .unset, .unset, .unset, .unset, .unset, .unset, .unset] [(.long (Int64.ofInt (own_s f 2 a b))), (.long ((Int64.ofInt (own_s f 0 a b)) + (Int64.ofInt (own_s f 1 a b))))])
  refine g_ladd K W at_102 (pc' := 103) rfl ?_
  refine g_aload K W at_103 rfl rfl (pc' := 105) rfl ?_
  refine g_iconst K W (v := (3 : Int32)) at_105 rfl (pc' := 106) rfl ?_
  refine g_iload K W at_106 rfl (pc' := 108) rfl ?_
  refine g_iload K W at_108 rfl (pc' := 110) rfl ?_
  refine g_callS (c2 l Z a0 hw n0 _ W.sz a1 (3 : Int32) v55 v69 5 f 3 a b A_a1 rfl ea eb (by decide) ha hb (by omega)) K W (hw _ (List.mem_of_getElem? (i := 5) rfl)) (hw _ (List.mem_of_getElem? (i := 6) rfl)) (hw _ (List.mem_of_getElem? (i := 3) rfl)) (hw _ (List.mem_of_getElem? (i := 7) rfl)) (by decide) (lenOf pd_1 rfl) at_110 (pc' := 113) rfl (argsL := [(.ref a1), (.int (3 : Int32)), (.int v55), (.int v69)]) (rest := [(.long (((Int64.ofInt (own_s f 0 a b)) + (Int64.ofInt (own_s f 1 a b))) + (Int64.ofInt (own_s f 2 a b))))]) rfl rfl (by decide) (wt := 2) rfl (by decide) (by decide) (by decide) ?_
  rintro T _ _ W ⟨rfl, rfl⟩
  show Go p e below s n0 (Q_c0 Z n0 h0 x0 x1 x2 x3 x4 x5) 16 128 T (mkF m 113 #[.val (.int x0), .val (.int x1), .val (.int x2), .val (.int x3), .val (.int x4), .val (.int x5), .val (.ref a1), .val (.int v55), .val (.int v69), .unset, .unset, .unset, .unset, .unset, .unset, .unset, .unset] [(.long (Int64.ofInt (own_s f 3 a b))), (.long (((Int64.ofInt (own_s f 0 a b)) + (Int64.ofInt (own_s f 1 a b))) + (Int64.ofInt (own_s f 2 a b))))])
  refine g_ladd K W at_113 (pc' := 114) rfl ?_
  refine g_aload K W at_114 rfl rfl (pc' := 116) rfl ?_
  refine g_iconst K W (v := (4 : Int32)) at_116 rfl (pc' := 117) rfl ?_
  refine g_iload K W at_117 rfl (pc' := 119) rfl ?_
  refine g_iload K W at_119 rfl (pc' := 121) rfl ?_
  refine g_callS (c2 l Z a0 hw n0 _ W.sz a1 (4 : Int32) v55 v69 5 f 4 a b A_a1 rfl ea eb (by decide) ha hb (by omega)) K W (hw _ (List.mem_of_getElem? (i := 5) rfl)) (hw _ (List.mem_of_getElem? (i := 6) rfl)) (hw _ (List.mem_of_getElem? (i := 3) rfl)) (hw _ (List.mem_of_getElem? (i := 7) rfl)) (by decide) (lenOf pd_1 rfl) at_121 (pc' := 124) rfl (argsL := [(.ref a1), (.int (4 : Int32)), (.int v55), (.int v69)]) (rest := [(.long ((((Int64.ofInt (own_s f 0 a b)) + (Int64.ofInt (own_s f 1 a b))) + (Int64.ofInt (own_s f 2 a b))) + (Int64.ofInt (own_s f 3 a b))))]) rfl rfl (by decide) (wt := 2) rfl (by decide) (by decide) (by decide) ?_
  rintro T _ _ W ⟨rfl, rfl⟩
  show Go p e below s n0 (Q_c0 Z n0 h0 x0 x1 x2 x3 x4 x5) 16 128 T (mkF m 124 #[.val (.int x0), .val (.int x1), .val (.int x2), .val (.int x3), .val (.int x4), .val (.int x5), .val (.ref a1), .val (.int v55), .val (.int v69), .unset, .unset, .unset, .unset, .unset, .unset, .unset, .unset] [(.long (Int64.ofInt (own_s f 4 a b))), (.long ((((Int64.ofInt (own_s f 0 a b)) + (Int64.ofInt (own_s f 1 a b))) + (Int64.ofInt (own_s f 2 a b))) + (Int64.ofInt (own_s f 3 a b))))])
  refine g_ladd K W at_124 (pc' := 125) rfl ?_
  refine g_lstore K W at_125 (Ls' := #[.val (.int x0), .val (.int x1), .val (.int x2), .val (.int x3), .val (.int x4), .val (.int x5), .val (.ref a1), .val (.int v55), .val (.int v69), .val (.long (((((Int64.ofInt (own_s f 0 a b)) + (Int64.ofInt (own_s f 1 a b))) + (Int64.ofInt (own_s f 2 a b))) + (Int64.ofInt (own_s f 3 a b))) + (Int64.ofInt (own_s f 4 a b)))), .second, .unset, .unset, .unset, .unset, .unset, .unset]) rfl (pc' := 127) rfl ?_
  refine g_aload K W at_127 rfl rfl (pc' := 129) rfl ?_
  refine g_iconst K W (v := (0 : Int32)) at_129 rfl (pc' := 130) rfl ?_
  refine g_iload K W at_130 rfl (pc' := 132) rfl ?_
  refine g_iload K W at_132 rfl (pc' := 134) rfl ?_
  refine g_callS (c3 l Z a0 hw n0 _ W.sz a1 (0 : Int32) v55 v69 5 f 0 a b A_a1 rfl ea eb (by decide) ha hb (by omega)) K W (hw _ (List.mem_of_getElem? (i := 8) rfl)) (hw _ (List.mem_of_getElem? (i := 9) rfl)) (hw _ (List.mem_of_getElem? (i := 3) rfl)) (hw _ (List.mem_of_getElem? (i := 10) rfl)) (by decide) (lenOf pd_1 rfl) at_134 (pc' := 137) rfl (argsL := [(.ref a1), (.int (0 : Int32)), (.int v55), (.int v69)]) (rest := []) rfl rfl (by decide) (wt := 0) rfl (by decide) (by decide) (by decide) ?_
  rintro T _ _ W ⟨rfl, rfl⟩
  show Go p e below s n0 (Q_c0 Z n0 h0 x0 x1 x2 x3 x4 x5) 16 128 T (mkF m 137 #[.val (.int x0), .val (.int x1), .val (.int x2), .val (.int x3), .val (.int x4), .val (.int x5), .val (.ref a1), .val (.int v55), .val (.int v69), .val (.long (((((Int64.ofInt (own_s f 0 a b)) + (Int64.ofInt (own_s f 1 a b))) + (Int64.ofInt (own_s f 2 a b))) + (Int64.ofInt (own_s f 3 a b))) + (Int64.ofInt (own_s f 4 a b)))), .second, .unset, .unset, .unset, .unset, .unset, .unset] [(.long (Int64.ofInt (own_p f 0 a b)))])
  refine g_aload K W at_137 rfl rfl (pc' := 139) rfl ?_
  refine g_iconst K W (v := (1 : Int32)) at_139 rfl (pc' := 140) rfl ?_
  refine g_iload K W at_140 rfl (pc' := 142) rfl ?_
  refine g_iload K W at_142 rfl (pc' := 144) rfl ?_
  refine g_callS (c3 l Z a0 hw n0 _ W.sz a1 (1 : Int32) v55 v69 5 f 1 a b A_a1 rfl ea eb (by decide) ha hb (by omega)) K W (hw _ (List.mem_of_getElem? (i := 8) rfl)) (hw _ (List.mem_of_getElem? (i := 9) rfl)) (hw _ (List.mem_of_getElem? (i := 3) rfl)) (hw _ (List.mem_of_getElem? (i := 10) rfl)) (by decide) (lenOf pd_1 rfl) at_144 (pc' := 147) rfl (argsL := [(.ref a1), (.int (1 : Int32)), (.int v55), (.int v69)]) (rest := [(.long (Int64.ofInt (own_p f 0 a b)))]) rfl rfl (by decide) (wt := 2) rfl (by decide) (by decide) (by decide) ?_
  rintro T _ _ W ⟨rfl, rfl⟩
  show Go p e below s n0 (Q_c0 Z n0 h0 x0 x1 x2 x3 x4 x5) 16 128 T (mkF m 147 #[.val (.int x0), .val (.int x1), .val (.int x2), .val (.int x3), .val (.int x4), .val (.int x5), .val (.ref a1), .val (.int v55), .val (.int v69), .val (.long (((((Int64.ofInt (own_s f 0 a b)) + (Int64.ofInt (own_s f 1 a b))) + (Int64.ofInt (own_s f 2 a b))) + (Int64.ofInt (own_s f 3 a b))) + (Int64.ofInt (own_s f 4 a b)))), .second, .unset, .unset, .unset, .unset, .unset, .unset] [(.long (Int64.ofInt (own_p f 1 a b))), (.long (Int64.ofInt (own_p f 0 a b)))])
  refine g_ladd K W at_147 (pc' := 148) rfl ?_
  refine g_aload K W at_148 rfl rfl (pc' := 150) rfl ?_
  refine g_iconst K W (v := (2 : Int32)) at_150 rfl (pc' := 151) rfl ?_
  refine g_iload K W at_151 rfl (pc' := 153) rfl ?_
  refine g_iload K W at_153 rfl (pc' := 155) rfl ?_
  refine g_callS (c3 l Z a0 hw n0 _ W.sz a1 (2 : Int32) v55 v69 5 f 2 a b A_a1 rfl ea eb (by decide) ha hb (by omega)) K W (hw _ (List.mem_of_getElem? (i := 8) rfl)) (hw _ (List.mem_of_getElem? (i := 9) rfl)) (hw _ (List.mem_of_getElem? (i := 3) rfl)) (hw _ (List.mem_of_getElem? (i := 10) rfl)) (by decide) (lenOf pd_1 rfl) at_155 (pc' := 158) rfl (argsL := [(.ref a1), (.int (2 : Int32)), (.int v55), (.int v69)]) (rest := [(.long ((Int64.ofInt (own_p f 0 a b)) + (Int64.ofInt (own_p f 1 a b))))]) rfl rfl (by decide) (wt := 2) rfl (by decide) (by decide) (by decide) ?_
  rintro T _ _ W ⟨rfl, rfl⟩
  show Go p e below s n0 (Q_c0 Z n0 h0 x0 x1 x2 x3 x4 x5) 16 128 T (mkF m 158 #[.val (.int x0), .val (.int x1), .val (.int x2), .val (.int x3), .val (.int x4), .val (.int x5), .val (.ref a1), .val (.int v55), .val (.int v69), .val (.long (((((Int64.ofInt (own_s f 0 a b)) + (Int64.ofInt (own_s f 1 a b))) + (Int64.ofInt (own_s f 2 a b))) + (Int64.ofInt (own_s f 3 a b))) + (Int64.ofInt (own_s f 4 a b)))), .second, .unset, .unset, .unset, .unset, .unset, .unset] [(.long (Int64.ofInt (own_p f 2 a b))), (.long ((Int64.ofInt (own_p f 0 a b)) + (Int64.ofInt (own_p f 1 a b))))])
  refine g_ladd K W at_158 (pc' := 159) rfl ?_
  refine g_aload K W at_159 rfl rfl (pc' := 161) rfl ?_
  refine g_iconst K W (v := (3 : Int32)) at_161 rfl (pc' := 162) rfl ?_
  refine g_iload K W at_162 rfl (pc' := 164) rfl ?_
  refine g_iload K W at_164 rfl (pc' := 166) rfl ?_
  refine g_callS (c3 l Z a0 hw n0 _ W.sz a1 (3 : Int32) v55 v69 5 f 3 a b A_a1 rfl ea eb (by decide) ha hb (by omega)) K W (hw _ (List.mem_of_getElem? (i := 8) rfl)) (hw _ (List.mem_of_getElem? (i := 9) rfl)) (hw _ (List.mem_of_getElem? (i := 3) rfl)) (hw _ (List.mem_of_getElem? (i := 10) rfl)) (by decide) (lenOf pd_1 rfl) at_166 (pc' := 169) rfl (argsL := [(.ref a1), (.int (3 : Int32)), (.int v55), (.int v69)]) (rest := [(.long (((Int64.ofInt (own_p f 0 a b)) + (Int64.ofInt (own_p f 1 a b))) + (Int64.ofInt (own_p f 2 a b))))]) rfl rfl (by decide) (wt := 2) rfl (by decide) (by decide) (by decide) ?_
  rintro T _ _ W ⟨rfl, rfl⟩
  show Go p e below s n0 (Q_c0 Z n0 h0 x0 x1 x2 x3 x4 x5) 16 128 T (mkF m 169 #[.val (.int x0), .val (.int x1), .val (.int x2), .val (.int x3), .val (.int x4), .val (.int x5), .val (.ref a1), .val (.int v55), .val (.int v69), .val (.long (((((Int64.ofInt (own_s f 0 a b)) + (Int64.ofInt (own_s f 1 a b))) + (Int64.ofInt (own_s f 2 a b))) + (Int64.ofInt (own_s f 3 a b))) + (Int64.ofInt (own_s f 4 a b)))), .second, .unset, .unset, .unset, .unset, .unset, .unset] [(.long (Int64.ofInt (own_p f 3 a b))), (.long (((Int64.ofInt (own_p f 0 a b)) + (Int64.ofInt (own_p f 1 a b))) + (Int64.ofInt (own_p f 2 a b))))])
  refine g_ladd K W at_169 (pc' := 170) rfl ?_
  refine g_lstore K W at_170 (Ls' := #[.val (.int x0), .val (.int x1), .val (.int x2), .val (.int x3), .val (.int x4), .val (.int x5), .val (.ref a1), .val (.int v55), .val (.int v69), .val (.long (((((Int64.ofInt (own_s f 0 a b)) + (Int64.ofInt (own_s f 1 a b))) + (Int64.ofInt (own_s f 2 a b))) + (Int64.ofInt (own_s f 3 a b))) + (Int64.ofInt (own_s f 4 a b)))), .second, .val (.long ((((Int64.ofInt (own_p f 0 a b)) + (Int64.ofInt (own_p f 1 a b))) + (Int64.ofInt (own_p f 2 a b))) + (Int64.ofInt (own_p f 3 a b)))), .second, .unset, .unset, .unset, .unset]) rfl (pc' := 172) rfl ?_
  refine g_lload K W at_172 rfl (pc' := 174) rfl ?_
  refine g_lload K W at_174 rfl (pc' := 176) rfl ?_
  refine g_lsub K W at_176 (pc' := 177) rfl ?_
  refine g_lstore K W at_177 (Ls' := #[.val (.int x0), .val (.int x1), .val (.int x2), .val (.int x3), .val (.int x4), .val (.int x5), .val (.ref a1), .val (.int v55), .val (.int v69), .val (.long (((((Int64.ofInt (own_s f 0 a b)) + (Int64.ofInt (own_s f 1 a b))) + (Int64.ofInt (own_s f 2 a b))) + (Int64.ofInt (own_s f 3 a b))) + (Int64.ofInt (own_s f 4 a b)))), .second, .val (.long ((((Int64.ofInt (own_p f 0 a b)) + (Int64.ofInt (own_p f 1 a b))) + (Int64.ofInt (own_p f 2 a b))) + (Int64.ofInt (own_p f 3 a b)))), .second, .val (.long ((((((Int64.ofInt (own_s f 0 a b)) + (Int64.ofInt (own_s f 1 a b))) + (Int64.ofInt (own_s f 2 a b))) + (Int64.ofInt (own_s f 3 a b))) + (Int64.ofInt (own_s f 4 a b))) - ((((Int64.ofInt (own_p f 0 a b)) + (Int64.ofInt (own_p f 1 a b))) + (Int64.ofInt (own_p f 2 a b))) + (Int64.ofInt (own_p f 3 a b))))), .second, .unset, .unset]) rfl (pc' := 179) rfl ?_
  refine g_aload K W at_179 rfl rfl (pc' := 181) rfl ?_
  refine g_iload K W at_181 rfl (pc' := 183) rfl ?_
  refine g_iload K W at_183 rfl (pc' := 185) rfl ?_
  refine g_callS (c4 l Z a0 hw n0 _ W.sz a1 v55 v69 5 f a b A_a1 ea eb ha hb (by omega)) K W (hw _ (List.mem_of_getElem? (i := 11) rfl)) (hw _ (List.mem_of_getElem? (i := 12) rfl)) (hw _ (List.mem_of_getElem? (i := 13) rfl)) (hw _ (List.mem_of_getElem? (i := 14) rfl)) (by decide) (lenOf pd_2 rfl) at_185 (pc' := 188) rfl (argsL := [(.ref a1), (.int v55), (.int v69)]) (rest := []) rfl rfl (by decide) (wt := 0) rfl (by decide) (by decide) (by decide) ?_
  rintro T _ _ W ⟨rfl, rfl⟩
  show Go p e below s n0 (Q_c0 Z n0 h0 x0 x1 x2 x3 x4 x5) 16 128 T (mkF m 188 #[.val (.int x0), .val (.int x1), .val (.int x2), .val (.int x3), .val (.int x4), .val (.int x5), .val (.ref a1), .val (.int v55), .val (.int v69), .val (.long (((((Int64.ofInt (own_s f 0 a b)) + (Int64.ofInt (own_s f 1 a b))) + (Int64.ofInt (own_s f 2 a b))) + (Int64.ofInt (own_s f 3 a b))) + (Int64.ofInt (own_s f 4 a b)))), .second, .val (.long ((((Int64.ofInt (own_p f 0 a b)) + (Int64.ofInt (own_p f 1 a b))) + (Int64.ofInt (own_p f 2 a b))) + (Int64.ofInt (own_p f 3 a b)))), .second, .val (.long ((((((Int64.ofInt (own_s f 0 a b)) + (Int64.ofInt (own_s f 1 a b))) + (Int64.ofInt (own_s f 2 a b))) + (Int64.ofInt (own_s f 3 a b))) + (Int64.ofInt (own_s f 4 a b))) - ((((Int64.ofInt (own_p f 0 a b)) + (Int64.ofInt (own_p f 1 a b))) + (Int64.ofInt (own_p f 2 a b))) + (Int64.ofInt (own_p f 3 a b))))), .second, .unset, .unset] [(.long (Int64.ofInt (own_cnt f a (b - a) a)))])
  refine g_lstore K W at_188 (Ls' := #[.val (.int x0), .val (.int x1), .val (.int x2), .val (.int x3), .val (.int x4), .val (.int x5), .val (.ref a1), .val (.int v55), .val (.int v69), .val (.long (((((Int64.ofInt (own_s f 0 a b)) + (Int64.ofInt (own_s f 1 a b))) + (Int64.ofInt (own_s f 2 a b))) + (Int64.ofInt (own_s f 3 a b))) + (Int64.ofInt (own_s f 4 a b)))), .second, .val (.long ((((Int64.ofInt (own_p f 0 a b)) + (Int64.ofInt (own_p f 1 a b))) + (Int64.ofInt (own_p f 2 a b))) + (Int64.ofInt (own_p f 3 a b)))), .second, .val (.long ((((((Int64.ofInt (own_s f 0 a b)) + (Int64.ofInt (own_s f 1 a b))) + (Int64.ofInt (own_s f 2 a b))) + (Int64.ofInt (own_s f 3 a b))) + (Int64.ofInt (own_s f 4 a b))) - ((((Int64.ofInt (own_p f 0 a b)) + (Int64.ofInt (own_p f 1 a b))) + (Int64.ofInt (own_p f 2 a b))) + (Int64.ofInt (own_p f 3 a b))))), .second, .val (.long (Int64.ofInt (own_cnt f a (b - a) a))), .second]) rfl (pc' := 190) rfl ?_
  refine g_lload K W at_190 rfl (pc' := 192) rfl ?_
  refine g_lload K W at_192 rfl (pc' := 194) rfl ?_
  refine g_lcmp_ne K W at_194 (pc1 := 195) rfl at_195 (pt := 202) rfl (pf := 198) rfl (fun hc194 => ?_) (fun hc194 => absurd (by rw [own_law f ha hb]; simp only [Int64.ofInt_add, Int64.ofInt_sub]) hc194)
  refine g_iconst K W (v := (1 : Int32)) at_198 rfl (pc' := 199) rfl ?_
  refine g_goto K W at_199 (pt := 203) rfl ?_
  exact g_retN K W (by simp) at_203 (by decide) (by decide) (v := (1 : Int32)) rfl rfl
set_option maxHeartbeats 40000000 in
theorem comes_1 {Post : Tables → Env → Array Value → State → Outcome → State → Prop} (hpost : ∀ tb e args s v u, (limb_1_1.after args s (.returned v) u = true ∧ limb_1_2.after args s (.returned v) u = true ∧ True) → FrameEnd s (.returned v) u (Jvm.fieldLocs frame_1_writes args s ++ Jvm.arrayLocs frame_1_arrays args s ++ Jvm.staticLocs frame_1_statics s) 16 128 → Post tb e args s (.returned v) u) :
    ArmFor flags0 classFile x code maxLocals ret World_1 tables_1 room_1 Calls_1 rest_1 Pre_1 Post := by
  intro l hfl _ _ p e ha hc hk s m args below hf hA hF happ hP
  obtain ⟨hcalls, hrest, hpre⟩ := hP
  obtain ⟨-, -, -, hnamed, -, -, -, hat⟩ := (Spec.applies_iff hf).mp happ
  obtain ⟨hg, hn⟩ := and_e (Cond.before_iff.mp (show (Jvm.Cond.and given_1 narrow_1).before args s = true from hpre))
  obtain ⟨hcnt, hg⟩ := and_e hg
  obtain ⟨hi0, hg⟩ := and_e hg
  obtain ⟨hi1, hg⟩ := and_e hg
  obtain ⟨hi2, hg⟩ := and_e hg
  obtain ⟨hi3, hg⟩ := and_e hg
  obtain ⟨hi4, hg⟩ := and_e hg
  have hi5 := hg
  obtain ⟨w0, w1, w2, w3, w4, w5, rfl⟩ : ∃ w0 w1 w2 w3 w4 w5 : Value, args = #[w0, w1, w2, w3, w4, w5] := by
    have hs : args.size = 6 := by simpa [Cond.value, given_1] using hcnt
    obtain ⟨L⟩ := args
    match L, hs with
    | [w0, w1, w2, w3, w4, w5], _ => exact ⟨w0, w1, w2, w3, w4, w5, rfl⟩
  have hw := fun d (hd : d ∈ tables_1) => atoms_spec (ws := Jvm.Cond.code x code maxLocals ret :: tables_1) hat d (List.mem_cons_of_mem _ hd)
  obtain ⟨i0, ei0⟩ := is_v hi0
  obtain rfl : w0 = (.int i0) := Option.some.inj ei0
  obtain ⟨i1, ei1⟩ := is_v hi1
  obtain rfl : w1 = (.int i1) := Option.some.inj ei1
  obtain ⟨i2, ei2⟩ := is_v hi2
  obtain rfl : w2 = (.int i2) := Option.some.inj ei2
  obtain ⟨i3, ei3⟩ := is_v hi3
  obtain rfl : w3 = (.int i3) := Option.some.inj ei3
  obtain ⟨i4, ei4⟩ := is_v hi4
  obtain rfl : w4 = (.int i4) := Option.some.inj ei4
  obtain ⟨i5, ei5⟩ := is_v hi5
  obtain rfl : w5 = (.int i5) := Option.some.inj ei5
  obtain ⟨n, o, h1, h2, h3, v, L, rfl, ⟨hv, N⟩, hq⟩ := c0 l s _ hw s.heap.size s.heap (Nat.le_refl _) i0 i1 i2 i3 i4 i5 tables_1 p e ha hc hk s m _ below hf ((Spec.applies_iff_loose hf).mp happ).1 ⟨rfl, State.Warmed39.refl s, rfl⟩ trivial
  obtain rfl : v = some (.int 1) := hv
  refine ⟨n, _, h1, h2, h3, hpost _ _ _ _ _ _ ⟨Cond.after_iff.mpr rfl, Cond.after_iff.mpr (eq_i res_at (Term.int_eval (1)) rfl), trivial⟩ ⟨hq.1, hq.2.1, (hq.2.2.sift fun y hy => Or.inr (N y hy)).mono (by decide) (by decide)⟩⟩
theorem main_1_1 : Claimed_1_1 := comes_1 fun _ _ _ _ _ _ h hF => ⟨h.1, hF⟩
theorem main_1_2 : Claimed_1_2 := comes_1 fun _ _ _ _ _ _ h hF => ⟨h.2.1, hF⟩
end Jvm.Pilot.@@N@@
namespace Jvm.Pilot.@@N@@
open Jvm Jvm.ClassFile Sem Op Lib Jvm.Free Jvm.Stand Jvm.Pilot.@@N@@.Jvm.D
/-! MADE BY PROGRAM (witnessworld.py) out of the Statement's table words and the real class files: 9 classes; the members and pool entries that the words name. The judged class is class 1, her method 4. -/
namespace start1
open Jvm.ClassFile
def u (s : String) : CpInfo := .utf8 (stringToUtf16 s)
/-- a pool by its gaps: so many unusable entries, then the entry; so many at the end -/
def gap : Nat → List CpInfo → List CpInfo
  | 0, r => r
  | n + 1, r => .unusable :: gap n r
def poolList (es : List (Nat × CpInfo)) (last : Nat) : List CpInfo := es.foldr (fun e r => gap e.1 (e.2 :: r)) (gap last [])
def pool (es : List (Nat × CpInfo)) (last : Nat) : Array CpInfo := ⟨poolList es last⟩
def fileOf (pool : Array CpInfo) (this : Nat) (attrs : Array Attribute := #[]) (ms : Array MethodInfo := #[]) (fl : Nat := 33) (sup : Nat := 0) (ifs : Array Nat := #[]) (fds : Array FieldInfo := #[]) : ClassFile where
  minorVersion := 0
  majorVersion := 65
  constantPool := pool
  accessFlags := fl
  thisClass := this
  superClass := sup
  interfaces := ifs
  fields := fds
  methods := ms
  attributes := attrs
def plain (name : String) (sup : Option ClassId) : Class where
  name := name
  kind := .ordinary
  loader := none
  accessFlags := 33
  super := sup
  interfaces := #[]
  cf := none
  fields := #[]
  methods := #[]
  instanceTypes := #[]
  staticTypes := #[]
  resolved := #[]
  callSites := []
  init := .initialized
  statics := none
  mirror := none

def pool0 : Array CpInfo := pool [(5, u "<init>"), (0, u "()V"), (1, .class_ 10), (1, u "java/lang/Object")] 113

def k0m0 : Method := { name := "<init>", desc := "()V", sig := { parameters := [], returnType := none }, accessFlags := 1, code := none }
/-- java/lang/Object -/
def k0 : Class := { plain "java/lang/Object" none with
  accessFlags := 33
  interfaces := #[]
  cf := some (fileOf pool0 8 #[] #[{ accessFlags := 1, nameIndex := 5, descriptorIndex := 6, attributes := #[] }] 33 0 #[] #[])
  fields := #[]
  methods := #[k0m0]
  instanceTypes := #[]
  staticTypes := #[]
  resolved := Array.replicate 124 none
  statics := none }

def pool1 : Array CpInfo := pool [(2, .class_ 4), (1, u "java/lang/Object"), (0, u "<init>"), (0, u "()V"), (0, .methodref 8 9), (0, .class_ 10), (0, .nameAndType 11 12), (0, u "com/example/vestry/vestry/InputFilesLineEndsPinLaw"), (0, u "pick"), (0, u "(I)B"), (0, .methodref 8 14), (0, .nameAndType 15 16), (0, u "single"), (0, u "([BIII)J"), (0, .methodref 8 18), (0, .nameAndType 19 16), (0, u "pair"), (0, .methodref 21 22), (0, .class_ 23), (0, .nameAndType 24 25), (0, u "com/example/vestry/vestry/InputFiles"), (0, u "lineEnds"), (0, u "([BII)J"), (3, u "law"), (0, u "(IIIIII)Z")] 4

def k1m0 : Method := { name := "<init>", desc := "()V", sig := { parameters := [], returnType := none }, accessFlags := 2, code := none }
def k1c1 : Code := { maxStack := 2, maxLocals := 2, code := method_2_code, exceptionTable := #[], attributes := #[] }
def k1m1 : Method := { name := "pick", desc := "(I)B", sig := { parameters := [.int], returnType := some .byte }, accessFlags := 10, code := some k1c1 }
def k1c2 : Code := { maxStack := 4, maxLocals := 6, code := method_3_code, exceptionTable := #[], attributes := #[] }
def k1m2 : Method := { name := "single", desc := "([BIII)J", sig := { parameters := [(.array .byte), .int, .int, .int], returnType := some .long }, accessFlags := 10, code := some k1c2 }
def k1c3 : Code := { maxStack := 3, maxLocals := 4, code := method_4_code, exceptionTable := #[], attributes := #[] }
def k1m3 : Method := { name := "pair", desc := "([BIII)J", sig := { parameters := [(.array .byte), .int, .int, .int], returnType := some .long }, accessFlags := 10, code := some k1c3 }
def k1c4 : Code := { maxStack := 6, maxLocals := 17, code := code, exceptionTable := #[], attributes := #[] }
def k1m4 : Method := { name := "law", desc := "(IIIIII)Z", sig := { parameters := [.int, .int, .int, .int, .int, .int], returnType := some .boolean }, accessFlags := 9, code := some k1c4 }
/-- com/example/vestry/vestry/InputFilesLineEndsPinLaw -/
def k1 : Class := { plain "com/example/vestry/vestry/InputFilesLineEndsPinLaw" (some 0) with
  accessFlags := 49
  interfaces := #[]
  cf := some (fileOf pool1 8 #[] #[{ accessFlags := 2, nameIndex := 5, descriptorIndex := 6, attributes := #[] }, { accessFlags := 10, nameIndex := 11, descriptorIndex := 12, attributes := #[] }, { accessFlags := 10, nameIndex := 15, descriptorIndex := 16, attributes := #[] }, { accessFlags := 10, nameIndex := 19, descriptorIndex := 16, attributes := #[] }, { accessFlags := 9, nameIndex := 29, descriptorIndex := 30, attributes := #[] }] 49 2 #[] #[])
  fields := #[]
  methods := #[k1m0, k1m1, k1m2, k1m3, k1m4]
  instanceTypes := #[]
  staticTypes := #[]
  resolved := Array.replicate 35 none
  statics := none }

def pool2 : Array CpInfo := pool [(2, .class_ 4), (1, u "java/lang/Object"), (0, u "<init>"), (0, u "()V"), (1, .class_ 10), (1, u "com/example/vestry/vestry/InputFiles"), (6, u "BYTE_ORDER_MARK"), (0, u "[B"), (51, .class_ 71), (0, u "com/example/vestry/vestry/InputFiles$NotUtf8Exception"), (6, u "lineEnds"), (0, u "([BII)J"), (23, .class_ 104), (0, u "com/example/vestry/vestry/InputFiles$NamingStream")] 70

def k2m0 : Method := { name := "<init>", desc := "()V", sig := { parameters := [], returnType := none }, accessFlags := 2, code := none }
def k2c1 : Code := { maxStack := 4, maxLocals := 7, code := prog_8_method_9_code, exceptionTable := #[], attributes := #[] }
def k2m1 : Method := { name := "lineEnds", desc := "([BII)J", sig := { parameters := [(.array .byte), .int, .int], returnType := some .long }, accessFlags := 8, code := some k2c1 }
/-- com/example/vestry/vestry/InputFiles -/
def k2 : Class := { plain "com/example/vestry/vestry/InputFiles" (some 0) with
  accessFlags := 48
  interfaces := #[]
  cf := some (fileOf pool2 8 #[.nestMembers #[70, 103]] #[{ accessFlags := 2, nameIndex := 5, descriptorIndex := 6, attributes := #[] }, { accessFlags := 8, nameIndex := 78, descriptorIndex := 79, attributes := #[] }] 48 2 #[] #[{ accessFlags := 26, nameIndex := 17, descriptorIndex := 18, attributes := #[] }])
  fields := #[{ name := "BYTE_ORDER_MARK", type := (.array .byte), accessFlags := 26, slot := 0, constantValue := 0 }]
  methods := #[k2m0, k2m1]
  instanceTypes := #[]
  staticTypes := #[(.array .byte)]
  resolved := Array.replicate 175 none
  statics := none }

def pool3 : Array CpInfo := pool [(1, u "java/lang/Cloneable"), (0, .class_ 1), (0, u "java/lang/Object"), (0, .class_ 3)] 3

/-- java/lang/Cloneable -/
def k3 : Class := { plain "java/lang/Cloneable" (some 0) with
  accessFlags := 1537
  interfaces := #[]
  cf := some (fileOf pool3 2 #[] #[] 1537 4 #[] #[])
  fields := #[]
  methods := #[]
  instanceTypes := #[]
  staticTypes := #[]
  resolved := Array.replicate 8 none
  statics := none }

def pool4 : Array CpInfo := pool [(1, u "java/io/Serializable"), (0, .class_ 1), (0, u "java/lang/Object"), (0, .class_ 3)] 3

/-- java/io/Serializable -/
def k4 : Class := { plain "java/io/Serializable" (some 0) with
  accessFlags := 1537
  interfaces := #[]
  cf := some (fileOf pool4 2 #[] #[] 1537 4 #[] #[])
  fields := #[]
  methods := #[]
  instanceTypes := #[]
  staticTypes := #[]
  resolved := Array.replicate 8 none
  statics := none }

/-- the primitive byte -/
def k5 : Class := { plain "byte" none with kind := .primitive 'B', accessFlags := 0x411 }
/-- [B -/
def k6 : Class := { plain "[B" (some 0) with kind := .array 5 .byte, interfaces := #[3, 4], accessFlags := 1041 }

/-- the primitive int -/
def k7 : Class := { plain "int" none with kind := .primitive 'I', accessFlags := 0x411 }
/-- [I -/
def k8 : Class := { plain "[I" (some 0) with kind := .array 7 .int, interfaces := #[3, 4], accessFlags := 1041 }

def heap : Heap := #[]
def classes : Array Class := #[k0, k1, k2, k3, k4, k5, k6, k7, k8]
def interned : List (Array UInt16 × Addr) := []
def slotsUsed : Nat := 0
def theMethod : MethodId := ⟨1, 4⟩
def args0 : Array Value := #[.int 3, .int 4, .int 5, .int 6, .int 7, .int 8]
def aboutOver (below : List Frame) : State where
  vm := { classes := classes, interned := interned.toArray }
  heap := heap
  slotsUsed := slotsUsed
  threads := #[{ frames := .invoking theMethod args0 :: below }]
def below0 : List Frame := [.native { method := ⟨0, 0⟩, args := #[] }]
def about1 : State := aboutOver below0
def p0 : Program := .bare "" "" ""
def e0 : Env := launch0.env 0 0 0
theorem w_frames : about1.frames = Frame.invoking theMethod args0 :: below0 := rfl
set_option maxRecDepth 65536 in
theorem w_args : argsFit about1.vm theMethod args0 = true := by decide +kernel
set_option maxRecDepth 65536 in
theorem w_heap : heapFits about1 = true := by decide +kernel
set_option maxRecDepth 65536 in
theorem w_runnable : about1.curStatus? = some .runnable := by decide +kernel
set_option maxRecDepth 65536 in
theorem w_alone : about1.alone = true := by decide +kernel
set_option maxRecDepth 65536 in
theorem w_named : about1.methodNamed? x = some theMethod := by decide +kernel
set_option maxRecDepth 65536 in
theorem w_hears : about1.hears theMethod below0 = true := by decide +kernel
set_option maxRecDepth 65536 in
theorem w_ripe : about1.ripe theMethod args0 below0 = true := by decide +kernel
theorem w_running : about1.status = .running := rfl
set_option maxRecDepth 65536 in
theorem w_room : about1.hasRoom e0.platform room_1 = true :=
  launch0.hasRoom_least _ room_1 (by decide +kernel) (by decide +kernel) (by decide +kernel) (by decide +kernel) (by decide +kernel) (by decide +kernel)
theorem allAtoms_all (ts : List Jvm.Cond) (a : Array Jvm.Value) (st : Jvm.State) : (allAtoms ts).before a st = ts.all (fun c => c.before a st) := by
  induction ts with
  | nil => rfl
  | cons c t ih =>
    show (Jvm.Cond.and c (allAtoms t)).before a st = _
    rw [Jvm.Cond.before_and, ih, List.all_cons]
def words1 : List Jvm.Cond := Jvm.Cond.code x code maxLocals ret :: tables_1
/-- a 'code' word, met by the world's own term for the bytes: nothing is compared byte by byte -/
theorem code_word {y : MethodName} {bytes : ByteArray} {mx : Nat} {rt : Option FieldType} {a : Array Value} {s : State} {m : MethodId} {meth : Method} {c : Code} (h1 : s.methodNamed? y = some m) (h2 : s.vm.method? m = some meth) (h3 : meth.code = some c) (h4 : c.code = bytes)
    (h5 : (c.maxLocals == mx && c.exceptionTable.isEmpty && decide (c.maxStack ≤ mostOperands) && decide (meth.sig.returnType = rt) && !meth.locks && decide (parseMethodDescriptor y.desc = some meth.sig)) = true) : (Jvm.Cond.code y bytes mx rt).before a s = true := by
  simp only [Bool.and_eq_true, beq_iff_eq, Bool.not_eq_true', decide_eq_true_eq] at h5
  obtain ⟨⟨⟨⟨⟨g1, g2⟩, g3⟩, g4⟩, g5⟩, g6⟩ := h5
  simp [Cond.before, Cond.holds, Cond.value, h1, h2, h3, h4, g1, g2, g3, g4, g5, g6]
def isCode : Jvm.Cond → Bool
  | .code _ _ _ _ => true
  | _ => false
theorem all_split {L : List Jvm.Cond} {P : Jvm.Cond → Bool} (h1 : L.all (fun c => isCode c || P c) = true) (h2 : ∀ c ∈ L.filter isCode, P c = true) : L.all P = true := by
  refine List.all_eq_true.mpr fun c hc => ?_
  have h := List.all_eq_true.mp h1 c hc
  rcases Bool.eq_false_or_eq_true (isCode c) with hi | hi
  · exact h2 c (List.mem_filter.mpr ⟨hc, hi⟩)
  · simpa [hi] using h
set_option maxRecDepth 65536 in
theorem w_c0 : (Jvm.Cond.code x code maxLocals ret).before args0 about1 = true := code_word (m := ⟨1, 4⟩) (meth := k1m4) (c := k1c4) (by decide +kernel) rfl rfl rfl (by decide +kernel)
set_option maxRecDepth 65536 in
theorem w_c1 : (Jvm.Cond.code ({ cls := "com/example/vestry/vestry/InputFilesLineEndsPinLaw", name := "pick", desc := "(I)B" } : Jvm.MethodName) method_2_code (2 : Nat) (Option.some Jvm.ClassFile.FieldType.byte)).before args0 about1 = true := code_word (m := ⟨1, 1⟩) (meth := k1m1) (c := k1c1) (by decide +kernel) rfl rfl rfl (by decide +kernel)
set_option maxRecDepth 65536 in
theorem w_c2 : (Jvm.Cond.code ({ cls := "com/example/vestry/vestry/InputFilesLineEndsPinLaw", name := "single", desc := "([BIII)J" } : Jvm.MethodName) method_3_code (6 : Nat) (Option.some Jvm.ClassFile.FieldType.long)).before args0 about1 = true := code_word (m := ⟨1, 2⟩) (meth := k1m2) (c := k1c2) (by decide +kernel) rfl rfl rfl (by decide +kernel)
set_option maxRecDepth 65536 in
theorem w_c3 : (Jvm.Cond.code ({ cls := "com/example/vestry/vestry/InputFilesLineEndsPinLaw", name := "pair", desc := "([BIII)J" } : Jvm.MethodName) method_4_code (4 : Nat) (Option.some Jvm.ClassFile.FieldType.long)).before args0 about1 = true := code_word (m := ⟨1, 3⟩) (meth := k1m3) (c := k1c3) (by decide +kernel) rfl rfl rfl (by decide +kernel)
set_option maxRecDepth 65536 in
theorem w_c4 : (Jvm.Cond.code ({ cls := "com/example/vestry/vestry/InputFiles", name := "lineEnds", desc := "([BII)J" } : Jvm.MethodName) prog_8_method_9_code (7 : Nat) (Option.some Jvm.ClassFile.FieldType.long)).before args0 about1 = true := code_word (m := ⟨2, 1⟩) (meth := k2m1) (c := k2c1) (by decide +kernel) rfl rfl rfl (by decide +kernel)
def codes1 : List Jvm.Cond := [Jvm.Cond.code x code maxLocals ret, Jvm.Cond.code ({ cls := "com/example/vestry/vestry/InputFilesLineEndsPinLaw", name := "pick", desc := "(I)B" } : Jvm.MethodName) method_2_code (2 : Nat) (Option.some Jvm.ClassFile.FieldType.byte), Jvm.Cond.code ({ cls := "com/example/vestry/vestry/InputFilesLineEndsPinLaw", name := "single", desc := "([BIII)J" } : Jvm.MethodName) method_3_code (6 : Nat) (Option.some Jvm.ClassFile.FieldType.long), Jvm.Cond.code ({ cls := "com/example/vestry/vestry/InputFilesLineEndsPinLaw", name := "pair", desc := "([BIII)J" } : Jvm.MethodName) method_4_code (4 : Nat) (Option.some Jvm.ClassFile.FieldType.long), Jvm.Cond.code ({ cls := "com/example/vestry/vestry/InputFiles", name := "lineEnds", desc := "([BII)J" } : Jvm.MethodName) prog_8_method_9_code (7 : Nat) (Option.some Jvm.ClassFile.FieldType.long)]
set_option maxRecDepth 65536 in
theorem codes_eq : words1.filter isCode = codes1 := rfl
theorem w_codes : ∀ c ∈ words1.filter isCode, c.before args0 about1 = true := by
  rw [codes_eq]
  intro c hc
  simp only [codes1, List.mem_cons, List.not_mem_nil, or_false] at hc
  rcases hc with rfl | rfl | rfl | rfl | rfl
  · exact w_c0
  · exact w_c1
  · exact w_c2
  · exact w_c3
  · exact w_c4
set_option maxRecDepth 65536 in
theorem w_t1 : words1.all (fun c => isCode c || c.before args0 about1) = true := by decide +kernel
theorem w_tables : (allAtoms (Jvm.Cond.code x code maxLocals ret :: tables_1)).before args0 about1 = true := by
  rw [allAtoms_all]
  show words1.all (fun c => c.before args0 about1) = true
  refine all_split ?_ w_codes
  rw [w_t1]
set_option maxRecDepth 65536 in
theorem w_case : (Jvm.Cond.and given_1 narrow_1).before args0 about1 = true := by decide +kernel
theorem w_applies : (headSpec (Jvm.Cond.code x code maxLocals ret :: tables_1) room_1).applies x e0.platform about1 = true :=
  (Spec.applies_iff w_frames).mpr ⟨w_running, w_runnable, w_alone, w_named, w_hears, w_ripe, w_room, w_tables⟩
theorem atStart : AtStart classFile x code maxLocals ret World_1 tables_1 room_1 Calls_1 rest_1 Pre_1 launch0 p0 e0 about1 theMethod args0 below0 :=
  ⟨lists_1, trivial, launch0.admits_env _ _ _, launch0.least_env, fairChoices_fair.cas, fairChoices_fair.clock, w_frames, w_args, w_heap, w_applies, trivial, trivial, w_case⟩
end start1
theorem witness_1 : WitnessClaimed_1 := ⟨start1.p0, start1.e0, start1.about1, start1.theMethod, start1.args0, start1.below0, start1.atStart⟩
end Jvm.Pilot.@@N@@
