import JvmDerived
import JvmDerived.Pilot.@@N@@Statement
import JvmDerived.Pilot.@@N@@Code
set_option linter.unusedVariables false
set_option linter.unusedSimpArgs false
set_option maxRecDepth 65536
namespace Jvm.Pilot.@@N@@
open Jvm Jvm.ClassFile Sem Op Lib Jvm.Free Jvm.Stand Jvm.LawKit Jvm.RoadKit Bundle Jvm.Pilot.@@N@@.Jvm.D
section OwnBase
/-- where a walk stands: the Stand, that nothing old was written, the heap -/
def Wd (p : Program) (l : Launch) (e : Env) (R : Room) (s : State) (m : MethodId) (args : Array Value) (below : List Frame) (meth : Method) (c : Code) (n0 : Nat) (T : State) (h : Heap) (cs ss : Nat) : Prop :=
  ∃ locs, Stand p l e R s m args below meth c T locs cs ss ∧ Fr n0 locs ∧ T.heap = h ∧ n0 ≤ s.heap.size
/-- from the frame g on the body comes to its end, and Q holds of what it returns and of the heap -/
def Go (p : Program) (e : Env) (below : List Frame) (s : State) (n0 : Nat) (Q : Option Value → Heap → Prop) (rc rs : Nat) (T : State) (g : JFrame) : Prop :=
  ∃ s₂ o, Steps p.tables e below (T.setTop g) s₂ ∧ s₂.status = .running ∧ Ended s₂ below o ∧ ∃ v L, o = .returned v ∧ (Q v s₂.heap ∧ Fr n0 L) ∧ FrameEnd s o s₂ L rc rs
/-- what a walk knows of the body that it walks -/
def Cx (p : Program) (s : State) (m : MethodId) (meth : Method) (c : Code) (Z : State) (own nm : String) (bytes : ByteArray) (maxL : Nat) (ret : Option FieldType) : Prop :=
  p.tables.exec = Jvm.exec ∧ Z.Warmed39 s.vm ∧ c.code = bytes ∧ c.maxLocals = maxL ∧ s.vm.findClass own = some m.cls ∧ meth.sig.returnType = ret ∧ meth.locks = false ∧ meth.name = nm
/-- a body's contract -/
def Mt (l : Launch) (Z : State) (y : MethodName) (bytes : ByteArray) (maxL : Nat) (ret : Option FieldType) (rm : Room) (n0 : Nat) (as' : Array Value) (h0 : Heap) (Q : Option Value → Heap → Prop) : Prop :=
  ∀ ws : List Jvm.Cond, MetFree l y (head1 (Jvm.Cond.code y bytes maxL ret :: ws) rm) (fun a U => a = as' ∧ Z.Warmed39 U.vm ∧ U.heap = h0) (fun _ _ _ _ _ => True) (fun _ U o U' => ∃ v L, o = .returned v ∧ (Q v U'.heap ∧ Fr n0 L) ∧ FrameEnd U o U' L rm.cells rm.slots)
variable {p : Program} {l : Launch} {e : Env} {R : Room} {s : State} {m : MethodId} {args : Array Value} {below : List Frame} {meth : Method} {c : Code} {Z : State} {own nm : String} {bytes : ByteArray} {maxL : Nat} {ret : Option FieldType} {T : State} {h : Heap} {cs ss n0 : Nat} {Q : Option Value → Heap → Prop} {rc rs : Nat} {pc pc' pf pt : Nat} {Ls Ls' : Array Slot} {st rest : List Value} {a0 : Array Value}
theorem Go.stp {T' : State} {g g' : JFrame} (q : ∀ target, Steps p.tables e below (T'.setTop g') target → Steps p.tables e below (T.setTop g) target) (G : Go p e below s n0 Q rc rs T' g') : Go p e below s n0 Q rc rs T g := by
  obtain ⟨s₂, o, h1, r⟩ := G
  exact ⟨s₂, o, q _ h1, r⟩
theorem Wd.mono {cs' ss' : Nat} (W : Wd p l e R s m args below meth c n0 T h cs ss) (h1 : cs ≤ cs') (h2 : ss ≤ ss') : Wd p l e R s m args below meth c n0 T h cs' ss' := by
  obtain ⟨locs, X, r⟩ := W
  exact ⟨locs, ⟨X.admits, X.cas, X.clock, X.frames, X.room, X.hears, X.method, X.code, X.here, X.tail, X.warmed, X.limits, X.bytes, X.same.mono h1 h2⟩, r⟩
theorem met_of {y : MethodName} {rm : Room} {as' : Array Value} {h0 : Heap} (hpl : plainFor y = true) (hent : ∀ m, entryFrame m as' maxL = mkF m 0 Ls []) (hn : n0 ≤ h0.size)
    (H : ∀ p e s m below meth c T, Cx p s m meth c Z y.cls y.name bytes maxL ret → Wd p l e rm s m as' below meth c n0 T h0 0 0 → Go p e below s n0 Q rm.cells rm.slots T (mkF m 0 Ls [])) :
    Mt l Z y bytes maxL ret rm n0 as' h0 Q := by
  intro ws
  refine MetFree.of_bodySF hpl hisR ?_
  intro p e s m args below meth c s₁ Bd hml0 hP hK
  obtain ⟨rfl, hZ, hh⟩ := hP
  have X0 := Stand.of_body Bd
  have e0 : s₁.heap = h0 := by rw [← hh, Bd.state]; rfl
  have G := H p e s m below meth c s₁ ⟨Bd.exec, hZ, Bd.bytes, hml0, findClass_of_methodNamed Bd.named, Bd.returns, Bd.notSynchronized, (name_of_methodNamed Bd.named Bd.method).1⟩ ⟨[], X0, Fr.nil n0, e0, by rw [hh]; exact hn⟩
  obtain ⟨s₂, o, h1, h2, h3, v, L, h4, h5, h6⟩ := G
  exact ⟨s₂, o, castTop (hent m) h1, h2, h3, v, L, h4, h5, h6⟩
/-! the single steps -/
theorem g_iload (K : Cx p s m meth c Z own nm bytes maxL ret) (W : Wd p l e R s m args below meth c n0 T h cs ss) {k : Nat} {v : Int32} (hd : decode bytes pc = .ok (.iload k, 2)) (hl : Ls[k]? = some (.val (.int v))) (hp : pc + 2 = pc') (G : Go p e below s n0 Q rc rs T (mkF m pc' Ls (.int v :: st))) : Go p e below s n0 Q rc rs T (mkF m pc Ls st) := by
  obtain ⟨_, X, -⟩ := W; subst hp
  exact Go.stp (g' := mkF m (pc + 2) Ls (.int v :: st)) (fun _ hr => XS.iload X.here K.1 rfl (hb K.2.2.1 hd) hl hr) G
theorem g_iloadN (K : Cx p s m meth c Z own nm bytes maxL ret) (W : Wd p l e R s m args below meth c n0 T h cs ss) {k : Fin 4} {v : Int32} (hd : decode bytes pc = .ok (.iload_n k, 1)) (hl : Ls[k.val]? = some (.val (.int v))) (hp : pc + 1 = pc') (G : Go p e below s n0 Q rc rs T (mkF m pc' Ls (.int v :: st))) : Go p e below s n0 Q rc rs T (mkF m pc Ls st) := by
  obtain ⟨_, X, -⟩ := W; subst hp
  exact Go.stp (g' := mkF m (pc + 1) Ls (.int v :: st)) (fun _ hr => XS.iloadN X.here K.1 rfl (hb K.2.2.1 hd) hl hr) G
theorem g_lload (K : Cx p s m meth c Z own nm bytes maxL ret) (W : Wd p l e R s m args below meth c n0 T h cs ss) {k : Nat} {v : Int64} (hd : decode bytes pc = .ok (.lload k, 2)) (hl : Ls[k]? = some (.val (.long v))) (hp : pc + 2 = pc') (G : Go p e below s n0 Q rc rs T (mkF m pc' Ls (.long v :: st))) : Go p e below s n0 Q rc rs T (mkF m pc Ls st) := by
  obtain ⟨_, X, -⟩ := W; subst hp
  exact Go.stp (g' := mkF m (pc + 2) Ls (.long v :: st)) (fun _ hr => XS.lload X.here K.1 rfl (hb K.2.2.1 hd) hl hr) G
theorem g_lloadN (K : Cx p s m meth c Z own nm bytes maxL ret) (W : Wd p l e R s m args below meth c n0 T h cs ss) {k : Fin 4} {v : Int64} (hd : decode bytes pc = .ok (.lload_n k, 1)) (hl : Ls[k.val]? = some (.val (.long v))) (hp : pc + 1 = pc') (G : Go p e below s n0 Q rc rs T (mkF m pc' Ls (.long v :: st))) : Go p e below s n0 Q rc rs T (mkF m pc Ls st) := by
  obtain ⟨_, X, -⟩ := W; subst hp
  exact Go.stp (g' := mkF m (pc + 1) Ls (.long v :: st)) (fun _ hr => XS.lloadN X.here K.1 rfl (hb K.2.2.1 hd) hl hr) G
theorem g_aload (K : Cx p s m meth c Z own nm bytes maxL ret) (W : Wd p l e R s m args below meth c n0 T h cs ss) {k : Nat} {v : Value} (hd : decode bytes pc = .ok (.aload k, 2)) (hl : Ls[k]? = some (.val v)) (hv : v.isRef = true) (hp : pc + 2 = pc') (G : Go p e below s n0 Q rc rs T (mkF m pc' Ls (v :: st))) : Go p e below s n0 Q rc rs T (mkF m pc Ls st) := by
  obtain ⟨_, X, -⟩ := W; subst hp
  exact Go.stp (g' := mkF m (pc + 2) Ls (v :: st)) (fun _ hr => XS.aload X.here K.1 rfl (hb K.2.2.1 hd) hl hv hr) G
theorem g_aloadN (K : Cx p s m meth c Z own nm bytes maxL ret) (W : Wd p l e R s m args below meth c n0 T h cs ss) {k : Fin 4} {v : Value} (hd : decode bytes pc = .ok (.aload_n k, 1)) (hl : Ls[k.val]? = some (.val v)) (hv : v.isRef = true) (hp : pc + 1 = pc') (G : Go p e below s n0 Q rc rs T (mkF m pc' Ls (v :: st))) : Go p e below s n0 Q rc rs T (mkF m pc Ls st) := by
  obtain ⟨_, X, -⟩ := W; subst hp
  exact Go.stp (g' := mkF m (pc + 1) Ls (v :: st)) (fun _ hr => XS.aloadN X.here K.1 rfl (hb K.2.2.1 hd) hl hv hr) G
theorem g_istore (K : Cx p s m meth c Z own nm bytes maxL ret) (W : Wd p l e R s m args below meth c n0 T h cs ss) {k : Nat} {x : Int32} (hd : decode bytes pc = .ok (.istore k, 2)) (hl : storeLocals Ls k (.int x) = some Ls') (hp : pc + 2 = pc') (G : Go p e below s n0 Q rc rs T (mkF m pc' Ls' st)) : Go p e below s n0 Q rc rs T (mkF m pc Ls (.int x :: st)) := by
  obtain ⟨_, X, -⟩ := W; subst hp
  exact Go.stp (g' := mkF m (pc + 2) Ls' st) (fun _ hr => XS.istore X.here K.1 rfl (hb K.2.2.1 hd) rfl hl hr) G
theorem g_istoreN (K : Cx p s m meth c Z own nm bytes maxL ret) (W : Wd p l e R s m args below meth c n0 T h cs ss) {k : Fin 4} {x : Int32} (hd : decode bytes pc = .ok (.istore_n k, 1)) (hl : storeLocals Ls k.val (.int x) = some Ls') (hp : pc + 1 = pc') (G : Go p e below s n0 Q rc rs T (mkF m pc' Ls' st)) : Go p e below s n0 Q rc rs T (mkF m pc Ls (.int x :: st)) := by
  obtain ⟨_, X, -⟩ := W; subst hp
  exact Go.stp (g' := mkF m (pc + 1) Ls' st) (fun _ hr => XS.istoreN X.here K.1 rfl (hb K.2.2.1 hd) rfl hl hr) G
theorem g_lstore (K : Cx p s m meth c Z own nm bytes maxL ret) (W : Wd p l e R s m args below meth c n0 T h cs ss) {k : Nat} {x : Int64} (hd : decode bytes pc = .ok (.lstore k, 2)) (hl : storeLocals Ls k (.long x) = some Ls') (hp : pc + 2 = pc') (G : Go p e below s n0 Q rc rs T (mkF m pc' Ls' st)) : Go p e below s n0 Q rc rs T (mkF m pc Ls (.long x :: st)) := by
  obtain ⟨_, X, -⟩ := W; subst hp
  exact Go.stp (g' := mkF m (pc + 2) Ls' st) (fun _ hr => XS.lstore X.here K.1 rfl (hb K.2.2.1 hd) rfl hl hr) G
theorem g_lstoreN (K : Cx p s m meth c Z own nm bytes maxL ret) (W : Wd p l e R s m args below meth c n0 T h cs ss) {k : Fin 4} {x : Int64} (hd : decode bytes pc = .ok (.lstore_n k, 1)) (hl : storeLocals Ls k.val (.long x) = some Ls') (hp : pc + 1 = pc') (G : Go p e below s n0 Q rc rs T (mkF m pc' Ls' st)) : Go p e below s n0 Q rc rs T (mkF m pc Ls (.long x :: st)) := by
  obtain ⟨_, X, -⟩ := W; subst hp
  exact Go.stp (g' := mkF m (pc + 1) Ls' st) (fun _ hr => XS.lstoreN X.here K.1 rfl (hb K.2.2.1 hd) rfl hl hr) G
theorem g_astore (K : Cx p s m meth c Z own nm bytes maxL ret) (W : Wd p l e R s m args below meth c n0 T h cs ss) {k : Nat} {x : Value} (hd : decode bytes pc = .ok (.astore k, 2)) (hv : x.isRef = true) (hl : storeLocals Ls k x = some Ls') (hp : pc + 2 = pc') (G : Go p e below s n0 Q rc rs T (mkF m pc' Ls' st)) : Go p e below s n0 Q rc rs T (mkF m pc Ls (x :: st)) := by
  obtain ⟨_, X, -⟩ := W; subst hp
  exact Go.stp (g' := mkF m (pc + 2) Ls' st) (fun _ hr => XS.astore X.here K.1 rfl (hb K.2.2.1 hd) rfl hv hl hr) G
theorem g_astoreN (K : Cx p s m meth c Z own nm bytes maxL ret) (W : Wd p l e R s m args below meth c n0 T h cs ss) {k : Fin 4} {x : Value} (hd : decode bytes pc = .ok (.astore_n k, 1)) (hv : x.isRef = true) (hl : storeLocals Ls k.val x = some Ls') (hp : pc + 1 = pc') (G : Go p e below s n0 Q rc rs T (mkF m pc' Ls' st)) : Go p e below s n0 Q rc rs T (mkF m pc Ls (x :: st)) := by
  obtain ⟨_, X, -⟩ := W; subst hp
  exact Go.stp (g' := mkF m (pc + 1) Ls' st) (fun _ hr => XS.astoreN X.here K.1 rfl (hb K.2.2.1 hd) rfl hv hl hr) G
theorem g_iconst (K : Cx p s m meth c Z own nm bytes maxL ret) (W : Wd p l e R s m args below meth c n0 T h cs ss) {i : Int} {v : Int32} (hd : decode bytes pc = .ok (.iconst i, 1)) (hv : Int32.ofInt i = v) (hp : pc + 1 = pc') (G : Go p e below s n0 Q rc rs T (mkF m pc' Ls (.int v :: st))) : Go p e below s n0 Q rc rs T (mkF m pc Ls st) := by
  obtain ⟨_, X, -⟩ := W; subst hp hv
  exact Go.stp (g' := mkF m (pc + 1) Ls (.int (Int32.ofInt i) :: st)) (fun _ hr => XS.iconst X.here K.1 rfl (hb K.2.2.1 hd) hr) G
theorem g_bipush (K : Cx p s m meth c Z own nm bytes maxL ret) (W : Wd p l e R s m args below meth c n0 T h cs ss) {i : Int} {v : Int32} (hd : decode bytes pc = .ok (.bipush i, 2)) (hv : (Int8.ofInt i).toInt32 = v) (hp : pc + 2 = pc') (G : Go p e below s n0 Q rc rs T (mkF m pc' Ls (.int v :: st))) : Go p e below s n0 Q rc rs T (mkF m pc Ls st) := by
  obtain ⟨_, X, -⟩ := W; subst hp hv
  exact Go.stp (g' := mkF m (pc + 2) Ls (.int ((Int8.ofInt i).toInt32) :: st)) (fun _ hr => XS.bipush X.here K.1 rfl (hb K.2.2.1 hd) hr) G
theorem g_sipush (K : Cx p s m meth c Z own nm bytes maxL ret) (W : Wd p l e R s m args below meth c n0 T h cs ss) {i : Int} {v : Int32} (hd : decode bytes pc = .ok (.sipush i, 3)) (hv : (Int16.ofInt i).toInt32 = v) (hp : pc + 3 = pc') (G : Go p e below s n0 Q rc rs T (mkF m pc' Ls (.int v :: st))) : Go p e below s n0 Q rc rs T (mkF m pc Ls st) := by
  obtain ⟨_, X, -⟩ := W; subst hp hv
  exact Go.stp (g' := mkF m (pc + 3) Ls (.int ((Int16.ofInt i).toInt32) :: st)) (fun _ hr => XS.sipush X.here K.1 rfl (hb K.2.2.1 hd) hr) G
theorem g_lconst (K : Cx p s m meth c Z own nm bytes maxL ret) (W : Wd p l e R s m args below meth c n0 T h cs ss) {k : Fin 2} {v : Int64} (hd : decode bytes pc = .ok (.lconst k, 1)) (hv : Int64.ofNat k = v) (hp : pc + 1 = pc') (G : Go p e below s n0 Q rc rs T (mkF m pc' Ls (.long v :: st))) : Go p e below s n0 Q rc rs T (mkF m pc Ls st) := by
  obtain ⟨_, X, -⟩ := W; subst hp hv
  exact Go.stp (g' := mkF m (pc + 1) Ls (.long (Int64.ofNat k) :: st)) (fun _ hr => XS.lconst X.here K.1 rfl (hb K.2.2.1 hd) hr) G
theorem g_null (K : Cx p s m meth c Z own nm bytes maxL ret) (W : Wd p l e R s m args below meth c n0 T h cs ss) (hd : decode bytes pc = .ok (.aconst_null, 1)) (hp : pc + 1 = pc') (G : Go p e below s n0 Q rc rs T (mkF m pc' Ls (.null :: st))) : Go p e below s n0 Q rc rs T (mkF m pc Ls st) := by
  obtain ⟨_, X, -⟩ := W; subst hp
  exact Go.stp (g' := mkF m (pc + 1) Ls (.null :: st)) (fun _ hr => XS.aconstNull X.here K.1 rfl (hb K.2.2.1 hd) hr) G
theorem g_ldc (K : Cx p s m meth c Z own nm bytes maxL ret) (W : Wd p l e R s m args below meth c n0 T h cs ss) {index : Nat} {v : Int32} (w : (Jvm.Cond.constant own index v).before a0 Z = true) (hd : decode bytes pc = .ok (.ldc index, 2)) (hp : pc + 2 = pc') (G : Go p e below s n0 Q rc rs T (mkF m pc' Ls (.int v :: st))) : Go p e below s n0 Q rc rs T (mkF m pc Ls st) := by
  obtain ⟨_, X, -⟩ := W; subst hp
  exact Go.stp (g' := mkF m (pc + 2) Ls (.int v :: st)) (X.ldcInt K.1 K.2.2.2.2.1 (mvT K.2.1 w) (g := mkF m pc Ls st) rfl (hb K.2.2.1 hd)) G
theorem g_ldc2 (K : Cx p s m meth c Z own nm bytes maxL ret) (W : Wd p l e R s m args below meth c n0 T h cs ss) {index : Nat} {v : Int64} (w : (Jvm.Cond.constantLong own index v).before a0 Z = true) (hd : decode bytes pc = .ok (.ldc2_w index, 3)) (hp : pc + 3 = pc') (G : Go p e below s n0 Q rc rs T (mkF m pc' Ls (.long v :: st))) : Go p e below s n0 Q rc rs T (mkF m pc Ls st) := by
  obtain ⟨_, X, -⟩ := W; subst hp
  exact Go.stp (g' := mkF m (pc + 3) Ls (.long v :: st)) (X.ldc2Long K.1 K.2.2.2.2.1 (mvT K.2.1 w) (g := mkF m pc Ls st) rfl (hb K.2.2.1 hd)) G
theorem g_iadd (K : Cx p s m meth c Z own nm bytes maxL ret) (W : Wd p l e R s m args below meth c n0 T h cs ss) {x y : Int32} (hd : decode bytes pc = .ok (.iadd, 1)) (hp : pc + 1 = pc') (G : Go p e below s n0 Q rc rs T (mkF m pc' Ls (.int (x + y) :: st))) : Go p e below s n0 Q rc rs T (mkF m pc Ls (.int y :: .int x :: st)) := by
  obtain ⟨_, X, -⟩ := W; subst hp
  exact Go.stp (g' := mkF m (pc + 1) Ls (.int (x + y) :: st)) (fun _ hr => XS.iadd X.here K.1 rfl (hb K.2.2.1 hd) rfl hr) G
theorem g_isub (K : Cx p s m meth c Z own nm bytes maxL ret) (W : Wd p l e R s m args below meth c n0 T h cs ss) {x y : Int32} (hd : decode bytes pc = .ok (.isub, 1)) (hp : pc + 1 = pc') (G : Go p e below s n0 Q rc rs T (mkF m pc' Ls (.int (x - y) :: st))) : Go p e below s n0 Q rc rs T (mkF m pc Ls (.int y :: .int x :: st)) := by
  obtain ⟨_, X, -⟩ := W; subst hp
  exact Go.stp (g' := mkF m (pc + 1) Ls (.int (x - y) :: st)) (fun _ hr => XS.isub X.here K.1 rfl (hb K.2.2.1 hd) rfl hr) G
theorem g_imul (K : Cx p s m meth c Z own nm bytes maxL ret) (W : Wd p l e R s m args below meth c n0 T h cs ss) {x y : Int32} (hd : decode bytes pc = .ok (.imul, 1)) (hp : pc + 1 = pc') (G : Go p e below s n0 Q rc rs T (mkF m pc' Ls (.int (x * y) :: st))) : Go p e below s n0 Q rc rs T (mkF m pc Ls (.int y :: .int x :: st)) := by
  obtain ⟨_, X, -⟩ := W; subst hp
  exact Go.stp (g' := mkF m (pc + 1) Ls (.int (x * y) :: st)) (fun _ hr => XS.imul X.here K.1 rfl (hb K.2.2.1 hd) rfl hr) G
theorem g_iand (K : Cx p s m meth c Z own nm bytes maxL ret) (W : Wd p l e R s m args below meth c n0 T h cs ss) {x y : Int32} (hd : decode bytes pc = .ok (.iand, 1)) (hp : pc + 1 = pc') (G : Go p e below s n0 Q rc rs T (mkF m pc' Ls (.int (x &&& y) :: st))) : Go p e below s n0 Q rc rs T (mkF m pc Ls (.int y :: .int x :: st)) := by
  obtain ⟨_, X, -⟩ := W; subst hp
  exact Go.stp (g' := mkF m (pc + 1) Ls (.int (x &&& y) :: st)) (fun _ hr => XS.iand X.here K.1 rfl (hb K.2.2.1 hd) rfl hr) G
theorem g_ior (K : Cx p s m meth c Z own nm bytes maxL ret) (W : Wd p l e R s m args below meth c n0 T h cs ss) {x y : Int32} (hd : decode bytes pc = .ok (.ior, 1)) (hp : pc + 1 = pc') (G : Go p e below s n0 Q rc rs T (mkF m pc' Ls (.int (x ||| y) :: st))) : Go p e below s n0 Q rc rs T (mkF m pc Ls (.int y :: .int x :: st)) := by
  obtain ⟨_, X, -⟩ := W; subst hp
  exact Go.stp (g' := mkF m (pc + 1) Ls (.int (x ||| y) :: st)) (fun _ hr => XS.ior X.here K.1 rfl (hb K.2.2.1 hd) rfl hr) G
theorem g_ixor (K : Cx p s m meth c Z own nm bytes maxL ret) (W : Wd p l e R s m args below meth c n0 T h cs ss) {x y : Int32} (hd : decode bytes pc = .ok (.ixor, 1)) (hp : pc + 1 = pc') (G : Go p e below s n0 Q rc rs T (mkF m pc' Ls (.int (x ^^^ y) :: st))) : Go p e below s n0 Q rc rs T (mkF m pc Ls (.int y :: .int x :: st)) := by
  obtain ⟨_, X, -⟩ := W; subst hp
  exact Go.stp (g' := mkF m (pc + 1) Ls (.int (x ^^^ y) :: st)) (fun _ hr => XS.ixor X.here K.1 rfl (hb K.2.2.1 hd) rfl hr) G
theorem g_ishl (K : Cx p s m meth c Z own nm bytes maxL ret) (W : Wd p l e R s m args below meth c n0 T h cs ss) {x y : Int32} (hd : decode bytes pc = .ok (.ishl, 1)) (hp : pc + 1 = pc') (G : Go p e below s n0 Q rc rs T (mkF m pc' Ls (.int (x <<< (y &&& 31)) :: st))) : Go p e below s n0 Q rc rs T (mkF m pc Ls (.int y :: .int x :: st)) := by
  obtain ⟨_, X, -⟩ := W; subst hp
  exact Go.stp (g' := mkF m (pc + 1) Ls (.int (x <<< (y &&& 31)) :: st)) (fun _ hr => XS.ishl X.here K.1 rfl (hb K.2.2.1 hd) rfl hr) G
theorem g_ishr (K : Cx p s m meth c Z own nm bytes maxL ret) (W : Wd p l e R s m args below meth c n0 T h cs ss) {x y : Int32} (hd : decode bytes pc = .ok (.ishr, 1)) (hp : pc + 1 = pc') (G : Go p e below s n0 Q rc rs T (mkF m pc' Ls (.int (x >>> (y &&& 31)) :: st))) : Go p e below s n0 Q rc rs T (mkF m pc Ls (.int y :: .int x :: st)) := by
  obtain ⟨_, X, -⟩ := W; subst hp
  exact Go.stp (g' := mkF m (pc + 1) Ls (.int (x >>> (y &&& 31)) :: st)) (fun _ hr => XS.ishr X.here K.1 rfl (hb K.2.2.1 hd) rfl hr) G
theorem g_iushr (K : Cx p s m meth c Z own nm bytes maxL ret) (W : Wd p l e R s m args below meth c n0 T h cs ss) {x y : Int32} (hd : decode bytes pc = .ok (.iushr, 1)) (hp : pc + 1 = pc') (G : Go p e below s n0 Q rc rs T (mkF m pc' Ls (.int ((x.toUInt32 >>> (y &&& 31).toUInt32).toInt32) :: st))) : Go p e below s n0 Q rc rs T (mkF m pc Ls (.int y :: .int x :: st)) := by
  obtain ⟨_, X, -⟩ := W; subst hp
  exact Go.stp (g' := mkF m (pc + 1) Ls (.int ((x.toUInt32 >>> (y &&& 31).toUInt32).toInt32) :: st)) (fun _ hr => XS.iushr X.here K.1 rfl (hb K.2.2.1 hd) rfl hr) G
theorem g_idiv (K : Cx p s m meth c Z own nm bytes maxL ret) (W : Wd p l e R s m args below meth c n0 T h cs ss) {x y : Int32} (hy : y ≠ 0) (hd : decode bytes pc = .ok (.idiv, 1)) (hp : pc + 1 = pc') (G : Go p e below s n0 Q rc rs T (mkF m pc' Ls (.int (x / y) :: st))) : Go p e below s n0 Q rc rs T (mkF m pc Ls (.int y :: .int x :: st)) := by
  obtain ⟨_, X, -⟩ := W; subst hp
  exact Go.stp (g' := mkF m (pc + 1) Ls (.int (x / y) :: st)) (fun _ hr => XS.idiv X.here K.1 rfl (hb K.2.2.1 hd) rfl hy hr) G
theorem g_irem (K : Cx p s m meth c Z own nm bytes maxL ret) (W : Wd p l e R s m args below meth c n0 T h cs ss) {x y : Int32} (hy : y ≠ 0) (hd : decode bytes pc = .ok (.irem, 1)) (hp : pc + 1 = pc') (G : Go p e below s n0 Q rc rs T (mkF m pc' Ls (.int (x % y) :: st))) : Go p e below s n0 Q rc rs T (mkF m pc Ls (.int y :: .int x :: st)) := by
  obtain ⟨_, X, -⟩ := W; subst hp
  exact Go.stp (g' := mkF m (pc + 1) Ls (.int (x % y) :: st)) (fun _ hr => iremM X K.1 rfl (hb K.2.2.1 hd) rfl hy hr) G
theorem g_ladd (K : Cx p s m meth c Z own nm bytes maxL ret) (W : Wd p l e R s m args below meth c n0 T h cs ss) {x y : Int64} (hd : decode bytes pc = .ok (.ladd, 1)) (hp : pc + 1 = pc') (G : Go p e below s n0 Q rc rs T (mkF m pc' Ls (.long (x + y) :: st))) : Go p e below s n0 Q rc rs T (mkF m pc Ls (.long y :: .long x :: st)) := by
  obtain ⟨_, X, -⟩ := W; subst hp
  exact Go.stp (g' := mkF m (pc + 1) Ls (.long (x + y) :: st)) (fun _ hr => XS.ladd X.here K.1 rfl (hb K.2.2.1 hd) rfl hr) G
theorem g_lsub (K : Cx p s m meth c Z own nm bytes maxL ret) (W : Wd p l e R s m args below meth c n0 T h cs ss) {x y : Int64} (hd : decode bytes pc = .ok (.lsub, 1)) (hp : pc + 1 = pc') (G : Go p e below s n0 Q rc rs T (mkF m pc' Ls (.long (x - y) :: st))) : Go p e below s n0 Q rc rs T (mkF m pc Ls (.long y :: .long x :: st)) := by
  obtain ⟨_, X, -⟩ := W; subst hp
  exact Go.stp (g' := mkF m (pc + 1) Ls (.long (x - y) :: st)) (fun _ hr => XS.lsub X.here K.1 rfl (hb K.2.2.1 hd) rfl hr) G
theorem g_lmul (K : Cx p s m meth c Z own nm bytes maxL ret) (W : Wd p l e R s m args below meth c n0 T h cs ss) {x y : Int64} (hd : decode bytes pc = .ok (.lmul, 1)) (hp : pc + 1 = pc') (G : Go p e below s n0 Q rc rs T (mkF m pc' Ls (.long (x * y) :: st))) : Go p e below s n0 Q rc rs T (mkF m pc Ls (.long y :: .long x :: st)) := by
  obtain ⟨_, X, -⟩ := W; subst hp
  exact Go.stp (g' := mkF m (pc + 1) Ls (.long (x * y) :: st)) (fun _ hr => XS.lmul X.here K.1 rfl (hb K.2.2.1 hd) rfl hr) G
theorem g_land (K : Cx p s m meth c Z own nm bytes maxL ret) (W : Wd p l e R s m args below meth c n0 T h cs ss) {x y : Int64} (hd : decode bytes pc = .ok (.land, 1)) (hp : pc + 1 = pc') (G : Go p e below s n0 Q rc rs T (mkF m pc' Ls (.long (x &&& y) :: st))) : Go p e below s n0 Q rc rs T (mkF m pc Ls (.long y :: .long x :: st)) := by
  obtain ⟨_, X, -⟩ := W; subst hp
  exact Go.stp (g' := mkF m (pc + 1) Ls (.long (x &&& y) :: st)) (fun _ hr => XS.land X.here K.1 rfl (hb K.2.2.1 hd) rfl hr) G
theorem g_lor (K : Cx p s m meth c Z own nm bytes maxL ret) (W : Wd p l e R s m args below meth c n0 T h cs ss) {x y : Int64} (hd : decode bytes pc = .ok (.lor, 1)) (hp : pc + 1 = pc') (G : Go p e below s n0 Q rc rs T (mkF m pc' Ls (.long (x ||| y) :: st))) : Go p e below s n0 Q rc rs T (mkF m pc Ls (.long y :: .long x :: st)) := by
  obtain ⟨_, X, -⟩ := W; subst hp
  exact Go.stp (g' := mkF m (pc + 1) Ls (.long (x ||| y) :: st)) (fun _ hr => XS.lor X.here K.1 rfl (hb K.2.2.1 hd) rfl hr) G
theorem g_lxor (K : Cx p s m meth c Z own nm bytes maxL ret) (W : Wd p l e R s m args below meth c n0 T h cs ss) {x y : Int64} (hd : decode bytes pc = .ok (.lxor, 1)) (hp : pc + 1 = pc') (G : Go p e below s n0 Q rc rs T (mkF m pc' Ls (.long (x ^^^ y) :: st))) : Go p e below s n0 Q rc rs T (mkF m pc Ls (.long y :: .long x :: st)) := by
  obtain ⟨_, X, -⟩ := W; subst hp
  exact Go.stp (g' := mkF m (pc + 1) Ls (.long (x ^^^ y) :: st)) (fun _ hr => XS.lxor X.here K.1 rfl (hb K.2.2.1 hd) rfl hr) G
theorem g_lshl (K : Cx p s m meth c Z own nm bytes maxL ret) (W : Wd p l e R s m args below meth c n0 T h cs ss) {x : Int64} {y : Int32} (hd : decode bytes pc = .ok (.lshl, 1)) (hp : pc + 1 = pc') (G : Go p e below s n0 Q rc rs T (mkF m pc' Ls (.long (x <<< (y &&& 0x3f).toInt64) :: st))) : Go p e below s n0 Q rc rs T (mkF m pc Ls (.int y :: .long x :: st)) := by
  obtain ⟨_, X, -⟩ := W; subst hp
  exact Go.stp (g' := mkF m (pc + 1) Ls (.long (x <<< (y &&& 0x3f).toInt64) :: st)) (fun _ hr => XS.lshl X.here K.1 rfl (hb K.2.2.1 hd) rfl hr) G
theorem g_lshr (K : Cx p s m meth c Z own nm bytes maxL ret) (W : Wd p l e R s m args below meth c n0 T h cs ss) {x : Int64} {y : Int32} (hd : decode bytes pc = .ok (.lshr, 1)) (hp : pc + 1 = pc') (G : Go p e below s n0 Q rc rs T (mkF m pc' Ls (.long (x >>> (y &&& 0x3f).toInt64) :: st))) : Go p e below s n0 Q rc rs T (mkF m pc Ls (.int y :: .long x :: st)) := by
  obtain ⟨_, X, -⟩ := W; subst hp
  exact Go.stp (g' := mkF m (pc + 1) Ls (.long (x >>> (y &&& 0x3f).toInt64) :: st)) (fun _ hr => XS.lshr X.here K.1 rfl (hb K.2.2.1 hd) rfl hr) G
theorem g_lushr (K : Cx p s m meth c Z own nm bytes maxL ret) (W : Wd p l e R s m args below meth c n0 T h cs ss) {x : Int64} {y : Int32} (hd : decode bytes pc = .ok (.lushr, 1)) (hp : pc + 1 = pc') (G : Go p e below s n0 Q rc rs T (mkF m pc' Ls (.long ((x.toUInt64 >>> (y &&& 0x3f).toInt64.toUInt64).toInt64) :: st))) : Go p e below s n0 Q rc rs T (mkF m pc Ls (.int y :: .long x :: st)) := by
  obtain ⟨_, X, -⟩ := W; subst hp
  exact Go.stp (g' := mkF m (pc + 1) Ls (.long ((x.toUInt64 >>> (y &&& 0x3f).toInt64.toUInt64).toInt64) :: st)) (fun _ hr => XS.lushr X.here K.1 rfl (hb K.2.2.1 hd) rfl hr) G
theorem g_ldiv (K : Cx p s m meth c Z own nm bytes maxL ret) (W : Wd p l e R s m args below meth c n0 T h cs ss) {x y : Int64} (hy : y ≠ 0) (hd : decode bytes pc = .ok (.ldiv, 1)) (hp : pc + 1 = pc') (G : Go p e below s n0 Q rc rs T (mkF m pc' Ls (.long (x / y) :: st))) : Go p e below s n0 Q rc rs T (mkF m pc Ls (.long y :: .long x :: st)) := by
  obtain ⟨_, X, -⟩ := W; subst hp
  exact Go.stp (g' := mkF m (pc + 1) Ls (.long (x / y) :: st)) (fun _ hr => XS.ldiv X.here K.1 rfl (hb K.2.2.1 hd) rfl hy hr) G
theorem g_lrem (K : Cx p s m meth c Z own nm bytes maxL ret) (W : Wd p l e R s m args below meth c n0 T h cs ss) {x y : Int64} (hy : y ≠ 0) (hd : decode bytes pc = .ok (.lrem, 1)) (hp : pc + 1 = pc') (G : Go p e below s n0 Q rc rs T (mkF m pc' Ls (.long (x - (x / y) * y) :: st))) : Go p e below s n0 Q rc rs T (mkF m pc Ls (.long y :: .long x :: st)) := by
  obtain ⟨_, X, -⟩ := W; subst hp
  exact Go.stp (g' := mkF m (pc + 1) Ls (.long (x - (x / y) * y) :: st)) (fun _ hr => XS.lrem X.here K.1 rfl (hb K.2.2.1 hd) rfl hy hr) G
theorem g_ineg (K : Cx p s m meth c Z own nm bytes maxL ret) (W : Wd p l e R s m args below meth c n0 T h cs ss) {x : Int32} (hd : decode bytes pc = .ok (.ineg, 1)) (hp : pc + 1 = pc') (G : Go p e below s n0 Q rc rs T (mkF m pc' Ls (.int (-x) :: st))) : Go p e below s n0 Q rc rs T (mkF m pc Ls (.int x :: st)) := by
  obtain ⟨_, X, -⟩ := W; subst hp
  exact Go.stp (g' := mkF m (pc + 1) Ls (.int (-x) :: st)) (fun _ hr => XS.ineg X.here K.1 rfl (hb K.2.2.1 hd) rfl hr) G
theorem g_i2b (K : Cx p s m meth c Z own nm bytes maxL ret) (W : Wd p l e R s m args below meth c n0 T h cs ss) {x : Int32} (hd : decode bytes pc = .ok (.i2b, 1)) (hp : pc + 1 = pc') (G : Go p e below s n0 Q rc rs T (mkF m pc' Ls (.int (x.toInt8.toInt32) :: st))) : Go p e below s n0 Q rc rs T (mkF m pc Ls (.int x :: st)) := by
  obtain ⟨_, X, -⟩ := W; subst hp
  exact Go.stp (g' := mkF m (pc + 1) Ls (.int (x.toInt8.toInt32) :: st)) (fun _ hr => XS.i2b X.here K.1 rfl (hb K.2.2.1 hd) rfl hr) G
theorem g_i2c (K : Cx p s m meth c Z own nm bytes maxL ret) (W : Wd p l e R s m args below meth c n0 T h cs ss) {x : Int32} (hd : decode bytes pc = .ok (.i2c, 1)) (hp : pc + 1 = pc') (G : Go p e below s n0 Q rc rs T (mkF m pc' Ls (.int (x.toUInt32.toUInt16.toUInt32.toInt32) :: st))) : Go p e below s n0 Q rc rs T (mkF m pc Ls (.int x :: st)) := by
  obtain ⟨_, X, -⟩ := W; subst hp
  exact Go.stp (g' := mkF m (pc + 1) Ls (.int (x.toUInt32.toUInt16.toUInt32.toInt32) :: st)) (fun _ hr => XS.i2c X.here K.1 rfl (hb K.2.2.1 hd) rfl hr) G
theorem g_i2s (K : Cx p s m meth c Z own nm bytes maxL ret) (W : Wd p l e R s m args below meth c n0 T h cs ss) {x : Int32} (hd : decode bytes pc = .ok (.i2s, 1)) (hp : pc + 1 = pc') (G : Go p e below s n0 Q rc rs T (mkF m pc' Ls (.int (x.toInt16.toInt32) :: st))) : Go p e below s n0 Q rc rs T (mkF m pc Ls (.int x :: st)) := by
  obtain ⟨_, X, -⟩ := W; subst hp
  exact Go.stp (g' := mkF m (pc + 1) Ls (.int (x.toInt16.toInt32) :: st)) (fun _ hr => XS.i2s X.here K.1 rfl (hb K.2.2.1 hd) rfl hr) G
theorem g_i2l (K : Cx p s m meth c Z own nm bytes maxL ret) (W : Wd p l e R s m args below meth c n0 T h cs ss) {x : Int32} (hd : decode bytes pc = .ok (.i2l, 1)) (hp : pc + 1 = pc') (G : Go p e below s n0 Q rc rs T (mkF m pc' Ls (.long (x.toInt64) :: st))) : Go p e below s n0 Q rc rs T (mkF m pc Ls (.int x :: st)) := by
  obtain ⟨_, X, -⟩ := W; subst hp
  exact Go.stp (g' := mkF m (pc + 1) Ls (.long (x.toInt64) :: st)) (fun _ hr => XS.i2l X.here K.1 rfl (hb K.2.2.1 hd) rfl hr) G
theorem g_l2i (K : Cx p s m meth c Z own nm bytes maxL ret) (W : Wd p l e R s m args below meth c n0 T h cs ss) {x : Int64} (hd : decode bytes pc = .ok (.l2i, 1)) (hp : pc + 1 = pc') (G : Go p e below s n0 Q rc rs T (mkF m pc' Ls (.int (x.toInt32) :: st))) : Go p e below s n0 Q rc rs T (mkF m pc Ls (.long x :: st)) := by
  obtain ⟨_, X, -⟩ := W; subst hp
  exact Go.stp (g' := mkF m (pc + 1) Ls (.int (x.toInt32) :: st)) (fun _ hr => XS.l2i X.here K.1 rfl (hb K.2.2.1 hd) rfl hr) G
theorem g_lneg (K : Cx p s m meth c Z own nm bytes maxL ret) (W : Wd p l e R s m args below meth c n0 T h cs ss) {x : Int64} (hd : decode bytes pc = .ok (.lneg, 1)) (hp : pc + 1 = pc') (G : Go p e below s n0 Q rc rs T (mkF m pc' Ls (.long (-x) :: st))) : Go p e below s n0 Q rc rs T (mkF m pc Ls (.long x :: st)) := by
  obtain ⟨_, X, -⟩ := W; subst hp
  exact Go.stp (g' := mkF m (pc + 1) Ls (.long (-x) :: st)) (fun _ hr => XS.lneg X.here K.1 rfl (hb K.2.2.1 hd) rfl hr) G
theorem g_iinc (K : Cx p s m meth c Z own nm bytes maxL ret) (W : Wd p l e R s m args below meth c n0 T h cs ss) {k : Nat} {cst : Int} {x : Int32} (hd : decode bytes pc = .ok (.iinc k cst, 3)) (hl : Ls[k]? = some (.val (.int x))) (hl' : storeLocals Ls k (.int (x + Int32.ofInt cst)) = some Ls') (hp : pc + 3 = pc') (G : Go p e below s n0 Q rc rs T (mkF m pc' Ls' st)) : Go p e below s n0 Q rc rs T (mkF m pc Ls st) := by
  obtain ⟨_, X, -⟩ := W; subst hp
  exact Go.stp (g' := mkF m (pc + 3) Ls' st) (fun _ hr => XS.iinc X.here K.1 rfl (hb K.2.2.1 hd) hl hl' hr) G
theorem g_dup (K : Cx p s m meth c Z own nm bytes maxL ret) (W : Wd p l e R s m args below meth c n0 T h cs ss) {x : Value} (hd : decode bytes pc = .ok (.dup, 1)) (hc : x.category = 1) (hp : pc + 1 = pc') (G : Go p e below s n0 Q rc rs T (mkF m pc' Ls (x :: x :: st))) : Go p e below s n0 Q rc rs T (mkF m pc Ls (x :: st)) := by
  obtain ⟨_, X, -⟩ := W; subst hp
  exact Go.stp (g' := mkF m (pc + 1) Ls (x :: x :: st)) (fun _ hr => XS.dup X.here K.1 rfl (hb K.2.2.1 hd) rfl hc hr) G
theorem g_pop (K : Cx p s m meth c Z own nm bytes maxL ret) (W : Wd p l e R s m args below meth c n0 T h cs ss) {x : Value} (hd : decode bytes pc = .ok (.pop, 1)) (hc : x.category = 1) (hp : pc + 1 = pc') (G : Go p e below s n0 Q rc rs T (mkF m pc' Ls st)) : Go p e below s n0 Q rc rs T (mkF m pc Ls (x :: st)) := by
  obtain ⟨_, X, -⟩ := W; subst hp
  exact Go.stp (g' := mkF m (pc + 1) Ls st) (fun _ hr => XS.pop X.here K.1 rfl (hb K.2.2.1 hd) rfl hc hr) G
theorem g_dup_x1 (K : Cx p s m meth c Z own nm bytes maxL ret) (W : Wd p l e R s m args below meth c n0 T h cs ss) {x y : Value} (hd : decode bytes pc = .ok (.dup_x1, 1)) (hc : x.category = 1) (hc2 : y.category = 1) (hp : pc + 1 = pc') (G : Go p e below s n0 Q rc rs T (mkF m pc' Ls (x :: y :: x :: st))) : Go p e below s n0 Q rc rs T (mkF m pc Ls (x :: y :: st)) := by
  obtain ⟨_, X, -⟩ := W; subst hp
  exact Go.stp (g' := mkF m (pc + 1) Ls (x :: y :: x :: st)) (fun _ hr => XS.dupX1 X.here K.1 rfl (hb K.2.2.1 hd) rfl hc hc2 hr) G
theorem g_dup2 (K : Cx p s m meth c Z own nm bytes maxL ret) (W : Wd p l e R s m args below meth c n0 T h cs ss) {x y : Value} (hd : decode bytes pc = .ok (.dup2, 1)) (hc : x.category = 1) (hc2 : y.category = 1) (hp : pc + 1 = pc') (G : Go p e below s n0 Q rc rs T (mkF m pc' Ls (x :: y :: x :: y :: st))) : Go p e below s n0 Q rc rs T (mkF m pc Ls (x :: y :: st)) := by
  obtain ⟨_, X, -⟩ := W; subst hp
  exact Go.stp (g' := mkF m (pc + 1) Ls (x :: y :: x :: y :: st)) (fun _ hr => XT.dup2 X.here K.1 rfl (hb K.2.2.1 hd) rfl hc hc2 hr) G
theorem g_dup2L (K : Cx p s m meth c Z own nm bytes maxL ret) (W : Wd p l e R s m args below meth c n0 T h cs ss) {x : Int64} (hd : decode bytes pc = .ok (.dup2, 1)) (hp : pc + 1 = pc') (G : Go p e below s n0 Q rc rs T (mkF m pc' Ls (.long x :: .long x :: st))) : Go p e below s n0 Q rc rs T (mkF m pc Ls (.long x :: st)) := by
  obtain ⟨_, X, -⟩ := W; subst hp
  exact Go.stp (g' := mkF m (pc + 1) Ls (.long x :: .long x :: st)) (fun _ hr => XT.dup2L X.here K.1 rfl (hb K.2.2.1 hd) rfl hr) G
theorem own_jmp {o : Int} (ht : (pc : Int) + o = (pt : Int)) : 0 ≤ (pc : Int) + o ∧ ((pc : Int) + o).toNat = pt := by omega
theorem g_goto (K : Cx p s m meth c Z own nm bytes maxL ret) (W : Wd p l e R s m args below meth c n0 T h cs ss) {o : Int} (hd : decode bytes pc = .ok (.goto o, 3)) (ht : (pc : Int) + o = (pt : Int)) (G : Go p e below s n0 Q rc rs T (mkF m pt Ls st)) : Go p e below s n0 Q rc rs T (mkF m pc Ls st) := by
  obtain ⟨_, X, -⟩ := W
  exact Go.stp (g' := mkF m pt Ls st) (fun _ hr => XS.goto X.here K.1 rfl (pc0 := pc) rfl (hb K.2.2.1 hd) (own_jmp ht).1 (own_jmp ht).2 hr) G
theorem g_icmp_eq (K : Cx p s m meth c Z own nm bytes maxL ret) (W : Wd p l e R s m args below meth c n0 T h cs ss) {x y : Int32} {o : Int} (hd : decode bytes pc = .ok (.if_icmp .eq o, 3)) (ht : (pc : Int) + o = (pt : Int)) (hp : pc + 3 = pf) (Gp : x = y → Go p e below s n0 Q rc rs T (mkF m pt Ls st)) (Gn : ¬ (x = y) → Go p e below s n0 Q rc rs T (mkF m pf Ls st)) : Go p e below s n0 Q rc rs T (mkF m pc Ls (.int y :: .int x :: st)) := by
  obtain ⟨_, X, -⟩ := W; subst hp
  by_cases q : x = y
  · exact Go.stp (g' := mkF m pt Ls st) (fun _ hr => XS.icmpYes X.here K.1 rfl (pc0 := pc) rfl (hb K.2.2.1 hd) rfl (Jvm.Free.XT.ii_eq_t q) (own_jmp ht).1 (own_jmp ht).2 hr) (Gp q)
  · exact Go.stp (g' := mkF m (pc + 3) Ls st) (fun _ hr => XS.icmpNo X.here K.1 rfl (hb K.2.2.1 hd) rfl (Jvm.Free.XT.ii_eq_f q) hr) (Gn q)
theorem g_if_eq (K : Cx p s m meth c Z own nm bytes maxL ret) (W : Wd p l e R s m args below meth c n0 T h cs ss) {x : Int32} {o : Int} (hd : decode bytes pc = .ok (.ifCond .eq o, 3)) (ht : (pc : Int) + o = (pt : Int)) (hp : pc + 3 = pf) (Gp : x = 0 → Go p e below s n0 Q rc rs T (mkF m pt Ls st)) (Gn : ¬ (x = 0) → Go p e below s n0 Q rc rs T (mkF m pf Ls st)) : Go p e below s n0 Q rc rs T (mkF m pc Ls (.int x :: st)) := by
  obtain ⟨_, X, -⟩ := W; subst hp
  by_cases q : x = 0
  · exact Go.stp (g' := mkF m pt Ls st) (fun _ hr => XS.ifYes X.here K.1 rfl (pc0 := pc) rfl (hb K.2.2.1 hd) rfl (Jvm.Free.XT.i0_eq_t q) (own_jmp ht).1 (own_jmp ht).2 hr) (Gp q)
  · exact Go.stp (g' := mkF m (pc + 3) Ls st) (fun _ hr => XS.ifNo X.here K.1 rfl (hb K.2.2.1 hd) rfl (Jvm.Free.XT.i0_eq_f q) hr) (Gn q)
theorem g_lcmp_eq (K : Cx p s m meth c Z own nm bytes maxL ret) (W : Wd p l e R s m args below meth c n0 T h cs ss) {x y : Int64} {o : Int} {pc1 : Nat} (hd0 : decode bytes pc = .ok (.lcmp, 1)) (hp0 : pc + 1 = pc1) (hd : decode bytes pc1 = .ok (.ifCond .eq o, 3)) (ht : (pc1 : Int) + o = (pt : Int)) (hp : pc1 + 3 = pf) (Gp : x = y → Go p e below s n0 Q rc rs T (mkF m pt Ls st)) (Gn : ¬ (x = y) → Go p e below s n0 Q rc rs T (mkF m pf Ls st)) : Go p e below s n0 Q rc rs T (mkF m pc Ls (.long y :: .long x :: st)) := by
  obtain ⟨_, X, -⟩ := W; subst hp hp0
  refine Go.stp (g' := mkF m (pc + 1) Ls (.int (Jvm.Free.XT.cmpL x y) :: st)) (fun _ hr => XS.lcmp X.here K.1 rfl (hb K.2.2.1 hd0) rfl hr) ?_
  by_cases q : x = y
  · exact Go.stp (g' := mkF m pt Ls st) (fun _ hr => XS.ifYes X.here K.1 rfl (pc0 := pc + 1) rfl (hb K.2.2.1 hd) rfl (Jvm.Free.XT.ll_eq_t q) (own_jmp ht).1 (own_jmp ht).2 hr) (Gp q)
  · exact Go.stp (g' := mkF m (pc + 1 + 3) Ls st) (fun _ hr => XS.ifNo X.here K.1 rfl (hb K.2.2.1 hd) rfl (Jvm.Free.XT.ll_eq_f q) hr) (Gn q)
theorem g_icmp_ne (K : Cx p s m meth c Z own nm bytes maxL ret) (W : Wd p l e R s m args below meth c n0 T h cs ss) {x y : Int32} {o : Int} (hd : decode bytes pc = .ok (.if_icmp .ne o, 3)) (ht : (pc : Int) + o = (pt : Int)) (hp : pc + 3 = pf) (Gp : x = y → Go p e below s n0 Q rc rs T (mkF m pf Ls st)) (Gn : ¬ (x = y) → Go p e below s n0 Q rc rs T (mkF m pt Ls st)) : Go p e below s n0 Q rc rs T (mkF m pc Ls (.int y :: .int x :: st)) := by
  obtain ⟨_, X, -⟩ := W; subst hp
  by_cases q : x = y
  · exact Go.stp (g' := mkF m (pc + 3) Ls st) (fun _ hr => XS.icmpNo X.here K.1 rfl (hb K.2.2.1 hd) rfl (Jvm.Free.XT.ii_ne_f q) hr) (Gp q)
  · exact Go.stp (g' := mkF m pt Ls st) (fun _ hr => XS.icmpYes X.here K.1 rfl (pc0 := pc) rfl (hb K.2.2.1 hd) rfl (Jvm.Free.XT.ii_ne_t q) (own_jmp ht).1 (own_jmp ht).2 hr) (Gn q)
theorem g_if_ne (K : Cx p s m meth c Z own nm bytes maxL ret) (W : Wd p l e R s m args below meth c n0 T h cs ss) {x : Int32} {o : Int} (hd : decode bytes pc = .ok (.ifCond .ne o, 3)) (ht : (pc : Int) + o = (pt : Int)) (hp : pc + 3 = pf) (Gp : x = 0 → Go p e below s n0 Q rc rs T (mkF m pf Ls st)) (Gn : ¬ (x = 0) → Go p e below s n0 Q rc rs T (mkF m pt Ls st)) : Go p e below s n0 Q rc rs T (mkF m pc Ls (.int x :: st)) := by
  obtain ⟨_, X, -⟩ := W; subst hp
  by_cases q : x = 0
  · exact Go.stp (g' := mkF m (pc + 3) Ls st) (fun _ hr => XS.ifNo X.here K.1 rfl (hb K.2.2.1 hd) rfl (Jvm.Free.XT.i0_ne_f q) hr) (Gp q)
  · exact Go.stp (g' := mkF m pt Ls st) (fun _ hr => XS.ifYes X.here K.1 rfl (pc0 := pc) rfl (hb K.2.2.1 hd) rfl (Jvm.Free.XT.i0_ne_t q) (own_jmp ht).1 (own_jmp ht).2 hr) (Gn q)
theorem g_lcmp_ne (K : Cx p s m meth c Z own nm bytes maxL ret) (W : Wd p l e R s m args below meth c n0 T h cs ss) {x y : Int64} {o : Int} {pc1 : Nat} (hd0 : decode bytes pc = .ok (.lcmp, 1)) (hp0 : pc + 1 = pc1) (hd : decode bytes pc1 = .ok (.ifCond .ne o, 3)) (ht : (pc1 : Int) + o = (pt : Int)) (hp : pc1 + 3 = pf) (Gp : x = y → Go p e below s n0 Q rc rs T (mkF m pf Ls st)) (Gn : ¬ (x = y) → Go p e below s n0 Q rc rs T (mkF m pt Ls st)) : Go p e below s n0 Q rc rs T (mkF m pc Ls (.long y :: .long x :: st)) := by
  obtain ⟨_, X, -⟩ := W; subst hp hp0
  refine Go.stp (g' := mkF m (pc + 1) Ls (.int (Jvm.Free.XT.cmpL x y) :: st)) (fun _ hr => XS.lcmp X.here K.1 rfl (hb K.2.2.1 hd0) rfl hr) ?_
  by_cases q : x = y
  · exact Go.stp (g' := mkF m (pc + 1 + 3) Ls st) (fun _ hr => XS.ifNo X.here K.1 rfl (hb K.2.2.1 hd) rfl (Jvm.Free.XT.ll_ne_f q) hr) (Gp q)
  · exact Go.stp (g' := mkF m pt Ls st) (fun _ hr => XS.ifYes X.here K.1 rfl (pc0 := pc + 1) rfl (hb K.2.2.1 hd) rfl (Jvm.Free.XT.ll_ne_t q) (own_jmp ht).1 (own_jmp ht).2 hr) (Gn q)
theorem g_icmp_lt (K : Cx p s m meth c Z own nm bytes maxL ret) (W : Wd p l e R s m args below meth c n0 T h cs ss) {x y : Int32} {o : Int} (hd : decode bytes pc = .ok (.if_icmp .lt o, 3)) (ht : (pc : Int) + o = (pt : Int)) (hp : pc + 3 = pf) (Gp : x < y → Go p e below s n0 Q rc rs T (mkF m pt Ls st)) (Gn : ¬ (x < y) → Go p e below s n0 Q rc rs T (mkF m pf Ls st)) : Go p e below s n0 Q rc rs T (mkF m pc Ls (.int y :: .int x :: st)) := by
  obtain ⟨_, X, -⟩ := W; subst hp
  by_cases q : x < y
  · exact Go.stp (g' := mkF m pt Ls st) (fun _ hr => XS.icmpYes X.here K.1 rfl (pc0 := pc) rfl (hb K.2.2.1 hd) rfl (Jvm.Free.XT.ii_lt_t q) (own_jmp ht).1 (own_jmp ht).2 hr) (Gp q)
  · exact Go.stp (g' := mkF m (pc + 3) Ls st) (fun _ hr => XS.icmpNo X.here K.1 rfl (hb K.2.2.1 hd) rfl (Jvm.Free.XT.ii_lt_f q) hr) (Gn q)
theorem g_if_lt (K : Cx p s m meth c Z own nm bytes maxL ret) (W : Wd p l e R s m args below meth c n0 T h cs ss) {x : Int32} {o : Int} (hd : decode bytes pc = .ok (.ifCond .lt o, 3)) (ht : (pc : Int) + o = (pt : Int)) (hp : pc + 3 = pf) (Gp : x < 0 → Go p e below s n0 Q rc rs T (mkF m pt Ls st)) (Gn : ¬ (x < 0) → Go p e below s n0 Q rc rs T (mkF m pf Ls st)) : Go p e below s n0 Q rc rs T (mkF m pc Ls (.int x :: st)) := by
  obtain ⟨_, X, -⟩ := W; subst hp
  by_cases q : x < 0
  · exact Go.stp (g' := mkF m pt Ls st) (fun _ hr => XS.ifYes X.here K.1 rfl (pc0 := pc) rfl (hb K.2.2.1 hd) rfl (Jvm.Free.XT.i0_lt_t q) (own_jmp ht).1 (own_jmp ht).2 hr) (Gp q)
  · exact Go.stp (g' := mkF m (pc + 3) Ls st) (fun _ hr => XS.ifNo X.here K.1 rfl (hb K.2.2.1 hd) rfl (Jvm.Free.XT.i0_lt_f q) hr) (Gn q)
theorem g_lcmp_lt (K : Cx p s m meth c Z own nm bytes maxL ret) (W : Wd p l e R s m args below meth c n0 T h cs ss) {x y : Int64} {o : Int} {pc1 : Nat} (hd0 : decode bytes pc = .ok (.lcmp, 1)) (hp0 : pc + 1 = pc1) (hd : decode bytes pc1 = .ok (.ifCond .lt o, 3)) (ht : (pc1 : Int) + o = (pt : Int)) (hp : pc1 + 3 = pf) (Gp : x < y → Go p e below s n0 Q rc rs T (mkF m pt Ls st)) (Gn : ¬ (x < y) → Go p e below s n0 Q rc rs T (mkF m pf Ls st)) : Go p e below s n0 Q rc rs T (mkF m pc Ls (.long y :: .long x :: st)) := by
  obtain ⟨_, X, -⟩ := W; subst hp hp0
  refine Go.stp (g' := mkF m (pc + 1) Ls (.int (Jvm.Free.XT.cmpL x y) :: st)) (fun _ hr => XS.lcmp X.here K.1 rfl (hb K.2.2.1 hd0) rfl hr) ?_
  by_cases q : x < y
  · exact Go.stp (g' := mkF m pt Ls st) (fun _ hr => XS.ifYes X.here K.1 rfl (pc0 := pc + 1) rfl (hb K.2.2.1 hd) rfl (Jvm.Free.XT.ll_lt_t q) (own_jmp ht).1 (own_jmp ht).2 hr) (Gp q)
  · exact Go.stp (g' := mkF m (pc + 1 + 3) Ls st) (fun _ hr => XS.ifNo X.here K.1 rfl (hb K.2.2.1 hd) rfl (Jvm.Free.XT.ll_lt_f q) hr) (Gn q)
theorem g_icmp_ge (K : Cx p s m meth c Z own nm bytes maxL ret) (W : Wd p l e R s m args below meth c n0 T h cs ss) {x y : Int32} {o : Int} (hd : decode bytes pc = .ok (.if_icmp .ge o, 3)) (ht : (pc : Int) + o = (pt : Int)) (hp : pc + 3 = pf) (Gp : x < y → Go p e below s n0 Q rc rs T (mkF m pf Ls st)) (Gn : ¬ (x < y) → Go p e below s n0 Q rc rs T (mkF m pt Ls st)) : Go p e below s n0 Q rc rs T (mkF m pc Ls (.int y :: .int x :: st)) := by
  obtain ⟨_, X, -⟩ := W; subst hp
  by_cases q : x < y
  · exact Go.stp (g' := mkF m (pc + 3) Ls st) (fun _ hr => XS.icmpNo X.here K.1 rfl (hb K.2.2.1 hd) rfl (Jvm.Free.XT.ii_ge_f q) hr) (Gp q)
  · exact Go.stp (g' := mkF m pt Ls st) (fun _ hr => XS.icmpYes X.here K.1 rfl (pc0 := pc) rfl (hb K.2.2.1 hd) rfl (Jvm.Free.XT.ii_ge_t q) (own_jmp ht).1 (own_jmp ht).2 hr) (Gn q)
theorem g_if_ge (K : Cx p s m meth c Z own nm bytes maxL ret) (W : Wd p l e R s m args below meth c n0 T h cs ss) {x : Int32} {o : Int} (hd : decode bytes pc = .ok (.ifCond .ge o, 3)) (ht : (pc : Int) + o = (pt : Int)) (hp : pc + 3 = pf) (Gp : x < 0 → Go p e below s n0 Q rc rs T (mkF m pf Ls st)) (Gn : ¬ (x < 0) → Go p e below s n0 Q rc rs T (mkF m pt Ls st)) : Go p e below s n0 Q rc rs T (mkF m pc Ls (.int x :: st)) := by
  obtain ⟨_, X, -⟩ := W; subst hp
  by_cases q : x < 0
  · exact Go.stp (g' := mkF m (pc + 3) Ls st) (fun _ hr => XS.ifNo X.here K.1 rfl (hb K.2.2.1 hd) rfl (Jvm.Free.XT.i0_ge_f q) hr) (Gp q)
  · exact Go.stp (g' := mkF m pt Ls st) (fun _ hr => XS.ifYes X.here K.1 rfl (pc0 := pc) rfl (hb K.2.2.1 hd) rfl (Jvm.Free.XT.i0_ge_t q) (own_jmp ht).1 (own_jmp ht).2 hr) (Gn q)
theorem g_lcmp_ge (K : Cx p s m meth c Z own nm bytes maxL ret) (W : Wd p l e R s m args below meth c n0 T h cs ss) {x y : Int64} {o : Int} {pc1 : Nat} (hd0 : decode bytes pc = .ok (.lcmp, 1)) (hp0 : pc + 1 = pc1) (hd : decode bytes pc1 = .ok (.ifCond .ge o, 3)) (ht : (pc1 : Int) + o = (pt : Int)) (hp : pc1 + 3 = pf) (Gp : x < y → Go p e below s n0 Q rc rs T (mkF m pf Ls st)) (Gn : ¬ (x < y) → Go p e below s n0 Q rc rs T (mkF m pt Ls st)) : Go p e below s n0 Q rc rs T (mkF m pc Ls (.long y :: .long x :: st)) := by
  obtain ⟨_, X, -⟩ := W; subst hp hp0
  refine Go.stp (g' := mkF m (pc + 1) Ls (.int (Jvm.Free.XT.cmpL x y) :: st)) (fun _ hr => XS.lcmp X.here K.1 rfl (hb K.2.2.1 hd0) rfl hr) ?_
  by_cases q : x < y
  · exact Go.stp (g' := mkF m (pc + 1 + 3) Ls st) (fun _ hr => XS.ifNo X.here K.1 rfl (hb K.2.2.1 hd) rfl (Jvm.Free.XT.ll_ge_f q) hr) (Gp q)
  · exact Go.stp (g' := mkF m pt Ls st) (fun _ hr => XS.ifYes X.here K.1 rfl (pc0 := pc + 1) rfl (hb K.2.2.1 hd) rfl (Jvm.Free.XT.ll_ge_t q) (own_jmp ht).1 (own_jmp ht).2 hr) (Gn q)
theorem g_icmp_gt (K : Cx p s m meth c Z own nm bytes maxL ret) (W : Wd p l e R s m args below meth c n0 T h cs ss) {x y : Int32} {o : Int} (hd : decode bytes pc = .ok (.if_icmp .gt o, 3)) (ht : (pc : Int) + o = (pt : Int)) (hp : pc + 3 = pf) (Gp : y < x → Go p e below s n0 Q rc rs T (mkF m pt Ls st)) (Gn : ¬ (y < x) → Go p e below s n0 Q rc rs T (mkF m pf Ls st)) : Go p e below s n0 Q rc rs T (mkF m pc Ls (.int y :: .int x :: st)) := by
  obtain ⟨_, X, -⟩ := W; subst hp
  by_cases q : y < x
  · exact Go.stp (g' := mkF m pt Ls st) (fun _ hr => XS.icmpYes X.here K.1 rfl (pc0 := pc) rfl (hb K.2.2.1 hd) rfl (Jvm.Free.XT.ii_gt_t q) (own_jmp ht).1 (own_jmp ht).2 hr) (Gp q)
  · exact Go.stp (g' := mkF m (pc + 3) Ls st) (fun _ hr => XS.icmpNo X.here K.1 rfl (hb K.2.2.1 hd) rfl (Jvm.Free.XT.ii_gt_f q) hr) (Gn q)
theorem g_if_gt (K : Cx p s m meth c Z own nm bytes maxL ret) (W : Wd p l e R s m args below meth c n0 T h cs ss) {x : Int32} {o : Int} (hd : decode bytes pc = .ok (.ifCond .gt o, 3)) (ht : (pc : Int) + o = (pt : Int)) (hp : pc + 3 = pf) (Gp : 0 < x → Go p e below s n0 Q rc rs T (mkF m pt Ls st)) (Gn : ¬ (0 < x) → Go p e below s n0 Q rc rs T (mkF m pf Ls st)) : Go p e below s n0 Q rc rs T (mkF m pc Ls (.int x :: st)) := by
  obtain ⟨_, X, -⟩ := W; subst hp
  by_cases q : 0 < x
  · exact Go.stp (g' := mkF m pt Ls st) (fun _ hr => XS.ifYes X.here K.1 rfl (pc0 := pc) rfl (hb K.2.2.1 hd) rfl (Jvm.Free.XT.i0_gt_t q) (own_jmp ht).1 (own_jmp ht).2 hr) (Gp q)
  · exact Go.stp (g' := mkF m (pc + 3) Ls st) (fun _ hr => XS.ifNo X.here K.1 rfl (hb K.2.2.1 hd) rfl (Jvm.Free.XT.i0_gt_f q) hr) (Gn q)
theorem g_lcmp_gt (K : Cx p s m meth c Z own nm bytes maxL ret) (W : Wd p l e R s m args below meth c n0 T h cs ss) {x y : Int64} {o : Int} {pc1 : Nat} (hd0 : decode bytes pc = .ok (.lcmp, 1)) (hp0 : pc + 1 = pc1) (hd : decode bytes pc1 = .ok (.ifCond .gt o, 3)) (ht : (pc1 : Int) + o = (pt : Int)) (hp : pc1 + 3 = pf) (Gp : y < x → Go p e below s n0 Q rc rs T (mkF m pt Ls st)) (Gn : ¬ (y < x) → Go p e below s n0 Q rc rs T (mkF m pf Ls st)) : Go p e below s n0 Q rc rs T (mkF m pc Ls (.long y :: .long x :: st)) := by
  obtain ⟨_, X, -⟩ := W; subst hp hp0
  refine Go.stp (g' := mkF m (pc + 1) Ls (.int (Jvm.Free.XT.cmpL x y) :: st)) (fun _ hr => XS.lcmp X.here K.1 rfl (hb K.2.2.1 hd0) rfl hr) ?_
  by_cases q : y < x
  · exact Go.stp (g' := mkF m pt Ls st) (fun _ hr => XS.ifYes X.here K.1 rfl (pc0 := pc + 1) rfl (hb K.2.2.1 hd) rfl (Jvm.Free.XT.ll_gt_t q) (own_jmp ht).1 (own_jmp ht).2 hr) (Gp q)
  · exact Go.stp (g' := mkF m (pc + 1 + 3) Ls st) (fun _ hr => XS.ifNo X.here K.1 rfl (hb K.2.2.1 hd) rfl (Jvm.Free.XT.ll_gt_f q) hr) (Gn q)
theorem g_icmp_le (K : Cx p s m meth c Z own nm bytes maxL ret) (W : Wd p l e R s m args below meth c n0 T h cs ss) {x y : Int32} {o : Int} (hd : decode bytes pc = .ok (.if_icmp .le o, 3)) (ht : (pc : Int) + o = (pt : Int)) (hp : pc + 3 = pf) (Gp : y < x → Go p e below s n0 Q rc rs T (mkF m pf Ls st)) (Gn : ¬ (y < x) → Go p e below s n0 Q rc rs T (mkF m pt Ls st)) : Go p e below s n0 Q rc rs T (mkF m pc Ls (.int y :: .int x :: st)) := by
  obtain ⟨_, X, -⟩ := W; subst hp
  by_cases q : y < x
  · exact Go.stp (g' := mkF m (pc + 3) Ls st) (fun _ hr => XS.icmpNo X.here K.1 rfl (hb K.2.2.1 hd) rfl (Jvm.Free.XT.ii_le_f q) hr) (Gp q)
  · exact Go.stp (g' := mkF m pt Ls st) (fun _ hr => XS.icmpYes X.here K.1 rfl (pc0 := pc) rfl (hb K.2.2.1 hd) rfl (Jvm.Free.XT.ii_le_t q) (own_jmp ht).1 (own_jmp ht).2 hr) (Gn q)
theorem g_if_le (K : Cx p s m meth c Z own nm bytes maxL ret) (W : Wd p l e R s m args below meth c n0 T h cs ss) {x : Int32} {o : Int} (hd : decode bytes pc = .ok (.ifCond .le o, 3)) (ht : (pc : Int) + o = (pt : Int)) (hp : pc + 3 = pf) (Gp : 0 < x → Go p e below s n0 Q rc rs T (mkF m pf Ls st)) (Gn : ¬ (0 < x) → Go p e below s n0 Q rc rs T (mkF m pt Ls st)) : Go p e below s n0 Q rc rs T (mkF m pc Ls (.int x :: st)) := by
  obtain ⟨_, X, -⟩ := W; subst hp
  by_cases q : 0 < x
  · exact Go.stp (g' := mkF m (pc + 3) Ls st) (fun _ hr => XS.ifNo X.here K.1 rfl (hb K.2.2.1 hd) rfl (Jvm.Free.XT.i0_le_f q) hr) (Gp q)
  · exact Go.stp (g' := mkF m pt Ls st) (fun _ hr => XS.ifYes X.here K.1 rfl (pc0 := pc) rfl (hb K.2.2.1 hd) rfl (Jvm.Free.XT.i0_le_t q) (own_jmp ht).1 (own_jmp ht).2 hr) (Gn q)
theorem g_lcmp_le (K : Cx p s m meth c Z own nm bytes maxL ret) (W : Wd p l e R s m args below meth c n0 T h cs ss) {x y : Int64} {o : Int} {pc1 : Nat} (hd0 : decode bytes pc = .ok (.lcmp, 1)) (hp0 : pc + 1 = pc1) (hd : decode bytes pc1 = .ok (.ifCond .le o, 3)) (ht : (pc1 : Int) + o = (pt : Int)) (hp : pc1 + 3 = pf) (Gp : y < x → Go p e below s n0 Q rc rs T (mkF m pf Ls st)) (Gn : ¬ (y < x) → Go p e below s n0 Q rc rs T (mkF m pt Ls st)) : Go p e below s n0 Q rc rs T (mkF m pc Ls (.long y :: .long x :: st)) := by
  obtain ⟨_, X, -⟩ := W; subst hp hp0
  refine Go.stp (g' := mkF m (pc + 1) Ls (.int (Jvm.Free.XT.cmpL x y) :: st)) (fun _ hr => XS.lcmp X.here K.1 rfl (hb K.2.2.1 hd0) rfl hr) ?_
  by_cases q : y < x
  · exact Go.stp (g' := mkF m (pc + 1 + 3) Ls st) (fun _ hr => XS.ifNo X.here K.1 rfl (hb K.2.2.1 hd) rfl (Jvm.Free.XT.ll_le_f q) hr) (Gp q)
  · exact Go.stp (g' := mkF m pt Ls st) (fun _ hr => XS.ifYes X.here K.1 rfl (pc0 := pc + 1) rfl (hb K.2.2.1 hd) rfl (Jvm.Free.XT.ll_le_t q) (own_jmp ht).1 (own_jmp ht).2 hr) (Gn q)
theorem g_ifnull_t (K : Cx p s m meth c Z own nm bytes maxL ret) (W : Wd p l e R s m args below meth c n0 T h cs ss) {o : Int} (hd : decode bytes pc = .ok (.ifnull o, 3)) (ht : (pc : Int) + o = (pt : Int)) (G : Go p e below s n0 Q rc rs T (mkF m pt Ls st)) : Go p e below s n0 Q rc rs T (mkF m pc Ls (.null :: st)) := by
  obtain ⟨_, X, -⟩ := W
  exact Go.stp (g' := mkF m pt Ls st) (fun _ hr => XS.ifnullYes X.here K.1 rfl (pc0 := pc) rfl (hb K.2.2.1 hd) rfl (own_jmp ht).1 (own_jmp ht).2 hr) G
theorem g_ifnull_f (K : Cx p s m meth c Z own nm bytes maxL ret) (W : Wd p l e R s m args below meth c n0 T h cs ss) {o : Int} {b : Addr} (hd : decode bytes pc = .ok (.ifnull o, 3)) (hp : pc + 3 = pf) (G : Go p e below s n0 Q rc rs T (mkF m pf Ls st)) : Go p e below s n0 Q rc rs T (mkF m pc Ls (.ref b :: st)) := by
  obtain ⟨_, X, -⟩ := W; subst hp
  exact Go.stp (g' := mkF m (pc + 3) Ls st) (fun _ hr => XS.ifnullNo X.here K.1 rfl (hb K.2.2.1 hd) rfl hr) G
theorem g_ifnonnull_t (K : Cx p s m meth c Z own nm bytes maxL ret) (W : Wd p l e R s m args below meth c n0 T h cs ss) {o : Int} {b : Addr} (hd : decode bytes pc = .ok (.ifnonnull o, 3)) (ht : (pc : Int) + o = (pt : Int)) (G : Go p e below s n0 Q rc rs T (mkF m pt Ls st)) : Go p e below s n0 Q rc rs T (mkF m pc Ls (.ref b :: st)) := by
  obtain ⟨_, X, -⟩ := W
  exact Go.stp (g' := mkF m pt Ls st) (fun _ hr => XS.ifnonnullYes X.here K.1 rfl (pc0 := pc) rfl (hb K.2.2.1 hd) rfl (own_jmp ht).1 (own_jmp ht).2 hr) G
theorem g_ifnonnull_f (K : Cx p s m meth c Z own nm bytes maxL ret) (W : Wd p l e R s m args below meth c n0 T h cs ss) {o : Int} (hd : decode bytes pc = .ok (.ifnonnull o, 3)) (hp : pc + 3 = pf) (G : Go p e below s n0 Q rc rs T (mkF m pf Ls st)) : Go p e below s n0 Q rc rs T (mkF m pc Ls (.null :: st)) := by
  obtain ⟨_, X, -⟩ := W; subst hp
  exact Go.stp (g' := mkF m (pc + 3) Ls st) (fun _ hr => XS.ifnonnullNo X.here K.1 rfl (hb K.2.2.1 hd) rfl hr) G
/-! the steps that read the tables or the heap -/
theorem Wd.sz (W : Wd p l e R s m args below meth c n0 T h cs ss) : n0 ≤ h.size := by
  obtain ⟨_, X, _, eT, q⟩ := W
  have r : s.heap.size ≤ T.heap.size := X.same.2.1
  rw [eT] at r
  exact Nat.le_trans q r
theorem g_getF (K : Cx p s m meth c Z own nm bytes maxL ret) (W : Wd p l e R s m args below meth c n0 T h cs ss) {R0 O n d host : String} {index : Nat} {a : Addr} {v : Value} (w : (Jvm.Cond.fieldLink own index R0 n d).before a0 Z = true ∨ (Jvm.Cond.fieldLinkNest own index R0 n d host).before a0 Z = true) (via : Via Z R0 O n d) (F : Fld Z h a O n d v) (hd : decode bytes pc = .ok (.getfield index, 3)) (hp : pc + 3 = pc')
    (G : ∀ T', Wd p l e R s m args below meth c n0 T' h cs ss → Go p e below s n0 Q rc rs T' (mkF m pc' Ls (v :: st))) : Go p e below s n0 Q rc rs T (mkF m pc Ls (.ref a :: st)) := by
  obtain ⟨locs, X, N, eT, z⟩ := W; subst hp
  obtain ⟨T', X', e', q⟩ := getF X K.1 K.2.1 K.2.2.2.2.1 w via eT F (g := mkF m pc Ls (.ref a :: st)) rfl rfl (hb K.2.2.1 hd)
  exact Go.stp q (G T' ⟨locs, X', N, e', z⟩)
theorem g_putF (K : Cx p s m meth c Z own nm bytes maxL ret) (W : Wd p l e R s m args below meth c n0 T h cs ss) {R0 O n d host C : String} {index kk : Nat} {ty : FieldType} {a : Addr} {v old : Value} (w : (Jvm.Cond.fieldLink own index R0 n d).before a0 Z = true ∨ (Jvm.Cond.fieldLinkNest own index R0 n d host).before a0 Z = true) (via : Via Z R0 O n d) (F : Fld Z h a O n d old) (E : Exa Z h a C)
    (L : (Jvm.Cond.lays C O n d).before a0 Z = true ∨ ((Jvm.Cond.laysFinal C O n d).before a0 Z = true ∧ own = O ∧ nm = "<init>")) (wi : (Jvm.Cond.instantiable C kk).before a0 Z = true) (hty : parseFieldDescriptor d = some ty) (hn : narrow ty v = v) (hf : fits ty v = true) (ha : n0 ≤ a) (hd : decode bytes pc = .ok (.putfield index, 3)) (hp : pc + 3 = pc')
    (G : ∀ T' h', Wd p l e R s m args below meth c n0 T' h' cs ss → Wr h h' a (Jvm.RoadKit.slotOf Z O n d) v → Go p e below s n0 Q rc rs T' (mkF m pc' Ls st)) : Go p e below s n0 Q rc rs T (mkF m pc Ls (v :: .ref a :: st)) := by
  obtain ⟨locs, X, N, eT, z⟩ := W; subst hp
  obtain ⟨T', h', X', e', w', q⟩ := putF X K.1 K.2.1 K.2.2.2.2.1 w via eT F E (L.imp id fun y => ⟨y.1, y.2.1, K.2.2.2.2.2.2.2.trans y.2.2⟩) wi hty hn hf (g := mkF m pc Ls (v :: .ref a :: st)) rfl rfl (hb K.2.2.1 hd)
  exact Go.stp q (G T' h' ⟨_, X', Fr.snoc X' N ha, e', z⟩ w')
theorem g_new (K : Cx p s m meth c Z own nm bytes maxL ret) (W : Wd p l e R s m args below meth c n0 T h cs ss) {C : String} {index n : Nat} (w : (Jvm.Cond.classLink own index C).before a0 Z = true) (wi : (Jvm.Cond.instantiable C n).before a0 Z = true) (wz : (Jvm.Cond.initialized C).before a0 Z = true) (hd : decode bytes pc = .ok (.new index, 3)) (hp : pc + 3 = pc') (hc : cs + 1 ≤ R.cells) (hl : ss + n ≤ R.slots)
    (G : ∀ T' h' a, Wd p l e R s m args below meth c n0 T' h' (cs + 1) (ss + n) → Ext h h' → a = h.size → n0 ≤ a → Exa Z h' a C → (∀ {O nm d : String} {ty : FieldType}, Laid Z a0 C O nm d → parseFieldDescriptor d = some ty → Fld Z h' a O nm d (defaultValue ty)) → Go p e below s n0 Q rc rs T' (mkF m pc' Ls (.ref a :: st))) : Go p e below s n0 Q rc rs T (mkF m pc Ls st) := by
  have zz := W.sz
  obtain ⟨locs, X, N, eT, z⟩ := W; subst hp
  obtain ⟨T', h', X', e', E, A, D, -, q⟩ := newO X K.1 K.2.1 K.2.2.2.2.1 w wi wz eT (g := mkF m pc Ls st) rfl (hb K.2.2.1 hd) hc hl
  exact Go.stp q (G T' h' _ ⟨_, X', N, e', z⟩ E rfl zz A (fun {O nm d ty} a b => D a b))
/-! the ways out -/
theorem g_ret0 (K : Cx p s m meth c Z own nm bytes maxL none) (W : Wd p l e R s m args below meth c n0 T h cs ss) (hd : decode bytes pc = .ok (.return_, 1)) (h1 : cs ≤ rc) (h2 : ss ≤ rs) (q : Q none h) : Go p e below s n0 Q rc rs T (mkF m pc Ls []) := by
  obtain ⟨locs, X, N, eT, z⟩ := W
  obtain ⟨fs, hr, hrun, hended, hW, hsame⟩ := X.leave (v := none) (fun _ => rfl) K.2.2.2.2.2.2.1
  exact ⟨_, _, X.returnOut K.1 K.2.2.2.2.2.1 (hb K.2.2.1 hd) hr, hrun, hended, _, _, rfl, ⟨by show Q none T.heap; rw [eT]; exact q, N⟩, ⟨_, rfl⟩, hW, hsame.mono h1 h2⟩
theorem g_retN {t : FieldType} {x v : Int32} (K : Cx p s m meth c Z own nm bytes maxL (some t)) (W : Wd p l e R s m args below meth c n0 T h cs ss) (ht : t = .boolean ∨ t = .byte ∨ t = .char ∨ t = .short) (hd : decode bytes pc = .ok (.ireturn, 1)) (h1 : cs ≤ rc) (h2 : ss ≤ rs) (hv : nar t x = v) (q : Q (some (.int v)) h) : Go p e below s n0 Q rc rs T (mkF m pc Ls (.int x :: st)) := by
  obtain ⟨locs, X, N, eT, z⟩ := W; subst hv
  obtain ⟨fs, hr, hrun, hended, hW, hsame⟩ := X.leave (v := some (.int (nar t x))) (fun y => by rw [K.2.2.2.2.2.1] at y; cases y) K.2.2.2.2.2.2.1
  exact ⟨_, _, retN X K.1 K.2.2.2.2.2.1 ht (hb K.2.2.1 hd) hr, hrun, hended, _, _, rfl, ⟨by show Q _ T.heap; rw [eT]; exact q, N⟩, ⟨_, rfl⟩, hW, hsame.mono h1 h2⟩
theorem g_retI {x : Int32} (K : Cx p s m meth c Z own nm bytes maxL (some .int)) (W : Wd p l e R s m args below meth c n0 T h cs ss) (hd : decode bytes pc = .ok (.ireturn, 1)) (h1 : cs ≤ rc) (h2 : ss ≤ rs) (q : Q (some (.int x)) h) : Go p e below s n0 Q rc rs T (mkF m pc Ls (.int x :: st)) := by
  obtain ⟨locs, X, N, eT, z⟩ := W
  obtain ⟨fs, hr, hrun, hended, hW, hsame⟩ := X.leave (v := some (.int x)) (fun y => by rw [K.2.2.2.2.2.1] at y; cases y) K.2.2.2.2.2.2.1
  exact ⟨_, _, retOut X K.1 K.2.2.2.2.2.1 rfl (Or.inl ⟨rfl, Or.inl rfl, _, rfl⟩) (hb K.2.2.1 hd) hr, hrun, hended, _, _, rfl, ⟨by show Q _ T.heap; rw [eT]; exact q, N⟩, ⟨_, rfl⟩, hW, hsame.mono h1 h2⟩
theorem g_retL {x : Int64} (K : Cx p s m meth c Z own nm bytes maxL (some .long)) (W : Wd p l e R s m args below meth c n0 T h cs ss) (hd : decode bytes pc = .ok (.lreturn, 1)) (h1 : cs ≤ rc) (h2 : ss ≤ rs) (q : Q (some (.long x)) h) : Go p e below s n0 Q rc rs T (mkF m pc Ls (.long x :: st)) := by
  obtain ⟨locs, X, N, eT, z⟩ := W
  obtain ⟨fs, hr, hrun, hended, hW, hsame⟩ := X.leave (v := some (.long x)) (fun y => by rw [K.2.2.2.2.2.1] at y; cases y) K.2.2.2.2.2.2.1
  exact ⟨_, _, retOut X K.1 K.2.2.2.2.2.1 rfl (Or.inr (Or.inl ⟨rfl, rfl, _, rfl⟩)) (hb K.2.2.1 hd) hr, hrun, hended, _, _, rfl, ⟨by show Q _ T.heap; rw [eT]; exact q, N⟩, ⟨_, rfl⟩, hW, hsame.mono h1 h2⟩
theorem g_retA {t : FieldType} {x : Value} (K : Cx p s m meth c Z own nm bytes maxL (some t)) (W : Wd p l e R s m args below meth c n0 T h cs ss) (ht : t.isReference = true) (hn : narrow t x = x) (hx : x.isRef = true) (hd : decode bytes pc = .ok (.areturn, 1)) (h1 : cs ≤ rc) (h2 : ss ≤ rs) (q : Q (some x) h) : Go p e below s n0 Q rc rs T (mkF m pc Ls (x :: st)) := by
  obtain ⟨locs, X, N, eT, z⟩ := W
  obtain ⟨fs, hr, hrun, hended, hW, hsame⟩ := X.leave (v := some x) (fun y => by rw [K.2.2.2.2.2.1] at y; cases y) K.2.2.2.2.2.2.1
  exact ⟨_, _, retOut X K.1 K.2.2.2.2.2.1 hn (Or.inr (Or.inr (Or.inr (Or.inr ⟨rfl, ht, hx⟩)))) (hb K.2.2.1 hd) hr, hrun, hended, _, _, rfl, ⟨by show Q _ T.heap; rw [eT]; exact q, N⟩, ⟨_, rfl⟩, hW, hsame.mono h1 h2⟩
/-! the calls, each by its callee's contract -/
theorem g_callS {y : MethodName} {yb : ByteArray} {yl : Nat} {yr : Option FieldType} {rm : Room} {argsL : List Value} {Qc : Option Value → Heap → Prop} {index : Nat} (M : Mt l Z y yb yl yr rm n0 argsL.toArray h Qc) (K : Cx p s m meth c Z own nm bytes maxL ret) (W : Wd p l e R s m args below meth c n0 T h cs ss)
    (wl : (Jvm.Cond.methodLink own index y).before a0 Z = true) (ws : (Jvm.Cond.static y).before a0 Z = true) (wi : (Jvm.Cond.initialized y.cls).before a0 Z = true) (wc : (Jvm.Cond.code y yb yl yr).before a0 Z = true) (hy : y.cls ≠ "java/lang/invoke/MethodHandle" ∧ y.cls ≠ "java/lang/invoke/VarHandle")
    (hlen : ∀ sig, parseMethodDescriptor y.desc = some sig → argsL.length = sig.parameters.length) (hd : decode bytes pc = .ok (.invokestatic index, 3)) (hp : pc + 3 = pc') (hst : st = argsL.reverse ++ rest) (hsz : Ls.size = maxL) (hf : rm.frames + 1 ≤ R.frames) {wt : Nat} (hwt : (rest.map fun v => v.category).sum = wt) (hl : wt + (yl + 11) + rm.locals ≤ R.locals) (hc : cs + rm.cells ≤ R.cells) (hs : ss + rm.slots ≤ R.slots)
    (G : ∀ T' h' v, Wd p l e R s m args below meth c n0 T' h' (cs + rm.cells) (ss + rm.slots) → Qc v h' → Go p e below s n0 Q rc rs T' (mkF m pc' Ls (v.toList ++ rest))) : Go p e below s n0 Q rc rs T (mkF m pc Ls st) := by
  obtain ⟨locs, X, N, eT, z⟩ := W; subst hp hwt
  obtain ⟨v, _, ⟨T', L', k', n'⟩, -, X', ⟨Lc, hQ, l1, l2, l3⟩, q⟩ := Jvm.LawKit.callS X K.1 (y := y) K.2.2.2.2.1 (mvT K.2.1 wl) (mvT K.2.1 ws) (mvT K.2.1 wi) (mvT K.2.1 wc) hy (backOf (W := (rest.map fun v => v.category).sum) (Q := fun v hh L => Qc v hh ∧ Fr n0 L) (M []) K.2.1 wc wi hf hl) (g := mkF m pc Ls st) rfl (hsz.trans K.2.2.2.1.symm) (argsL := argsL) (rest := rest) hlen hst (by show 2 * 0 + _ ≤ _; omega) (hb K.2.2.1 hd) (fun _ _ => ⟨rfl, eT, hc, hs⟩)
  dsimp only [Pt.U, Pt.locs, Pt.cells, Pt.slots] at X' l1 l2 l3 q hQ
  subst l1 l2 l3
  exact Go.stp q (G T' T'.heap v ⟨_, X', Fr.app N hQ.2, rfl, z⟩ hQ.1)
theorem g_callN {y : MethodName} {yb : ByteArray} {yl : Nat} {rm : Room} {argsL : List Value} {Qc : Option Value → Heap → Prop} {index : Nat} {a : Addr} (M : Mt l Z y yb yl none rm n0 (.ref a :: argsL).toArray h Qc) (K : Cx p s m meth c Z own nm bytes maxL ret) (W : Wd p l e R s m args below meth c n0 T h cs ss) (hy1 : y.name = "<init>")
    (wl : (Jvm.Cond.methodLink own index y).before a0 Z = true) (ws : (Jvm.Cond.instanceMethod y).before a0 Z = true) (wi : (Jvm.Cond.initialized y.cls).before a0 Z = true) (wc : (Jvm.Cond.code y yb yl none).before a0 Z = true) (hy : y.cls ≠ "java/lang/invoke/MethodHandle" ∧ y.cls ≠ "java/lang/invoke/VarHandle")
    (hlen : ∀ sig, parseMethodDescriptor y.desc = some sig → argsL.length = sig.parameters.length) (hd : decode bytes pc = .ok (.invokespecial index, 3)) (hp : pc + 3 = pc') (hst : st = argsL.reverse ++ .ref a :: rest) (hsz : Ls.size = maxL) (hf : rm.frames + 1 ≤ R.frames) {wt : Nat} (hwt : (rest.map fun v => v.category).sum = wt) (hl : wt + (yl + 11) + rm.locals ≤ R.locals) (hc : cs + rm.cells ≤ R.cells) (hs : ss + rm.slots ≤ R.slots)
    (G : ∀ T' h' v, Wd p l e R s m args below meth c n0 T' h' (cs + rm.cells) (ss + rm.slots) → Qc v h' → Go p e below s n0 Q rc rs T' (mkF m pc' Ls (v.toList ++ rest))) : Go p e below s n0 Q rc rs T (mkF m pc Ls st) := by
  obtain ⟨locs, X, N, eT, z⟩ := W; subst hp hwt
  obtain ⟨v, _, ⟨T', L', k', n'⟩, -, X', ⟨Lc, hQ, l1, l2, l3⟩, q⟩ := X.specialBack K.1 (y := y) hy1 K.2.2.2.2.1 (mvT K.2.1 wl) (mvT K.2.1 ws) (mvT K.2.1 wc) hy (backOf (W := (rest.map fun v => v.category).sum) (Q := fun v hh L => Qc v hh ∧ Fr n0 L) (M []) K.2.1 wc wi hf hl) (g := mkF m pc Ls st) rfl (hsz.trans K.2.2.2.1.symm) (Steps.refl _) (a := a) (argsL := argsL) (rest := rest) hlen hst (by show 2 * 0 + _ ≤ _; omega) (hb K.2.2.1 hd) (fun _ _ => ⟨rfl, eT, hc, hs⟩)
  dsimp only [Pt.U, Pt.locs, Pt.cells, Pt.slots] at X' l1 l2 l3 q hQ
  subst l1 l2 l3
  exact Go.stp (fun _ k => q.trans k) (G T' T'.heap v ⟨_, X', Fr.app N hQ.2, rfl, z⟩ hQ.1)
theorem g_callV {y : MethodName} {yb : ByteArray} {yl : Nat} {yr : Option FieldType} {rm : Room} {argsL : List Value} {Qc : Option Value → Heap → Prop} {index : Nat} {C : String} {a : Addr} {x : MethodName} (M : Mt l Z y yb yl yr rm n0 (.ref a :: argsL).toArray h Qc) (K : Cx p s m meth c Z own nm bytes maxL ret) (W : Wd p l e R s m args below meth c n0 T h cs ss) (E : Exa Z h a C)
    (wl : (Jvm.Cond.methodLink own index x).before a0 Z = true) (wd : (Jvm.Cond.declares x).before a0 Z = true) (wx : (Jvm.Cond.selects x.cls x x).before a0 Z = true) (wsel : (Jvm.Cond.selects C x y).before a0 Z = true) (ws : (Jvm.Cond.instanceMethod y).before a0 Z = true) (wi : (Jvm.Cond.initialized y.cls).before a0 Z = true) (wc : (Jvm.Cond.code y yb yl yr).before a0 Z = true) (hy : x.cls ≠ "java/lang/invoke/MethodHandle" ∧ x.cls ≠ "java/lang/invoke/VarHandle")
    (hlen : ∀ sig, parseMethodDescriptor x.desc = some sig → argsL.length = sig.parameters.length) (hd : decode bytes pc = .ok (.invokevirtual index, 3)) (hp : pc + 3 = pc') (hst : st = argsL.reverse ++ .ref a :: rest) (hsz : Ls.size = maxL) (hf : rm.frames + 1 ≤ R.frames) {wt : Nat} (hwt : (rest.map fun v => v.category).sum = wt) (hl : wt + (yl + 11) + rm.locals ≤ R.locals) (hc : cs + rm.cells ≤ R.cells) (hs : ss + rm.slots ≤ R.slots)
    (G : ∀ T' h' v, Wd p l e R s m args below meth c n0 T' h' (cs + rm.cells) (ss + rm.slots) → Qc v h' → Go p e below s n0 Q rc rs T' (mkF m pc' Ls (v.toList ++ rest))) : Go p e below s n0 Q rc rs T (mkF m pc Ls st) := by
  obtain ⟨locs, X, N, eT, z⟩ := W; subst hp hwt
  obtain ⟨cq, kq, qa, qb, qc⟩ := isOf K.2.1 eT E
  obtain ⟨v, _, ⟨T', L', k', n'⟩, -, X', ⟨Lc, hQ, l1, l2, l3⟩, q⟩ := X.virtualBack K.1 (y := x) (z := y) K.2.2.2.2.1 (mvT K.2.1 wl) (mvT K.2.1 wd) (notFace_of_selects (args := #[]) (mvT K.2.1 wx)) (mvT K.2.1 wsel) (mvT K.2.1 ws) hy (backOf (W := (rest.map fun v => v.category).sum) (Q := fun v hh L => Qc v hh ∧ Fr n0 L) (M []) K.2.1 wc wi hf hl) qa qc (g := mkF m pc Ls st) rfl (hsz.trans K.2.2.2.1.symm) (Steps.refl _) (argsL := argsL) (rest := rest) hlen hst (by show 2 * 0 + _ ≤ _; omega) (hb K.2.2.1 hd) (fun _ _ => ⟨rfl, eT, hc, hs⟩)
  dsimp only [Pt.U, Pt.locs, Pt.cells, Pt.slots] at X' l1 l2 l3 q hQ
  subst l1 l2 l3
  exact Go.stp (fun _ k => q.trans k) (G T' T'.heap v ⟨_, X', Fr.app N hQ.2, rfl, z⟩ hQ.1)
theorem g_callP {y : MethodName} {yb : ByteArray} {yl : Nat} {yr : Option FieldType} {rm : Room} {argsL : List Value} {Qc : Option Value → Heap → Prop} {index : Nat} {a : Addr} (M : Mt l Z y yb yl yr rm n0 (.ref a :: argsL).toArray h Qc) (K : Cx p s m meth c Z own nm bytes maxL ret) (W : Wd p l e R s m args below meth c n0 T h cs ss) (hcell : ∃ c : Cell, h[a]? = some c ∧ ∀ q, c.vm ≠ .statics q)
    (wl : (Jvm.Cond.methodLink own index y).before a0 Z = true) (ws : (Jvm.Cond.instanceMethod y).before a0 Z = true) {kk : Nat} (wk : (Jvm.Cond.instantiable y.cls kk).before a0 Z = true) (wp : (Jvm.Cond.privateMethod y).before a0 Z = true) (wi : (Jvm.Cond.initialized y.cls).before a0 Z = true) (wc : (Jvm.Cond.code y yb yl yr).before a0 Z = true) (hy : y.cls ≠ "java/lang/invoke/MethodHandle" ∧ y.cls ≠ "java/lang/invoke/VarHandle")
    (hlen : ∀ sig, parseMethodDescriptor y.desc = some sig → argsL.length = sig.parameters.length) (hd : decode bytes pc = .ok (.invokevirtual index, 3)) (hp : pc + 3 = pc') (hst : st = argsL.reverse ++ .ref a :: rest) (hsz : Ls.size = maxL) (hf : rm.frames + 1 ≤ R.frames) {wt : Nat} (hwt : (rest.map fun v => v.category).sum = wt) (hl : wt + (yl + 11) + rm.locals ≤ R.locals) (hc : cs + rm.cells ≤ R.cells) (hs : ss + rm.slots ≤ R.slots)
    (G : ∀ T' h' v, Wd p l e R s m args below meth c n0 T' h' (cs + rm.cells) (ss + rm.slots) → Qc v h' → Go p e below s n0 Q rc rs T' (mkF m pc' Ls (v.toList ++ rest))) : Go p e below s n0 Q rc rs T (mkF m pc Ls st) := by
  obtain ⟨locs, X, N, eT, z⟩ := W; subst hp hwt
  obtain ⟨cl, hc1, hc2⟩ := hcell
  have wk' : (Jvm.Cond.instantiable y.cls kk).before args s = true := mvT K.2.1 wk
  obtain ⟨ck, kc, f1, f2, f3, f4, -⟩ := Jvm.Cond.instantiable_spec wk'
  have hpr : s.PrivateAt y := Jvm.Cond.privateMethod_at (mvP K.2.1 wp (args := #[]))
  have hsel : (Jvm.Cond.selects y.cls y y).before args s = true := Jvm.Stand.selects_self_of_private f1 f2 (by simpa using (Bool.or_eq_false_iff.mp f4).1) hpr (mvT K.2.1 ws) hy
  obtain ⟨v, _, ⟨T', L', k', n'⟩, -, X', ⟨Lc, hQ, l1, l2, l3⟩, q⟩ := X.privateBack K.1 (y := y) K.2.2.2.2.1 (mvT K.2.1 wl) (mvT K.2.1 ws) hsel hpr (mvT K.2.1 wc) hy (backOf (W := (rest.map fun v => v.category).sum) (Q := fun v hh L => Qc v hh ∧ Fr n0 L) (M []) K.2.1 wc wi hf hl) (g := mkF m pc Ls st) rfl (hsz.trans K.2.2.2.1.symm) (Steps.refl _) (a := a) (by rw [eT]; exact hc1) hc2 (argsL := argsL) (rest := rest) hlen hst (by show 2 * 0 + _ ≤ _; omega) (hb K.2.2.1 hd) (fun _ _ => ⟨rfl, eT, hc, hs⟩)
  dsimp only [Pt.U, Pt.locs, Pt.cells, Pt.slots] at X' l1 l2 l3 q hQ
  subst l1 l2 l3
  exact Go.stp (fun _ k => q.trans k) (G T' T'.heap v ⟨_, X', Fr.app N hQ.2, rfl, z⟩ hQ.1)
/-! arrays: n places, place j holds f j -/
def AyI (Z : State) (h : Heap) (a : Addr) (ty : FieldType) (n : Nat) (f : Nat → Int32) : Prop := ∃ cl : Cell, Arr Z h a cl ty ∧ cl.slots.size = n ∧ ∀ j, j < n → cl.slots[j]? = some (.int (f j))
def AyJ (Z : State) (h : Heap) (a : Addr) (n : Nat) (f : Nat → Int64) : Prop := ∃ cl : Cell, Arr Z h a cl .long ∧ cl.slots.size = n ∧ ∀ j, j < n → cl.slots[j]? = some (.long (f j))
def upd {α : Type} (f : Nat → α) (k : Nat) (v : α) : Nat → α := fun j => if j = k then v else f j
theorem upd_same {α : Type} (f : Nat → α) (k : Nat) (v : α) : upd f k v k = v := if_pos rfl
theorem upd_ne {α : Type} (f : Nat → α) {k j : Nat} (v : α) (q : j ≠ k) : upd f k v j = f j := if_neg q
theorem own_ix {j : Int32} {k : Nat} (hj : j.toInt = (k : Int)) : ¬ j < 0 ∧ j.toNatClampNeg = k := by
  refine ⟨fun q => ?_, ?_⟩
  · rw [Int32.lt_iff_toInt_lt, hj, show (0 : Int32).toInt = 0 from rfl] at q; omega
  · rw [Int32.toNatClampNeg, hj]; rfl
theorem own_in {j : Int32} {k n : Nat} (hj : j.toInt = (k : Int)) (hk : k < n) {cl : Cell} (hs : cl.slots.size = n) : ¬ (j < 0 ∨ cl.slots.size ≤ j.toNatClampNeg) := by
  rw [(own_ix hj).2, hs]
  exact fun q => q.elim (own_ix hj).1 (fun q => by omega)
theorem AyI.lt {a : Addr} {ty : FieldType} {n : Nat} {f : Nat → Int32} (A : AyI Z h a ty n f) : a < h.size := by obtain ⟨_, q, -⟩ := A; exact q.lt
theorem AyJ.lt {a : Addr} {n : Nat} {f : Nat → Int64} (A : AyJ Z h a n f) : a < h.size := by obtain ⟨_, q, -⟩ := A; exact q.lt
theorem AyI.ext {h' : Heap} {a : Addr} {ty : FieldType} {n : Nat} {f : Nat → Int32} (A : AyI Z h a ty n f) (E : Ext h h') : AyI Z h' a ty n f := by obtain ⟨cl, q, r⟩ := A; exact ⟨cl, q.ext E, r⟩
theorem AyJ.ext {h' : Heap} {a : Addr} {n : Nat} {f : Nat → Int64} (A : AyJ Z h a n f) (E : Ext h h') : AyJ Z h' a n f := by obtain ⟨cl, q, r⟩ := A; exact ⟨cl, q.ext E, r⟩
theorem AyI.other {h' : Heap} {a b : Addr} {sl : Nat} {v : Value} {ty : FieldType} {n : Nat} {f : Nat → Int32} (A : AyI Z h b ty n f) (w : Wr h h' a sl v) (q : b ≠ a) : AyI Z h' b ty n f := by obtain ⟨cl, x, r⟩ := A; exact ⟨cl, x.other w q, r⟩
theorem AyJ.other {h' : Heap} {a b : Addr} {sl : Nat} {v : Value} {n : Nat} {f : Nat → Int64} (A : AyJ Z h b n f) (w : Wr h h' a sl v) (q : b ≠ a) : AyJ Z h' b n f := by obtain ⟨cl, x, r⟩ := A; exact ⟨cl, x.other w q, r⟩
theorem AyI.keep {h' : Heap} {a : Addr} {ws : List Addr} {ty : FieldType} {n : Nat} {f : Nat → Int32} (A : AyI Z h a ty n f) (k : Keep h h' ws) (q : a ∉ ws) : AyI Z h' a ty n f := by obtain ⟨cl, x, r⟩ := A; exact ⟨cl, ⟨k.2.1 a cl x.1 q, x.2⟩, r⟩
theorem AyJ.keep {h' : Heap} {a : Addr} {ws : List Addr} {n : Nat} {f : Nat → Int64} (A : AyJ Z h a n f) (k : Keep h h' ws) (q : a ∉ ws) : AyJ Z h' a n f := by obtain ⟨cl, x, r⟩ := A; exact ⟨cl, ⟨k.2.1 a cl x.1 q, x.2⟩, r⟩
theorem AyI.same {h' : Heap} {a : Addr} {k : Nat} {x : Int32} {ty : FieldType} {n : Nat} {f : Nat → Int32} (A : AyI Z h a ty n f) (w : Wr h h' a k (.int x)) : AyI Z h' a ty n (upd f k x) := by
  obtain ⟨cl, q, r1, r2⟩ := A
  refine ⟨_, q.same w, by simpa [Cell.setSlot] using r1, fun j hj => ?_⟩
  by_cases e : j = k
  · subst e; rw [upd_same]; simp [Cell.setSlot, Array.getElem?_setIfInBounds, r1, hj]
  · rw [upd_ne f x e, ← r2 j hj]; simp [Cell.setSlot, Array.getElem?_setIfInBounds, Ne.symm e]
theorem AyJ.same {h' : Heap} {a : Addr} {k : Nat} {x : Int64} {n : Nat} {f : Nat → Int64} (A : AyJ Z h a n f) (w : Wr h h' a k (.long x)) : AyJ Z h' a n (upd f k x) := by
  obtain ⟨cl, q, r1, r2⟩ := A
  refine ⟨_, q.same w, by simpa [Cell.setSlot] using r1, fun j hj => ?_⟩
  by_cases e : j = k
  · subst e; rw [upd_same]; simp [Cell.setSlot, Array.getElem?_setIfInBounds, r1, hj]
  · rw [upd_ne f x e, ← r2 j hj]; simp [Cell.setSlot, Array.getElem?_setIfInBounds, Ne.symm e]
theorem g_alenI (K : Cx p s m meth c Z own nm bytes maxL ret) (W : Wd p l e R s m args below meth c n0 T h cs ss) {a : Addr} {ty : FieldType} {n : Nat} {f : Nat → Int32} (A : AyI Z h a ty n f) {v : Int32} (hv : Int32.ofNat n = v) (hd : decode bytes pc = .ok (.arraylength, 1)) (hp : pc + 1 = pc')
    (G : Go p e below s n0 Q rc rs T (mkF m pc' Ls (.int v :: st))) : Go p e below s n0 Q rc rs T (mkF m pc Ls (.ref a :: st)) := by
  obtain ⟨_, X, N, eT, z⟩ := W; subst hp
  obtain ⟨cl, q, r1, r2⟩ := A
  refine Go.stp (g' := mkF m (pc + 1) Ls (.int v :: st)) (fun _ hr => X.arraylength K.1 (cell := cl) (by rw [eT]; exact q.1) (State.isArrayOf_alike K.2.1.alike q.2.1) (g := mkF m pc Ls (.ref a :: st)) rfl (rest := st) rfl (hb K.2.2.1 hd) _ ?_) G
  rw [r1, show n.toInt32 = v from hv]
  exact hr
theorem g_alenJ (K : Cx p s m meth c Z own nm bytes maxL ret) (W : Wd p l e R s m args below meth c n0 T h cs ss) {a : Addr} {n : Nat} {f : Nat → Int64} (A : AyJ Z h a n f) {v : Int32} (hv : Int32.ofNat n = v) (hd : decode bytes pc = .ok (.arraylength, 1)) (hp : pc + 1 = pc')
    (G : Go p e below s n0 Q rc rs T (mkF m pc' Ls (.int v :: st))) : Go p e below s n0 Q rc rs T (mkF m pc Ls (.ref a :: st)) := by
  obtain ⟨_, X, N, eT, z⟩ := W; subst hp
  obtain ⟨cl, q, r1, r2⟩ := A
  refine Go.stp (g' := mkF m (pc + 1) Ls (.int v :: st)) (fun _ hr => X.arraylength K.1 (cell := cl) (by rw [eT]; exact q.1) (State.isArrayOf_alike K.2.1.alike q.2.1) (g := mkF m pc Ls (.ref a :: st)) rfl (rest := st) rfl (hb K.2.2.1 hd) _ ?_) G
  rw [r1, show n.toInt32 = v from hv]
  exact hr
theorem g_iaload (K : Cx p s m meth c Z own nm bytes maxL ret) (W : Wd p l e R s m args below meth c n0 T h cs ss) {a : Addr} {n k : Nat} {f : Nat → Int32} {j v : Int32} (A : AyI Z h a .int n f) (hj : j.toInt = (k : Int)) (hk : k < n) (hv : f k = v) (hd : decode bytes pc = .ok (.iaload, 1)) (hp : pc + 1 = pc')
    (G : Go p e below s n0 Q rc rs T (mkF m pc' Ls (.int v :: st))) : Go p e below s n0 Q rc rs T (mkF m pc Ls (.int j :: .ref a :: st)) := by
  obtain ⟨_, X, N, eT, z⟩ := W; subst hp hv
  obtain ⟨cl, q, r1, r2⟩ := A
  exact Go.stp (g' := mkF m (pc + 1) Ls (.int (f k) :: st)) (fun _ hr => X.iaload K.1 (by rw [eT]; exact q.1) (State.isArrayOf_alike K.2.1.alike q.2.1) q.2.2 (own_in hj hk r1) (by rw [(own_ix hj).2]; exact r2 k hk) (g := mkF m pc Ls (.int j :: .ref a :: st)) rfl rfl (hb K.2.2.1 hd) _ hr) G
theorem g_baload (K : Cx p s m meth c Z own nm bytes maxL ret) (W : Wd p l e R s m args below meth c n0 T h cs ss) {a : Addr} {n k : Nat} {f : Nat → Int32} {j v : Int32} (A : AyI Z h a .byte n f) (hj : j.toInt = (k : Int)) (hk : k < n) (hv : f k = v) (hd : decode bytes pc = .ok (.baload, 1)) (hp : pc + 1 = pc')
    (G : Go p e below s n0 Q rc rs T (mkF m pc' Ls (.int v :: st))) : Go p e below s n0 Q rc rs T (mkF m pc Ls (.int j :: .ref a :: st)) := by
  obtain ⟨_, X, N, eT, z⟩ := W; subst hp hv
  obtain ⟨cl, q, r1, r2⟩ := A
  exact Go.stp (g' := mkF m (pc + 1) Ls (.int (f k) :: st)) (fun _ hr => X.baloadBytes K.1 (by rw [eT]; exact q.1) (State.isArrayOf_alike K.2.1.alike q.2.1) q.2.2 (own_in hj hk r1) (by rw [(own_ix hj).2]; exact r2 k hk) (g := mkF m pc Ls (.int j :: .ref a :: st)) rfl rfl (hb K.2.2.1 hd) _ hr) G
theorem g_zaload (K : Cx p s m meth c Z own nm bytes maxL ret) (W : Wd p l e R s m args below meth c n0 T h cs ss) {a : Addr} {n k : Nat} {f : Nat → Int32} {j v : Int32} (A : AyI Z h a .boolean n f) (hj : j.toInt = (k : Int)) (hk : k < n) (hv : f k = v) (hd : decode bytes pc = .ok (.baload, 1)) (hp : pc + 1 = pc')
    (G : Go p e below s n0 Q rc rs T (mkF m pc' Ls (.int v :: st))) : Go p e below s n0 Q rc rs T (mkF m pc Ls (.int j :: .ref a :: st)) := by
  obtain ⟨_, X, N, eT, z⟩ := W; subst hp hv
  obtain ⟨cl, q, r1, r2⟩ := A
  exact Go.stp (g' := mkF m (pc + 1) Ls (.int (f k) :: st)) (fun _ hr => X.baloadBooleans K.1 (by rw [eT]; exact q.1) (State.isArrayOf_alike K.2.1.alike q.2.1) q.2.2 (own_in hj hk r1) (by rw [(own_ix hj).2]; exact r2 k hk) (g := mkF m pc Ls (.int j :: .ref a :: st)) rfl rfl (hb K.2.2.1 hd) _ hr) G
theorem g_laload (K : Cx p s m meth c Z own nm bytes maxL ret) (W : Wd p l e R s m args below meth c n0 T h cs ss) {a : Addr} {n k : Nat} {f : Nat → Int64} {j : Int32} {v : Int64} (A : AyJ Z h a n f) (hj : j.toInt = (k : Int)) (hk : k < n) (hv : f k = v) (hd : decode bytes pc = .ok (.laload, 1)) (hp : pc + 1 = pc')
    (G : Go p e below s n0 Q rc rs T (mkF m pc' Ls (.long v :: st))) : Go p e below s n0 Q rc rs T (mkF m pc Ls (.int j :: .ref a :: st)) := by
  obtain ⟨_, X, N, eT, z⟩ := W; subst hp hv
  obtain ⟨cl, q, r1, r2⟩ := A
  exact Go.stp (g' := mkF m (pc + 1) Ls (.long (f k) :: st)) (fun _ hr => X.laload K.1 (by rw [eT]; exact q.1) (State.isArrayOf_alike K.2.1.alike q.2.1) q.2.2 (own_in hj hk r1) (by rw [(own_ix hj).2]; exact r2 k hk) (g := mkF m pc Ls (.int j :: .ref a :: st)) rfl rfl (hb K.2.2.1 hd) _ hr) G
theorem g_bastore (K : Cx p s m meth c Z own nm bytes maxL ret) (W : Wd p l e R s m args below meth c n0 T h cs ss) {a : Addr} {n k : Nat} {f : Nat → Int32} {j x : Int32} (A : AyI Z h a .byte n f) (hj : j.toInt = (k : Int)) (hk : k < n) (ha : n0 ≤ a) (hd : decode bytes pc = .ok (.bastore, 1)) (hp : pc + 1 = pc')
    (G : ∀ T' h', Wd p l e R s m args below meth c n0 T' h' cs ss → Wr h h' a k (.int x.toInt8.toInt32) → AyI Z h' a .byte n (upd f k x.toInt8.toInt32) → Go p e below s n0 Q rc rs T' (mkF m pc' Ls st)) : Go p e below s n0 Q rc rs T (mkF m pc Ls (.int x :: .int j :: .ref a :: st)) := by
  obtain ⟨locs, X, N, eT, z⟩ := W; subst hp
  have A0 := A
  obtain ⟨cl, q, r1, r2⟩ := A
  obtain ⟨T', h', X', e', w', st'⟩ := stB X K.1 K.2.1 eT q (own_in hj hk r1) (g := mkF m pc Ls (.int x :: .int j :: .ref a :: st)) rfl rfl (hb K.2.2.1 hd)
  rw [(own_ix hj).2] at w' X'
  exact Go.stp st' (G T' h' ⟨_, X', Fr.snoc X' N ha, e', z⟩ w' (A0.same w'))
theorem g_zastore (K : Cx p s m meth c Z own nm bytes maxL ret) (W : Wd p l e R s m args below meth c n0 T h cs ss) {a : Addr} {n k : Nat} {f : Nat → Int32} {j x : Int32} (A : AyI Z h a .boolean n f) (hj : j.toInt = (k : Int)) (hk : k < n) (ha : n0 ≤ a) (hd : decode bytes pc = .ok (.bastore, 1)) (hp : pc + 1 = pc')
    (G : ∀ T' h', Wd p l e R s m args below meth c n0 T' h' cs ss → Wr h h' a k (.int (x &&& 1)) → AyI Z h' a .boolean n (upd f k (x &&& 1)) → Go p e below s n0 Q rc rs T' (mkF m pc' Ls st)) : Go p e below s n0 Q rc rs T (mkF m pc Ls (.int x :: .int j :: .ref a :: st)) := by
  obtain ⟨locs, X, N, eT, z⟩ := W; subst hp
  have A0 := A
  obtain ⟨cl, q, r1, r2⟩ := A
  obtain ⟨T', h', X', e', w', st'⟩ := stZ X K.1 K.2.1 eT q (own_in hj hk r1) (g := mkF m pc Ls (.int x :: .int j :: .ref a :: st)) rfl rfl (hb K.2.2.1 hd)
  rw [(own_ix hj).2] at w' X'
  exact Go.stp st' (G T' h' ⟨_, X', Fr.snoc X' N ha, e', z⟩ w' (A0.same w'))
theorem g_iastore (K : Cx p s m meth c Z own nm bytes maxL ret) (W : Wd p l e R s m args below meth c n0 T h cs ss) {a : Addr} {n k : Nat} {f : Nat → Int32} {j x : Int32} (A : AyI Z h a .int n f) (hj : j.toInt = (k : Int)) (hk : k < n) (ha : n0 ≤ a) (hd : decode bytes pc = .ok (.iastore, 1)) (hp : pc + 1 = pc')
    (G : ∀ T' h', Wd p l e R s m args below meth c n0 T' h' cs ss → Wr h h' a k (.int x) → AyI Z h' a .int n (upd f k x) → Go p e below s n0 Q rc rs T' (mkF m pc' Ls st)) : Go p e below s n0 Q rc rs T (mkF m pc Ls (.int x :: .int j :: .ref a :: st)) := by
  obtain ⟨locs, X, N, eT, z⟩ := W; subst hp
  have A0 := A
  obtain ⟨cl, q, r1, r2⟩ := A
  obtain ⟨T', h', X', e', w', st'⟩ := stI X K.1 K.2.1 eT q (own_in hj hk r1) (g := mkF m pc Ls (.int x :: .int j :: .ref a :: st)) rfl rfl (hb K.2.2.1 hd)
  rw [(own_ix hj).2] at w' X'
  exact Go.stp st' (G T' h' ⟨_, X', Fr.snoc X' N ha, e', z⟩ w' (A0.same w'))
theorem g_lastore (K : Cx p s m meth c Z own nm bytes maxL ret) (W : Wd p l e R s m args below meth c n0 T h cs ss) {a : Addr} {n k : Nat} {f : Nat → Int64} {j : Int32} {x : Int64} (A : AyJ Z h a n f) (hj : j.toInt = (k : Int)) (hk : k < n) (ha : n0 ≤ a) (hd : decode bytes pc = .ok (.lastore, 1)) (hp : pc + 1 = pc')
    (G : ∀ T' h', Wd p l e R s m args below meth c n0 T' h' cs ss → Wr h h' a k (.long x) → AyJ Z h' a n (upd f k x) → Go p e below s n0 Q rc rs T' (mkF m pc' Ls st)) : Go p e below s n0 Q rc rs T (mkF m pc Ls (.long x :: .int j :: .ref a :: st)) := by
  obtain ⟨locs, X, N, eT, z⟩ := W; subst hp
  have A0 := A
  obtain ⟨cl, q, r1, r2⟩ := A
  obtain ⟨T', h', X', e', w', st'⟩ := stJ X K.1 K.2.1 eT q (own_in hj hk r1) (g := mkF m pc Ls (.long x :: .int j :: .ref a :: st)) rfl rfl (hb K.2.2.1 hd)
  rw [(own_ix hj).2] at w' X'
  exact Go.stp st' (G T' h' ⟨_, X', Fr.snoc X' N ha, e', z⟩ w' (A0.same w'))
theorem g_newI (K : Cx p s m meth c Z own nm bytes maxL ret) (W : Wd p l e R s m args below meth c n0 T h cs ss) {aty : ArrayType} {ty : FieldType} {j : Int32} {n cap : Nat} (w : (Jvm.Cond.arrayClass ty).before a0 Z = true) (hty : newarray.typeOf aty = ty) (hdf : defaultValue ty = .int 0) (hj : j.toInt = (n : Int)) (hcap : n ≤ cap) (hd : decode bytes pc = .ok (.newarray aty, 2)) (hp : pc + 2 = pc') (hb8 : cap * 8 ≤ 536870912) (hc : cs + 1 ≤ R.cells) (hl : ss + cap ≤ R.slots)
    (G : ∀ T' h' a, Wd p l e R s m args below meth c n0 T' h' (cs + 1) (ss + cap) → Ext h h' → a = h.size → n0 ≤ a → AyI Z h' a ty n (fun _ => 0) → Go p e below s n0 Q rc rs T' (mkF m pc' Ls (.ref a :: st))) : Go p e below s n0 Q rc rs T (mkF m pc Ls (.int j :: st)) := by
  have zz := W.sz
  obtain ⟨locs, X, N, eT, z⟩ := W; subst hp hty
  obtain ⟨T', h', kA, X', e', E, A, q⟩ := newP X K.1 K.2.1 w eT (g := mkF m pc Ls (.int j :: st)) rfl (hb K.2.2.1 hd) rfl (own_ix hj).1 (cap := cap) (by rw [(own_ix hj).2]; exact hcap) hb8 hc hl
  refine Go.stp q (G T' h' _ ⟨_, X', N, e', z⟩ E rfl zz ⟨_, A, by rw [sz_new, (own_ix hj).2], fun i hi => ?_⟩)
  rw [← hdf]
  simp [newA, (own_ix hj).2, hi]
theorem g_newJ (K : Cx p s m meth c Z own nm bytes maxL ret) (W : Wd p l e R s m args below meth c n0 T h cs ss) {j : Int32} {n cap : Nat} (w : (Jvm.Cond.arrayClass .long).before a0 Z = true) (hj : j.toInt = (n : Int)) (hcap : n ≤ cap) (hd : decode bytes pc = .ok (.newarray .long, 2)) (hp : pc + 2 = pc') (hb8 : cap * 8 ≤ 536870912) (hc : cs + 1 ≤ R.cells) (hl : ss + cap ≤ R.slots)
    (G : ∀ T' h' a, Wd p l e R s m args below meth c n0 T' h' (cs + 1) (ss + cap) → Ext h h' → a = h.size → n0 ≤ a → AyJ Z h' a n (fun _ => 0) → Go p e below s n0 Q rc rs T' (mkF m pc' Ls (.ref a :: st))) : Go p e below s n0 Q rc rs T (mkF m pc Ls (.int j :: st)) := by
  have zz := W.sz
  obtain ⟨locs, X, N, eT, z⟩ := W; subst hp
  obtain ⟨T', h', kA, X', e', E, A, q⟩ := newP X K.1 K.2.1 (aty := .long) w eT (g := mkF m pc Ls (.int j :: st)) rfl (hb K.2.2.1 hd) rfl (own_ix hj).1 (cap := cap) (by rw [(own_ix hj).2]; exact hcap) hb8 hc hl
  refine Go.stp q (G T' h' _ ⟨_, X', N, e', z⟩ E rfl zz ⟨_, A, by rw [sz_new, (own_ix hj).2], fun i hi => ?_⟩)
  rw [show (Value.long 0) = defaultValue .long from rfl]
  simp [newA, (own_ix hj).2, hi, newarray.typeOf]
end OwnBase
section OwnObj
variable {p : Program} {l : Launch} {e : Env} {R : Room} {s : State} {m : MethodId} {args : Array Value} {below : List Frame} {meth : Method} {c : Code} {Z : State} {own nm : String} {bytes : ByteArray} {maxL : Nat} {ret : Option FieldType} {T : State} {h : Heap} {cs ss n0 : Nat} {Q : Option Value → Heap → Prop} {rc rs : Nat} {pc pc' pf pt : Nat} {Ls Ls' : Array Slot} {st rest : List Value} {a0 : Array Value}
theorem g_initO (K : Cx p s m meth c Z own nm bytes maxL ret) (W : Wd p l e R s m args below meth c n0 T h cs ss) {idx : Nat} {a : Addr} (w1 : (Jvm.Cond.methodLink own idx Lib.objectInit).before a0 Z = true) (w2 : (Jvm.Cond.instanceMethod Lib.objectInit).before a0 Z = true) (w3 : (Jvm.Cond.code Lib.objectInit object_method_1_code 1 none).before a0 Z = true) (hsz : Ls.size = maxL) (hd : decode bytes pc = .ok (.invokespecial idx, 3)) (hp : pc + 3 = pc') (hf : 1 ≤ R.frames) {wt : Nat} (hwt : (st.map fun v => v.category).sum = wt) (hl : wt + 12 ≤ R.locals)
    (G : ∀ T', Wd p l e R s m args below meth c n0 T' h cs ss → Go p e below s n0 Q rc rs T' (mkF m pc' Ls st)) : Go p e below s n0 Q rc rs T (mkF m pc Ls (.ref a :: st)) := by
  obtain ⟨locs, X, N, eT, z⟩ := W; subst hp hwt
  obtain ⟨T', X', e', q⟩ := initO X K.1 K.2.1 K.2.2.2.2.1 w1 w2 w3 eT (g := mkF m pc Ls (.ref a :: st)) rfl (hsz.trans K.2.2.2.1.symm) rfl (hb K.2.2.1 hd) hf (W := (st.map fun v => v.category).sum) (by show 2 * 0 + _ ≤ _; omega) hl
  exact Go.stp q (G T' ⟨locs, X', N, e', z⟩)
end OwnObj
section OwnCp
variable {p : Program} {l : Launch} {e : Env} {R : Room} {s : State} {m : MethodId} {args : Array Value} {below : List Frame} {meth : Method} {c : Code} {Z : State} {own nm : String} {bytes : ByteArray} {maxL : Nat} {ret : Option FieldType} {T : State} {h : Heap} {cs ss n0 : Nat} {Q : Option Value → Heap → Prop} {rc rs : Nat} {pc pc' pf pt : Nat} {Ls Ls' : Array Slot} {st rest : List Value} {a0 : Array Value}
theorem own_cplist {α : Type} (f g : Nat → α) (d : α) {n n' len : Nat} (h1 : len ≤ n) (h2 : len ≤ n') (j : Nat) (hj : j < n') :
    ((((List.range n').map g).take 0 ++ ((List.range len).map fun i => ((List.range n).map f).getD (0 + i) d)) ++ ((List.range n').map g).drop (0 + len)).getD j d = if j < len then f j else g j := by
  simp only [List.take_zero, List.nil_append, List.getD_eq_getElem?_getD]
  by_cases q : j < len
  · rw [if_pos q, List.getElem?_append_left (by simp; exact q)]
    simp [q, show j < n by omega]
  · rw [if_neg q, List.getElem?_append_right (by simp; omega)]
    simp [show len + (j - len) = j by omega, hj]
theorem AyI.arv {a : Addr} {n : Nat} {f : Nat → Int32} (hn : n < 2147483648) (A : AyI Z h a .int n f) : ∃ k, Arv Z h a k .int (Int32.ofNat n) ((List.range n).map fun j => .int (f j)) (.int 0) := by
  obtain ⟨cl, q, r1, r2⟩ := A
  have z := own_ix (Int32.toInt_ofNat_of_lt hn)
  have e : ∀ j, j < n → ((List.range n).map fun j => Value.int (f j)).getD j (.int 0) = .int (f j) := fun j hj => by simp [List.getD_eq_getElem?_getD, hj]
  refine ⟨cl.cls, cl, q, rfl, by rw [r1, z.2], z.1, fun j hj => ?_, fun j hj => ?_⟩
  · rw [r1] at hj; rw [e j hj]; exact r2 j hj
  · rw [r1] at hj; rw [e j hj]; rfl
theorem AyJ.arv {a : Addr} {n : Nat} {f : Nat → Int64} (hn : n < 2147483648) (A : AyJ Z h a n f) : ∃ k, Arv Z h a k .long (Int32.ofNat n) ((List.range n).map fun j => .long (f j)) (.int 0) := by
  obtain ⟨cl, q, r1, r2⟩ := A
  have z := own_ix (Int32.toInt_ofNat_of_lt hn)
  have e : ∀ j, j < n → ((List.range n).map fun j => Value.long (f j)).getD j (.int 0) = .long (f j) := fun j hj => by simp [List.getD_eq_getElem?_getD, hj]
  refine ⟨cl.cls, cl, q, rfl, by rw [r1, z.2], z.1, fun j hj => ?_, fun j hj => ?_⟩
  · rw [r1] at hj; rw [e j hj]; exact r2 j hj
  · rw [r1] at hj; rw [e j hj]; rfl
theorem g_cpI (K : Cx p s m meth c Z own nm bytes maxL ret) (W : Wd p l e R s m args below meth c n0 T h cs ss) {index : Nat} {a b : Addr} {n n' len : Nat} {f g : Nat → Int32} {nn : Int32} (w1 : (Jvm.Cond.methodLink own index Jvm.Stand.acN).before a0 Z = true) (w2 : (Jvm.Cond.native Jvm.Stand.acN).before a0 Z = true) (w3 : (Jvm.Cond.static Jvm.Stand.acN).before a0 Z = true) (w4 : (Jvm.Cond.initialized "java/lang/System").before a0 Z = true)
    (A : AyI Z h a .int n f) (B : AyI Z h b .int n' g) (hn : n < 2147483648) (hn' : n' < 2147483648) (hm : nn.toInt = (len : Int)) (h1 : len ≤ n) (h2 : len ≤ n') (ge : n0 ≤ b) (hsz : Ls.size = maxL) (hd : decode bytes pc = .ok (.invokestatic index, 3)) (hp : pc + 3 = pc') (hf : 1 ≤ R.frames) {wt : Nat} (hwt : (st.map fun v => v.category).sum = wt) (hl : wt + 18 ≤ R.locals)
    (G : ∀ T' h', Wd p l e R s m args below meth c n0 T' h' cs ss → Keep h h' [b] → AyI Z h' b .int n' (fun j => if j < len then f j else g j) → Go p e below s n0 Q rc rs T' (mkF m pc' Ls st)) : Go p e below s n0 Q rc rs T (mkF m pc Ls (.int nn :: .int 0 :: .ref b :: .int 0 :: .ref a :: st)) := by
  obtain ⟨locs, X, N, eT, z⟩ := W; subst hp hwt
  obtain ⟨k1, A1⟩ := A.arv hn
  obtain ⟨k2, B1⟩ := B.arv hn'
  have zn := own_ix (Int32.toInt_ofNat_of_lt hn); have zn' := own_ix (Int32.toInt_ofNat_of_lt hn'); have zl := own_ix hm
  have z0 := own_ix (j := 0) (k := 0) rfl
  obtain ⟨T', h', L, X', e', N', kq, B2, q⟩ := cpA X K.1 K.2.1 K.2.2.2.2.1 w1 w2 w3 w4 eT A1 B1 (Or.inl ⟨rfl, rfl⟩) z0.1 z0.1 zl.1 (by rw [z0.2, zl.2, zn.2]; omega) (by rw [z0.2, zl.2, zn'.2]; omega) rfl (by rw [z0.2, zl.2]; simp; exact h2) N ge (g := mkF m pc Ls (.int nn :: .int 0 :: .ref b :: .int 0 :: .ref a :: st)) rfl (hsz.trans K.2.2.2.1.symm) rfl (hb K.2.2.1 hd) hf (W := (st.map fun v => v.category).sum) (by show 2 * 0 + _ ≤ _; omega) (by rw [show nativeFrameWords "java/lang/System" "arraycopy" 5 = 7 by decide +kernel]; exact hl)
  refine Go.stp q (G T' h' ⟨L, X', N', e', z⟩ kq ?_)
  obtain ⟨cl, r0, -, r1, -, r2, -⟩ := B2
  rw [zn'.2] at r1
  refine ⟨cl, r0, r1, fun j hj => ?_⟩
  have y := r2 j (by rw [r1]; exact hj)
  rw [z0.2, zl.2] at y
  rw [y, own_cplist (fun j => Value.int (f j)) (fun j => Value.int (g j)) (.int 0) h1 h2 j hj]
  show _ = some (Value.int (if j < len then f j else g j))
  by_cases x : j < len
  · rw [if_pos x, if_pos x]
  · rw [if_neg x, if_neg x]
theorem g_cpJ (K : Cx p s m meth c Z own nm bytes maxL ret) (W : Wd p l e R s m args below meth c n0 T h cs ss) {index : Nat} {a b : Addr} {n n' len : Nat} {f g : Nat → Int64} {nn : Int32} (w1 : (Jvm.Cond.methodLink own index Jvm.Stand.acN).before a0 Z = true) (w2 : (Jvm.Cond.native Jvm.Stand.acN).before a0 Z = true) (w3 : (Jvm.Cond.static Jvm.Stand.acN).before a0 Z = true) (w4 : (Jvm.Cond.initialized "java/lang/System").before a0 Z = true)
    (A : AyJ Z h a n f) (B : AyJ Z h b n' g) (hn : n < 2147483648) (hn' : n' < 2147483648) (hm : nn.toInt = (len : Int)) (h1 : len ≤ n) (h2 : len ≤ n') (ge : n0 ≤ b) (hsz : Ls.size = maxL) (hd : decode bytes pc = .ok (.invokestatic index, 3)) (hp : pc + 3 = pc') (hf : 1 ≤ R.frames) {wt : Nat} (hwt : (st.map fun v => v.category).sum = wt) (hl : wt + 18 ≤ R.locals)
    (G : ∀ T' h', Wd p l e R s m args below meth c n0 T' h' cs ss → Keep h h' [b] → AyJ Z h' b n' (fun j => if j < len then f j else g j) → Go p e below s n0 Q rc rs T' (mkF m pc' Ls st)) : Go p e below s n0 Q rc rs T (mkF m pc Ls (.int nn :: .int 0 :: .ref b :: .int 0 :: .ref a :: st)) := by
  obtain ⟨locs, X, N, eT, z⟩ := W; subst hp hwt
  obtain ⟨k1, A1⟩ := A.arv hn
  obtain ⟨k2, B1⟩ := B.arv hn'
  have zn := own_ix (Int32.toInt_ofNat_of_lt hn); have zn' := own_ix (Int32.toInt_ofNat_of_lt hn'); have zl := own_ix hm
  have z0 := own_ix (j := 0) (k := 0) rfl
  obtain ⟨T', h', L, X', e', N', kq, B2, q⟩ := cpA X K.1 K.2.1 K.2.2.2.2.1 w1 w2 w3 w4 eT A1 B1 (Or.inl ⟨rfl, rfl⟩) z0.1 z0.1 zl.1 (by rw [z0.2, zl.2, zn.2]; omega) (by rw [z0.2, zl.2, zn'.2]; omega) rfl (by rw [z0.2, zl.2]; simp; exact h2) N ge (g := mkF m pc Ls (.int nn :: .int 0 :: .ref b :: .int 0 :: .ref a :: st)) rfl (hsz.trans K.2.2.2.1.symm) rfl (hb K.2.2.1 hd) hf (W := (st.map fun v => v.category).sum) (by show 2 * 0 + _ ≤ _; omega) (by rw [show nativeFrameWords "java/lang/System" "arraycopy" 5 = 7 by decide +kernel]; exact hl)
  refine Go.stp q (G T' h' ⟨L, X', N', e', z⟩ kq ?_)
  obtain ⟨cl, r0, -, r1, -, r2, -⟩ := B2
  rw [zn'.2] at r1
  refine ⟨cl, r0, r1, fun j hj => ?_⟩
  have y := r2 j (by rw [r1]; exact hj)
  rw [z0.2, zl.2] at y
  rw [y, own_cplist (fun j => Value.long (f j)) (fun j => Value.long (g j)) (.int 0) h1 h2 j hj]
  show _ = some (Value.long (if j < len then f j else g j))
  by_cases x : j < len
  · rw [if_pos x, if_pos x]
  · rw [if_neg x, if_neg x]
end OwnCp
theorem d6_0 : decode jdk_29_method_70_code 0 = .ok (.lload_n 0, 1) := by decide +kernel
theorem d6_1 : decode jdk_29_method_70_code 1 = .ok (.lload_n 2, 1) := by decide +kernel
theorem d6_2 : decode jdk_29_method_70_code 2 = .ok (.lcmp, 1) := by decide +kernel
theorem d6_3 : decode jdk_29_method_70_code 3 = .ok (.ifCond .gt 7, 3) := by decide +kernel
theorem d6_6 : decode jdk_29_method_70_code 6 = .ok (.lload_n 0, 1) := by decide +kernel
theorem d6_7 : decode jdk_29_method_70_code 7 = .ok (.goto 4, 3) := by decide +kernel
theorem d6_10 : decode jdk_29_method_70_code 10 = .ok (.lload_n 2, 1) := by decide +kernel
theorem d6_11 : decode jdk_29_method_70_code 11 = .ok (.lreturn, 1) := by decide +kernel
theorem pn_0 : plainName "java/util/Arrays" = true := by first | (simp [plainName, overriddenIn]; done) | decide +kernel
theorem d3_0 : decode jdk_65_method_103_code 0 = .ok (.iconst 0, 1) := by decide +kernel
theorem d3_1 : decode jdk_65_method_103_code 1 = .ok (.istore_n 2, 1) := by decide +kernel
theorem d3_2 : decode jdk_65_method_103_code 2 = .ok (.aload_n 0, 1) := by decide +kernel
theorem d3_3 : decode jdk_65_method_103_code 3 = .ok (.arraylength, 1) := by decide +kernel
theorem d3_4 : decode jdk_65_method_103_code 4 = .ok (.istore_n 3, 1) := by decide +kernel
theorem d3_5 : decode jdk_65_method_103_code 5 = .ok (.iload_n 2, 1) := by decide +kernel
theorem d3_6 : decode jdk_65_method_103_code 6 = .ok (.iload_n 3, 1) := by decide +kernel
theorem d3_7 : decode jdk_65_method_103_code 7 = .ok (.if_icmp .ge 13, 3) := by decide +kernel
theorem d3_10 : decode jdk_65_method_103_code 10 = .ok (.aload_n 0, 1) := by decide +kernel
theorem d3_11 : decode jdk_65_method_103_code 11 = .ok (.iload_n 2, 1) := by decide +kernel
theorem d3_12 : decode jdk_65_method_103_code 12 = .ok (.iload_n 1, 1) := by decide +kernel
theorem d3_13 : decode jdk_65_method_103_code 13 = .ok (.iastore, 1) := by decide +kernel
theorem d3_14 : decode jdk_65_method_103_code 14 = .ok (.iinc 2 1, 3) := by decide +kernel
theorem d3_17 : decode jdk_65_method_103_code 17 = .ok (.goto (-12), 3) := by decide +kernel
theorem d3_20 : decode jdk_65_method_103_code 20 = .ok (.return_, 1) := by decide +kernel
theorem pn_1 : plainName "com/example/ichnos/ichnos/planning/ils/MinCut" = true := by first | (simp [plainName, overriddenIn]; done) | decide +kernel
theorem d12_0 : decode prog_66_method_5_code 0 = .ok (.aload_n 3, 1) := by decide +kernel
theorem d12_1 : decode prog_66_method_5_code 1 = .ok (.iconst (-1), 1) := by decide +kernel
theorem d12_2 : decode prog_66_method_5_code 2 = .ok (.invokestatic 29, 3) := by decide +kernel
theorem d12_5 : decode prog_66_method_5_code 5 = .ok (.aload_n 3, 1) := by decide +kernel
theorem d12_6 : decode prog_66_method_5_code 6 = .ok (.iload_n 1, 1) := by decide +kernel
theorem d12_7 : decode prog_66_method_5_code 7 = .ok (.iconst 0, 1) := by decide +kernel
theorem d12_8 : decode prog_66_method_5_code 8 = .ok (.iastore, 1) := by decide +kernel
theorem d12_9 : decode prog_66_method_5_code 9 = .ok (.aload 4, 2) := by decide +kernel
theorem d12_11 : decode prog_66_method_5_code 11 = .ok (.iconst 0, 1) := by decide +kernel
theorem d12_12 : decode prog_66_method_5_code 12 = .ok (.iload_n 1, 1) := by decide +kernel
theorem d12_13 : decode prog_66_method_5_code 13 = .ok (.iastore, 1) := by decide +kernel
theorem d12_14 : decode prog_66_method_5_code 14 = .ok (.iconst 1, 1) := by decide +kernel
theorem d12_15 : decode prog_66_method_5_code 15 = .ok (.istore 5, 2) := by decide +kernel
theorem d12_17 : decode prog_66_method_5_code 17 = .ok (.iconst 0, 1) := by decide +kernel
theorem d12_18 : decode prog_66_method_5_code 18 = .ok (.istore 6, 2) := by decide +kernel
theorem d12_20 : decode prog_66_method_5_code 20 = .ok (.iload 6, 2) := by decide +kernel
theorem d12_22 : decode prog_66_method_5_code 22 = .ok (.iload 5, 2) := by decide +kernel
theorem d12_24 : decode prog_66_method_5_code 24 = .ok (.if_icmp .ge 96, 3) := by decide +kernel
theorem d12_27 : decode prog_66_method_5_code 27 = .ok (.aload 4, 2) := by decide +kernel
theorem d12_29 : decode prog_66_method_5_code 29 = .ok (.iload 6, 2) := by decide +kernel
theorem d12_31 : decode prog_66_method_5_code 31 = .ok (.iaload, 1) := by decide +kernel
theorem d12_32 : decode prog_66_method_5_code 32 = .ok (.istore 7, 2) := by decide +kernel
theorem d12_34 : decode prog_66_method_5_code 34 = .ok (.aload_n 0, 1) := by decide +kernel
theorem d12_35 : decode prog_66_method_5_code 35 = .ok (.getfield 26, 3) := by decide +kernel
theorem d12_38 : decode prog_66_method_5_code 38 = .ok (.iload 7, 2) := by decide +kernel
theorem d12_40 : decode prog_66_method_5_code 40 = .ok (.iaload, 1) := by decide +kernel
theorem d12_41 : decode prog_66_method_5_code 41 = .ok (.istore 8, 2) := by decide +kernel
theorem d12_43 : decode prog_66_method_5_code 43 = .ok (.iload 8, 2) := by decide +kernel
theorem d12_45 : decode prog_66_method_5_code 45 = .ok (.ifCond .lt 69, 3) := by decide +kernel
theorem d12_48 : decode prog_66_method_5_code 48 = .ok (.aload_n 0, 1) := by decide +kernel
theorem d12_49 : decode prog_66_method_5_code 49 = .ok (.getfield 15, 3) := by decide +kernel
theorem d12_52 : decode prog_66_method_5_code 52 = .ok (.iload 8, 2) := by decide +kernel
theorem d12_54 : decode prog_66_method_5_code 54 = .ok (.laload, 1) := by decide +kernel
theorem d12_55 : decode prog_66_method_5_code 55 = .ok (.lconst 0, 1) := by decide +kernel
theorem d12_56 : decode prog_66_method_5_code 56 = .ok (.lcmp, 1) := by decide +kernel
theorem d12_57 : decode prog_66_method_5_code 57 = .ok (.ifCond .le 45, 3) := by decide +kernel
theorem d12_60 : decode prog_66_method_5_code 60 = .ok (.aload_n 3, 1) := by decide +kernel
theorem d12_61 : decode prog_66_method_5_code 61 = .ok (.aload_n 0, 1) := by decide +kernel
theorem d12_62 : decode prog_66_method_5_code 62 = .ok (.getfield 9, 3) := by decide +kernel
theorem d12_65 : decode prog_66_method_5_code 65 = .ok (.iload 8, 2) := by decide +kernel
theorem d12_67 : decode prog_66_method_5_code 67 = .ok (.iaload, 1) := by decide +kernel
theorem d12_68 : decode prog_66_method_5_code 68 = .ok (.iaload, 1) := by decide +kernel
theorem d12_69 : decode prog_66_method_5_code 69 = .ok (.ifCond .ge 33, 3) := by decide +kernel
theorem d12_72 : decode prog_66_method_5_code 72 = .ok (.aload_n 3, 1) := by decide +kernel
theorem d12_73 : decode prog_66_method_5_code 73 = .ok (.aload_n 0, 1) := by decide +kernel
theorem d12_74 : decode prog_66_method_5_code 74 = .ok (.getfield 9, 3) := by decide +kernel
theorem d12_77 : decode prog_66_method_5_code 77 = .ok (.iload 8, 2) := by decide +kernel
theorem d12_79 : decode prog_66_method_5_code 79 = .ok (.iaload, 1) := by decide +kernel
theorem d12_80 : decode prog_66_method_5_code 80 = .ok (.aload_n 3, 1) := by decide +kernel
theorem d12_81 : decode prog_66_method_5_code 81 = .ok (.iload 7, 2) := by decide +kernel
theorem d12_83 : decode prog_66_method_5_code 83 = .ok (.iaload, 1) := by decide +kernel
theorem d12_84 : decode prog_66_method_5_code 84 = .ok (.iconst 1, 1) := by decide +kernel
theorem d12_85 : decode prog_66_method_5_code 85 = .ok (.iadd, 1) := by decide +kernel
theorem d12_86 : decode prog_66_method_5_code 86 = .ok (.iastore, 1) := by decide +kernel
theorem d12_87 : decode prog_66_method_5_code 87 = .ok (.aload 4, 2) := by decide +kernel
theorem d12_89 : decode prog_66_method_5_code 89 = .ok (.iload 5, 2) := by decide +kernel
theorem d12_91 : decode prog_66_method_5_code 91 = .ok (.iinc 5 1, 3) := by decide +kernel
theorem d12_94 : decode prog_66_method_5_code 94 = .ok (.aload_n 0, 1) := by decide +kernel
theorem d12_95 : decode prog_66_method_5_code 95 = .ok (.getfield 9, 3) := by decide +kernel
theorem d12_98 : decode prog_66_method_5_code 98 = .ok (.iload 8, 2) := by decide +kernel
theorem d12_100 : decode prog_66_method_5_code 100 = .ok (.iaload, 1) := by decide +kernel
theorem d12_101 : decode prog_66_method_5_code 101 = .ok (.iastore, 1) := by decide +kernel
theorem d12_102 : decode prog_66_method_5_code 102 = .ok (.aload_n 0, 1) := by decide +kernel
theorem d12_103 : decode prog_66_method_5_code 103 = .ok (.getfield 19, 3) := by decide +kernel
theorem d12_106 : decode prog_66_method_5_code 106 = .ok (.iload 8, 2) := by decide +kernel
theorem d12_108 : decode prog_66_method_5_code 108 = .ok (.iaload, 1) := by decide +kernel
theorem d12_109 : decode prog_66_method_5_code 109 = .ok (.istore 8, 2) := by decide +kernel
theorem d12_111 : decode prog_66_method_5_code 111 = .ok (.goto (-68), 3) := by decide +kernel
theorem d12_114 : decode prog_66_method_5_code 114 = .ok (.iinc 6 1, 3) := by decide +kernel
theorem d12_117 : decode prog_66_method_5_code 117 = .ok (.goto (-97), 3) := by decide +kernel
theorem d12_120 : decode prog_66_method_5_code 120 = .ok (.aload_n 3, 1) := by decide +kernel
theorem d12_121 : decode prog_66_method_5_code 121 = .ok (.iload_n 2, 1) := by decide +kernel
theorem d12_122 : decode prog_66_method_5_code 122 = .ok (.iaload, 1) := by decide +kernel
theorem d12_123 : decode prog_66_method_5_code 123 = .ok (.ifCond .lt 7, 3) := by decide +kernel
theorem d12_126 : decode prog_66_method_5_code 126 = .ok (.iconst 1, 1) := by decide +kernel
theorem d12_127 : decode prog_66_method_5_code 127 = .ok (.goto 4, 3) := by decide +kernel
theorem d12_130 : decode prog_66_method_5_code 130 = .ok (.iconst 0, 1) := by decide +kernel
theorem d12_131 : decode prog_66_method_5_code 131 = .ok (.ireturn, 1) := by decide +kernel
theorem pd_0 : parseMethodDescriptor "([II)V" = some ⟨[(.array .int), .int], none⟩ := by decide +kernel
theorem d14_0 : decode prog_66_method_7_code 0 = .ok (.aload_n 0, 1) := by decide +kernel
theorem d14_1 : decode prog_66_method_7_code 1 = .ok (.getfield 9, 3) := by decide +kernel
theorem d14_4 : decode prog_66_method_7_code 4 = .ok (.iload_n 1, 1) := by decide +kernel
theorem d14_5 : decode prog_66_method_7_code 5 = .ok (.iaload, 1) := by decide +kernel
theorem d14_6 : decode prog_66_method_7_code 6 = .ok (.istore 5, 2) := by decide +kernel
theorem d14_8 : decode prog_66_method_7_code 8 = .ok (.aload_n 0, 1) := by decide +kernel
theorem d14_9 : decode prog_66_method_7_code 9 = .ok (.getfield 15, 3) := by decide +kernel
theorem d14_12 : decode prog_66_method_7_code 12 = .ok (.iload_n 1, 1) := by decide +kernel
theorem d14_13 : decode prog_66_method_7_code 13 = .ok (.laload, 1) := by decide +kernel
theorem d14_14 : decode prog_66_method_7_code 14 = .ok (.lconst 0, 1) := by decide +kernel
theorem d14_15 : decode prog_66_method_7_code 15 = .ok (.lcmp, 1) := by decide +kernel
theorem d14_16 : decode prog_66_method_7_code 16 = .ok (.ifCond .le 39, 3) := by decide +kernel
theorem d14_19 : decode prog_66_method_7_code 19 = .ok (.aload 4, 2) := by decide +kernel
theorem d14_21 : decode prog_66_method_7_code 21 = .ok (.iload 5, 2) := by decide +kernel
theorem d14_23 : decode prog_66_method_7_code 23 = .ok (.iaload, 1) := by decide +kernel
theorem d14_24 : decode prog_66_method_7_code 24 = .ok (.aload 4, 2) := by decide +kernel
theorem d14_26 : decode prog_66_method_7_code 26 = .ok (.iload_n 2, 1) := by decide +kernel
theorem d14_27 : decode prog_66_method_7_code 27 = .ok (.iaload, 1) := by decide +kernel
theorem d14_28 : decode prog_66_method_7_code 28 = .ok (.iconst 1, 1) := by decide +kernel
theorem d14_29 : decode prog_66_method_7_code 29 = .ok (.iadd, 1) := by decide +kernel
theorem d14_30 : decode prog_66_method_7_code 30 = .ok (.if_icmp .ne 25, 3) := by decide +kernel
theorem d14_33 : decode prog_66_method_7_code 33 = .ok (.iload 5, 2) := by decide +kernel
theorem d14_35 : decode prog_66_method_7_code 35 = .ok (.iload_n 3, 1) := by decide +kernel
theorem d14_36 : decode prog_66_method_7_code 36 = .ok (.if_icmp .eq 15, 3) := by decide +kernel
theorem d14_39 : decode prog_66_method_7_code 39 = .ok (.aload 4, 2) := by decide +kernel
theorem d14_41 : decode prog_66_method_7_code 41 = .ok (.iload 5, 2) := by decide +kernel
theorem d14_43 : decode prog_66_method_7_code 43 = .ok (.iaload, 1) := by decide +kernel
theorem d14_44 : decode prog_66_method_7_code 44 = .ok (.aload 4, 2) := by decide +kernel
theorem d14_46 : decode prog_66_method_7_code 46 = .ok (.iload_n 3, 1) := by decide +kernel
theorem d14_47 : decode prog_66_method_7_code 47 = .ok (.iaload, 1) := by decide +kernel
theorem d14_48 : decode prog_66_method_7_code 48 = .ok (.if_icmp .ge 7, 3) := by decide +kernel
theorem d14_51 : decode prog_66_method_7_code 51 = .ok (.iconst 1, 1) := by decide +kernel
theorem d14_52 : decode prog_66_method_7_code 52 = .ok (.goto 4, 3) := by decide +kernel
theorem d14_55 : decode prog_66_method_7_code 55 = .ok (.iconst 0, 1) := by decide +kernel
theorem d14_56 : decode prog_66_method_7_code 56 = .ok (.ireturn, 1) := by decide +kernel
theorem d13_0 : decode prog_66_method_6_code 0 = .ok (.iconst 0, 1) := by decide +kernel
theorem d13_1 : decode prog_66_method_6_code 1 = .ok (.istore 6, 2) := by decide +kernel
theorem d13_3 : decode prog_66_method_6_code 3 = .ok (.iload_n 1, 1) := by decide +kernel
theorem d13_4 : decode prog_66_method_6_code 4 = .ok (.istore 7, 2) := by decide +kernel
theorem d13_6 : decode prog_66_method_6_code 6 = .ok (.lconst 0, 1) := by decide +kernel
theorem d13_7 : decode prog_66_method_6_code 7 = .ok (.lstore 8, 2) := by decide +kernel
theorem d13_9 : decode prog_66_method_6_code 9 = .ok (.lload 8, 2) := by decide +kernel
theorem d13_11 : decode prog_66_method_6_code 11 = .ok (.lconst 0, 1) := by decide +kernel
theorem d13_12 : decode prog_66_method_6_code 12 = .ok (.lcmp, 1) := by decide +kernel
theorem d13_13 : decode prog_66_method_6_code 13 = .ok (.ifCond .ne 232, 3) := by decide +kernel
theorem d13_16 : decode prog_66_method_6_code 16 = .ok (.iload 7, 2) := by decide +kernel
theorem d13_18 : decode prog_66_method_6_code 18 = .ok (.iload_n 1, 1) := by decide +kernel
theorem d13_19 : decode prog_66_method_6_code 19 = .ok (.if_icmp .ne 10, 3) := by decide +kernel
theorem d13_22 : decode prog_66_method_6_code 22 = .ok (.aload 4, 2) := by decide +kernel
theorem d13_24 : decode prog_66_method_6_code 24 = .ok (.iload_n 1, 1) := by decide +kernel
theorem d13_25 : decode prog_66_method_6_code 25 = .ok (.iaload, 1) := by decide +kernel
theorem d13_26 : decode prog_66_method_6_code 26 = .ok (.ifCond .lt 219, 3) := by decide +kernel
theorem d13_29 : decode prog_66_method_6_code 29 = .ok (.iload 7, 2) := by decide +kernel
theorem d13_31 : decode prog_66_method_6_code 31 = .ok (.iload_n 2, 1) := by decide +kernel
theorem d13_32 : decode prog_66_method_6_code 32 = .ok (.if_icmp .ne 96, 3) := by decide +kernel
theorem d13_35 : decode prog_66_method_6_code 35 = .ok (.ldc2_w 45, 3) := by decide +kernel
theorem d13_38 : decode prog_66_method_6_code 38 = .ok (.lstore 10, 2) := by decide +kernel
theorem d13_40 : decode prog_66_method_6_code 40 = .ok (.iconst 0, 1) := by decide +kernel
theorem d13_41 : decode prog_66_method_6_code 41 = .ok (.istore 12, 2) := by decide +kernel
theorem d13_43 : decode prog_66_method_6_code 43 = .ok (.iload 12, 2) := by decide +kernel
theorem d13_45 : decode prog_66_method_6_code 45 = .ok (.iload 6, 2) := by decide +kernel
theorem d13_47 : decode prog_66_method_6_code 47 = .ok (.if_icmp .ge 26, 3) := by decide +kernel
theorem d13_50 : decode prog_66_method_6_code 50 = .ok (.lload 10, 2) := by decide +kernel
theorem d13_52 : decode prog_66_method_6_code 52 = .ok (.aload_n 0, 1) := by decide +kernel
theorem d13_53 : decode prog_66_method_6_code 53 = .ok (.getfield 15, 3) := by decide +kernel
theorem d13_56 : decode prog_66_method_6_code 56 = .ok (.aload 5, 2) := by decide +kernel
theorem d13_58 : decode prog_66_method_6_code 58 = .ok (.iload 12, 2) := by decide +kernel
theorem d13_60 : decode prog_66_method_6_code 60 = .ok (.iaload, 1) := by decide +kernel
theorem d13_61 : decode prog_66_method_6_code 61 = .ok (.laload, 1) := by decide +kernel
theorem d13_62 : decode prog_66_method_6_code 62 = .ok (.invokestatic 47, 3) := by decide +kernel
theorem d13_65 : decode prog_66_method_6_code 65 = .ok (.lstore 10, 2) := by decide +kernel
theorem d13_67 : decode prog_66_method_6_code 67 = .ok (.iinc 12 1, 3) := by decide +kernel
theorem d13_70 : decode prog_66_method_6_code 70 = .ok (.goto (-27), 3) := by decide +kernel
theorem d13_73 : decode prog_66_method_6_code 73 = .ok (.iconst 0, 1) := by decide +kernel
theorem d13_74 : decode prog_66_method_6_code 74 = .ok (.istore 12, 2) := by decide +kernel
theorem d13_76 : decode prog_66_method_6_code 76 = .ok (.iload 12, 2) := by decide +kernel
theorem d13_78 : decode prog_66_method_6_code 78 = .ok (.iload 6, 2) := by decide +kernel
theorem d13_80 : decode prog_66_method_6_code 80 = .ok (.if_icmp .ge 41, 3) := by decide +kernel
theorem d13_83 : decode prog_66_method_6_code 83 = .ok (.aload_n 0, 1) := by decide +kernel
theorem d13_84 : decode prog_66_method_6_code 84 = .ok (.getfield 15, 3) := by decide +kernel
theorem d13_87 : decode prog_66_method_6_code 87 = .ok (.aload 5, 2) := by decide +kernel
theorem d13_89 : decode prog_66_method_6_code 89 = .ok (.iload 12, 2) := by decide +kernel
theorem d13_91 : decode prog_66_method_6_code 91 = .ok (.iaload, 1) := by decide +kernel
theorem d13_92 : decode prog_66_method_6_code 92 = .ok (.dup2, 1) := by decide +kernel
theorem d13_93 : decode prog_66_method_6_code 93 = .ok (.laload, 1) := by decide +kernel
theorem d13_94 : decode prog_66_method_6_code 94 = .ok (.lload 10, 2) := by decide +kernel
theorem d13_96 : decode prog_66_method_6_code 96 = .ok (.lsub, 1) := by decide +kernel
theorem d13_97 : decode prog_66_method_6_code 97 = .ok (.lastore, 1) := by decide +kernel
theorem d13_98 : decode prog_66_method_6_code 98 = .ok (.aload_n 0, 1) := by decide +kernel
theorem d13_99 : decode prog_66_method_6_code 99 = .ok (.getfield 15, 3) := by decide +kernel
theorem d13_102 : decode prog_66_method_6_code 102 = .ok (.aload 5, 2) := by decide +kernel
theorem d13_104 : decode prog_66_method_6_code 104 = .ok (.iload 12, 2) := by decide +kernel
theorem d13_106 : decode prog_66_method_6_code 106 = .ok (.iaload, 1) := by decide +kernel
theorem d13_107 : decode prog_66_method_6_code 107 = .ok (.iconst 1, 1) := by decide +kernel
theorem d13_108 : decode prog_66_method_6_code 108 = .ok (.ixor, 1) := by decide +kernel
theorem d13_109 : decode prog_66_method_6_code 109 = .ok (.dup2, 1) := by decide +kernel
theorem d13_110 : decode prog_66_method_6_code 110 = .ok (.laload, 1) := by decide +kernel
theorem d13_111 : decode prog_66_method_6_code 111 = .ok (.lload 10, 2) := by decide +kernel
theorem d13_113 : decode prog_66_method_6_code 113 = .ok (.ladd, 1) := by decide +kernel
theorem d13_114 : decode prog_66_method_6_code 114 = .ok (.lastore, 1) := by decide +kernel
theorem d13_115 : decode prog_66_method_6_code 115 = .ok (.iinc 12 1, 3) := by decide +kernel
theorem d13_118 : decode prog_66_method_6_code 118 = .ok (.goto (-42), 3) := by decide +kernel
theorem d13_121 : decode prog_66_method_6_code 121 = .ok (.lload 10, 2) := by decide +kernel
theorem d13_123 : decode prog_66_method_6_code 123 = .ok (.lstore 8, 2) := by decide +kernel
theorem d13_125 : decode prog_66_method_6_code 125 = .ok (.goto (-116), 3) := by decide +kernel
theorem d13_128 : decode prog_66_method_6_code 128 = .ok (.aload 4, 2) := by decide +kernel
theorem d13_130 : decode prog_66_method_6_code 130 = .ok (.iload 7, 2) := by decide +kernel
theorem d13_132 : decode prog_66_method_6_code 132 = .ok (.iaload, 1) := by decide +kernel
theorem d13_133 : decode prog_66_method_6_code 133 = .ok (.istore 10, 2) := by decide +kernel
theorem d13_135 : decode prog_66_method_6_code 135 = .ok (.iload 10, 2) := by decide +kernel
theorem d13_137 : decode prog_66_method_6_code 137 = .ok (.ifCond .lt 28, 3) := by decide +kernel
theorem d13_140 : decode prog_66_method_6_code 140 = .ok (.aload_n 0, 1) := by decide +kernel
theorem d13_141 : decode prog_66_method_6_code 141 = .ok (.iload 10, 2) := by decide +kernel
theorem d13_143 : decode prog_66_method_6_code 143 = .ok (.iload 7, 2) := by decide +kernel
theorem d13_145 : decode prog_66_method_6_code 145 = .ok (.iload_n 2, 1) := by decide +kernel
theorem d13_146 : decode prog_66_method_6_code 146 = .ok (.aload_n 3, 1) := by decide +kernel
theorem d13_147 : decode prog_66_method_6_code 147 = .ok (.invokevirtual 71, 3) := by decide +kernel
theorem d13_150 : decode prog_66_method_6_code 150 = .ok (.ifCond .ne 15, 3) := by decide +kernel
theorem d13_153 : decode prog_66_method_6_code 153 = .ok (.aload_n 0, 1) := by decide +kernel
theorem d13_154 : decode prog_66_method_6_code 154 = .ok (.getfield 19, 3) := by decide +kernel
theorem d13_157 : decode prog_66_method_6_code 157 = .ok (.iload 10, 2) := by decide +kernel
theorem d13_159 : decode prog_66_method_6_code 159 = .ok (.iaload, 1) := by decide +kernel
theorem d13_160 : decode prog_66_method_6_code 160 = .ok (.istore 10, 2) := by decide +kernel
theorem d13_162 : decode prog_66_method_6_code 162 = .ok (.goto (-27), 3) := by decide +kernel
theorem d13_165 : decode prog_66_method_6_code 165 = .ok (.aload 4, 2) := by decide +kernel
theorem d13_167 : decode prog_66_method_6_code 167 = .ok (.iload 7, 2) := by decide +kernel
theorem d13_169 : decode prog_66_method_6_code 169 = .ok (.iload 10, 2) := by decide +kernel
theorem d13_171 : decode prog_66_method_6_code 171 = .ok (.iastore, 1) := by decide +kernel
theorem d13_172 : decode prog_66_method_6_code 172 = .ok (.iload 10, 2) := by decide +kernel
theorem d13_174 : decode prog_66_method_6_code 174 = .ok (.ifCond .lt 25, 3) := by decide +kernel
theorem d13_177 : decode prog_66_method_6_code 177 = .ok (.aload 5, 2) := by decide +kernel
theorem d13_179 : decode prog_66_method_6_code 179 = .ok (.iload 6, 2) := by decide +kernel
theorem d13_181 : decode prog_66_method_6_code 181 = .ok (.iinc 6 1, 3) := by decide +kernel
theorem d13_184 : decode prog_66_method_6_code 184 = .ok (.iload 10, 2) := by decide +kernel
theorem d13_186 : decode prog_66_method_6_code 186 = .ok (.iastore, 1) := by decide +kernel
theorem d13_187 : decode prog_66_method_6_code 187 = .ok (.aload_n 0, 1) := by decide +kernel
theorem d13_188 : decode prog_66_method_6_code 188 = .ok (.getfield 9, 3) := by decide +kernel
theorem d13_191 : decode prog_66_method_6_code 191 = .ok (.iload 10, 2) := by decide +kernel
theorem d13_193 : decode prog_66_method_6_code 193 = .ok (.iaload, 1) := by decide +kernel
theorem d13_194 : decode prog_66_method_6_code 194 = .ok (.istore 7, 2) := by decide +kernel
theorem d13_196 : decode prog_66_method_6_code 196 = .ok (.goto 46, 3) := by decide +kernel
theorem d13_199 : decode prog_66_method_6_code 199 = .ok (.iload 6, 2) := by decide +kernel
theorem d13_201 : decode prog_66_method_6_code 201 = .ok (.ifCond .le 38, 3) := by decide +kernel
theorem d13_204 : decode prog_66_method_6_code 204 = .ok (.iinc 6 (-1), 3) := by decide +kernel
theorem d13_207 : decode prog_66_method_6_code 207 = .ok (.aload_n 0, 1) := by decide +kernel
theorem d13_208 : decode prog_66_method_6_code 208 = .ok (.getfield 9, 3) := by decide +kernel
theorem d13_211 : decode prog_66_method_6_code 211 = .ok (.aload 5, 2) := by decide +kernel
theorem d13_213 : decode prog_66_method_6_code 213 = .ok (.iload 6, 2) := by decide +kernel
theorem d13_215 : decode prog_66_method_6_code 215 = .ok (.iaload, 1) := by decide +kernel
theorem d13_216 : decode prog_66_method_6_code 216 = .ok (.iconst 1, 1) := by decide +kernel
theorem d13_217 : decode prog_66_method_6_code 217 = .ok (.ixor, 1) := by decide +kernel
theorem d13_218 : decode prog_66_method_6_code 218 = .ok (.iaload, 1) := by decide +kernel
theorem d13_219 : decode prog_66_method_6_code 219 = .ok (.istore 7, 2) := by decide +kernel
theorem d13_221 : decode prog_66_method_6_code 221 = .ok (.aload 4, 2) := by decide +kernel
theorem d13_223 : decode prog_66_method_6_code 223 = .ok (.iload 7, 2) := by decide +kernel
theorem d13_225 : decode prog_66_method_6_code 225 = .ok (.aload_n 0, 1) := by decide +kernel
theorem d13_226 : decode prog_66_method_6_code 226 = .ok (.getfield 19, 3) := by decide +kernel
theorem d13_229 : decode prog_66_method_6_code 229 = .ok (.aload 4, 2) := by decide +kernel
theorem d13_231 : decode prog_66_method_6_code 231 = .ok (.iload 7, 2) := by decide +kernel
theorem d13_233 : decode prog_66_method_6_code 233 = .ok (.iaload, 1) := by decide +kernel
theorem d13_234 : decode prog_66_method_6_code 234 = .ok (.iaload, 1) := by decide +kernel
theorem d13_235 : decode prog_66_method_6_code 235 = .ok (.iastore, 1) := by decide +kernel
theorem d13_236 : decode prog_66_method_6_code 236 = .ok (.goto 6, 3) := by decide +kernel
theorem d13_239 : decode prog_66_method_6_code 239 = .ok (.iload_n 1, 1) := by decide +kernel
theorem d13_240 : decode prog_66_method_6_code 240 = .ok (.istore 7, 2) := by decide +kernel
theorem d13_242 : decode prog_66_method_6_code 242 = .ok (.goto (-233), 3) := by decide +kernel
theorem d13_245 : decode prog_66_method_6_code 245 = .ok (.lload 8, 2) := by decide +kernel
theorem d13_247 : decode prog_66_method_6_code 247 = .ok (.lreturn, 1) := by decide +kernel
theorem pd_1 : parseMethodDescriptor "(JJ)J" = some ⟨[.long, .long], some .long⟩ := by decide +kernel
theorem pd_2 : parseMethodDescriptor "(III[I)Z" = some ⟨[.int, .int, .int, (.array .int)], some .boolean⟩ := by decide +kernel
theorem d11_0 : decode prog_66_method_4_code 0 = .ok (.aload_n 0, 1) := by decide +kernel
theorem d11_1 : decode prog_66_method_4_code 1 = .ok (.getfield 22, 3) := by decide +kernel
theorem d11_4 : decode prog_66_method_4_code 4 = .ok (.newarray .int, 2) := by decide +kernel
theorem d11_6 : decode prog_66_method_4_code 6 = .ok (.astore_n 3, 1) := by decide +kernel
theorem d11_7 : decode prog_66_method_4_code 7 = .ok (.aload_n 0, 1) := by decide +kernel
theorem d11_8 : decode prog_66_method_4_code 8 = .ok (.getfield 22, 3) := by decide +kernel
theorem d11_11 : decode prog_66_method_4_code 11 = .ok (.newarray .int, 2) := by decide +kernel
theorem d11_13 : decode prog_66_method_4_code 13 = .ok (.astore 4, 2) := by decide +kernel
theorem d11_15 : decode prog_66_method_4_code 15 = .ok (.aload_n 0, 1) := by decide +kernel
theorem d11_16 : decode prog_66_method_4_code 16 = .ok (.getfield 22, 3) := by decide +kernel
theorem d11_19 : decode prog_66_method_4_code 19 = .ok (.newarray .int, 2) := by decide +kernel
theorem d11_21 : decode prog_66_method_4_code 21 = .ok (.astore 5, 2) := by decide +kernel
theorem d11_23 : decode prog_66_method_4_code 23 = .ok (.aload_n 0, 1) := by decide +kernel
theorem d11_24 : decode prog_66_method_4_code 24 = .ok (.getfield 22, 3) := by decide +kernel
theorem d11_27 : decode prog_66_method_4_code 27 = .ok (.newarray .int, 2) := by decide +kernel
theorem d11_29 : decode prog_66_method_4_code 29 = .ok (.astore 6, 2) := by decide +kernel
theorem d11_31 : decode prog_66_method_4_code 31 = .ok (.lconst 0, 1) := by decide +kernel
theorem d11_32 : decode prog_66_method_4_code 32 = .ok (.lstore 7, 2) := by decide +kernel
theorem d11_34 : decode prog_66_method_4_code 34 = .ok (.aload_n 0, 1) := by decide +kernel
theorem d11_35 : decode prog_66_method_4_code 35 = .ok (.iload_n 1, 1) := by decide +kernel
theorem d11_36 : decode prog_66_method_4_code 36 = .ok (.iload_n 2, 1) := by decide +kernel
theorem d11_37 : decode prog_66_method_4_code 37 = .ok (.aload_n 3, 1) := by decide +kernel
theorem d11_38 : decode prog_66_method_4_code 38 = .ok (.aload 5, 2) := by decide +kernel
theorem d11_40 : decode prog_66_method_4_code 40 = .ok (.invokevirtual 57, 3) := by decide +kernel
theorem d11_43 : decode prog_66_method_4_code 43 = .ok (.ifCond .eq 75, 3) := by decide +kernel
theorem d11_46 : decode prog_66_method_4_code 46 = .ok (.aload_n 0, 1) := by decide +kernel
theorem d11_47 : decode prog_66_method_4_code 47 = .ok (.getfield 26, 3) := by decide +kernel
theorem d11_50 : decode prog_66_method_4_code 50 = .ok (.iconst 0, 1) := by decide +kernel
theorem d11_51 : decode prog_66_method_4_code 51 = .ok (.aload 4, 2) := by decide +kernel
theorem d11_53 : decode prog_66_method_4_code 53 = .ok (.iconst 0, 1) := by decide +kernel
theorem d11_54 : decode prog_66_method_4_code 54 = .ok (.aload_n 0, 1) := by decide +kernel
theorem d11_55 : decode prog_66_method_4_code 55 = .ok (.getfield 22, 3) := by decide +kernel
theorem d11_58 : decode prog_66_method_4_code 58 = .ok (.invokestatic 61, 3) := by decide +kernel
theorem d11_61 : decode prog_66_method_4_code 61 = .ok (.aload_n 0, 1) := by decide +kernel
theorem d11_62 : decode prog_66_method_4_code 62 = .ok (.iload_n 1, 1) := by decide +kernel
theorem d11_63 : decode prog_66_method_4_code 63 = .ok (.iload_n 2, 1) := by decide +kernel
theorem d11_64 : decode prog_66_method_4_code 64 = .ok (.aload_n 3, 1) := by decide +kernel
theorem d11_65 : decode prog_66_method_4_code 65 = .ok (.aload 4, 2) := by decide +kernel
theorem d11_67 : decode prog_66_method_4_code 67 = .ok (.aload 6, 2) := by decide +kernel
theorem d11_69 : decode prog_66_method_4_code 69 = .ok (.invokevirtual 67, 3) := by decide +kernel
theorem d11_72 : decode prog_66_method_4_code 72 = .ok (.lstore 9, 2) := by decide +kernel
theorem d11_74 : decode prog_66_method_4_code 74 = .ok (.lload 9, 2) := by decide +kernel
theorem d11_76 : decode prog_66_method_4_code 76 = .ok (.lconst 0, 1) := by decide +kernel
theorem d11_77 : decode prog_66_method_4_code 77 = .ok (.lcmp, 1) := by decide +kernel
theorem d11_78 : decode prog_66_method_4_code 78 = .ok (.ifCond .le 37, 3) := by decide +kernel
theorem d11_81 : decode prog_66_method_4_code 81 = .ok (.lload 7, 2) := by decide +kernel
theorem d11_83 : decode prog_66_method_4_code 83 = .ok (.lload 9, 2) := by decide +kernel
theorem d11_85 : decode prog_66_method_4_code 85 = .ok (.ladd, 1) := by decide +kernel
theorem d11_86 : decode prog_66_method_4_code 86 = .ok (.lstore 7, 2) := by decide +kernel
theorem d11_88 : decode prog_66_method_4_code 88 = .ok (.lload 7, 2) := by decide +kernel
theorem d11_90 : decode prog_66_method_4_code 90 = .ok (.ldc2_w 45, 3) := by decide +kernel
theorem d11_93 : decode prog_66_method_4_code 93 = .ok (.lcmp, 1) := by decide +kernel
theorem d11_94 : decode prog_66_method_4_code 94 = .ok (.ifCond .lt 5, 3) := by decide +kernel
theorem d11_97 : decode prog_66_method_4_code 97 = .ok (.aconst_null, 1) := by decide +kernel
theorem d11_98 : decode prog_66_method_4_code 98 = .ok (.areturn, 1) := by decide +kernel
theorem d11_99 : decode prog_66_method_4_code 99 = .ok (.aload_n 0, 1) := by decide +kernel
theorem d11_100 : decode prog_66_method_4_code 100 = .ok (.iload_n 1, 1) := by decide +kernel
theorem d11_101 : decode prog_66_method_4_code 101 = .ok (.iload_n 2, 1) := by decide +kernel
theorem d11_102 : decode prog_66_method_4_code 102 = .ok (.aload_n 3, 1) := by decide +kernel
theorem d11_103 : decode prog_66_method_4_code 103 = .ok (.aload 4, 2) := by decide +kernel
theorem d11_105 : decode prog_66_method_4_code 105 = .ok (.aload 6, 2) := by decide +kernel
theorem d11_107 : decode prog_66_method_4_code 107 = .ok (.invokevirtual 67, 3) := by decide +kernel
theorem d11_110 : decode prog_66_method_4_code 110 = .ok (.lstore 9, 2) := by decide +kernel
theorem d11_112 : decode prog_66_method_4_code 112 = .ok (.goto (-38), 3) := by decide +kernel
theorem d11_115 : decode prog_66_method_4_code 115 = .ok (.goto (-81), 3) := by decide +kernel
theorem d11_118 : decode prog_66_method_4_code 118 = .ok (.aload_n 0, 1) := by decide +kernel
theorem d11_119 : decode prog_66_method_4_code 119 = .ok (.getfield 22, 3) := by decide +kernel
theorem d11_122 : decode prog_66_method_4_code 122 = .ok (.newarray .boolean, 2) := by decide +kernel
theorem d11_124 : decode prog_66_method_4_code 124 = .ok (.astore 9, 2) := by decide +kernel
theorem d11_126 : decode prog_66_method_4_code 126 = .ok (.iconst 0, 1) := by decide +kernel
theorem d11_127 : decode prog_66_method_4_code 127 = .ok (.istore 10, 2) := by decide +kernel
theorem d11_129 : decode prog_66_method_4_code 129 = .ok (.iload 10, 2) := by decide +kernel
theorem d11_131 : decode prog_66_method_4_code 131 = .ok (.aload_n 0, 1) := by decide +kernel
theorem d11_132 : decode prog_66_method_4_code 132 = .ok (.getfield 22, 3) := by decide +kernel
theorem d11_135 : decode prog_66_method_4_code 135 = .ok (.if_icmp .ge 26, 3) := by decide +kernel
theorem d11_138 : decode prog_66_method_4_code 138 = .ok (.aload 9, 2) := by decide +kernel
theorem d11_140 : decode prog_66_method_4_code 140 = .ok (.iload 10, 2) := by decide +kernel
theorem d11_142 : decode prog_66_method_4_code 142 = .ok (.aload_n 3, 1) := by decide +kernel
theorem d11_143 : decode prog_66_method_4_code 143 = .ok (.iload 10, 2) := by decide +kernel
theorem d11_145 : decode prog_66_method_4_code 145 = .ok (.iaload, 1) := by decide +kernel
theorem d11_146 : decode prog_66_method_4_code 146 = .ok (.ifCond .lt 7, 3) := by decide +kernel
theorem d11_149 : decode prog_66_method_4_code 149 = .ok (.iconst 1, 1) := by decide +kernel
theorem d11_150 : decode prog_66_method_4_code 150 = .ok (.goto 4, 3) := by decide +kernel
theorem d11_153 : decode prog_66_method_4_code 153 = .ok (.iconst 0, 1) := by decide +kernel
theorem d11_154 : decode prog_66_method_4_code 154 = .ok (.bastore, 1) := by decide +kernel
theorem d11_155 : decode prog_66_method_4_code 155 = .ok (.iinc 10 1, 3) := by decide +kernel
theorem d11_158 : decode prog_66_method_4_code 158 = .ok (.goto (-29), 3) := by decide +kernel
theorem d11_161 : decode prog_66_method_4_code 161 = .ok (.aload 9, 2) := by decide +kernel
theorem d11_163 : decode prog_66_method_4_code 163 = .ok (.areturn, 1) := by decide +kernel
theorem pd_3 : parseMethodDescriptor "(II[I[I)Z" = some ⟨[.int, .int, (.array .int), (.array .int)], some .boolean⟩ := by decide +kernel
theorem pd_4 : parseMethodDescriptor "(II[I[I[I)J" = some ⟨[.int, .int, (.array .int), (.array .int), (.array .int)], some .long⟩ := by decide +kernel
theorem d1_0 : decode prog_66_method_1_code 0 = .ok (.aload_n 0, 1) := by decide +kernel
theorem d1_1 : decode prog_66_method_1_code 1 = .ok (.invokespecial 3, 3) := by decide +kernel
theorem d1_4 : decode prog_66_method_1_code 4 = .ok (.aload_n 0, 1) := by decide +kernel
theorem d1_5 : decode prog_66_method_1_code 5 = .ok (.bipush 16, 2) := by decide +kernel
theorem d1_7 : decode prog_66_method_1_code 7 = .ok (.newarray .int, 2) := by decide +kernel
theorem d1_9 : decode prog_66_method_1_code 9 = .ok (.putfield 9, 3) := by decide +kernel
theorem d1_12 : decode prog_66_method_1_code 12 = .ok (.aload_n 0, 1) := by decide +kernel
theorem d1_13 : decode prog_66_method_1_code 13 = .ok (.bipush 16, 2) := by decide +kernel
theorem d1_15 : decode prog_66_method_1_code 15 = .ok (.newarray .long, 2) := by decide +kernel
theorem d1_17 : decode prog_66_method_1_code 17 = .ok (.putfield 15, 3) := by decide +kernel
theorem d1_20 : decode prog_66_method_1_code 20 = .ok (.aload_n 0, 1) := by decide +kernel
theorem d1_21 : decode prog_66_method_1_code 21 = .ok (.bipush 16, 2) := by decide +kernel
theorem d1_23 : decode prog_66_method_1_code 23 = .ok (.newarray .int, 2) := by decide +kernel
theorem d1_25 : decode prog_66_method_1_code 25 = .ok (.putfield 19, 3) := by decide +kernel
theorem d1_28 : decode prog_66_method_1_code 28 = .ok (.aload_n 0, 1) := by decide +kernel
theorem d1_29 : decode prog_66_method_1_code 29 = .ok (.iload_n 1, 1) := by decide +kernel
theorem d1_30 : decode prog_66_method_1_code 30 = .ok (.putfield 22, 3) := by decide +kernel
theorem d1_33 : decode prog_66_method_1_code 33 = .ok (.aload_n 0, 1) := by decide +kernel
theorem d1_34 : decode prog_66_method_1_code 34 = .ok (.iload_n 1, 1) := by decide +kernel
theorem d1_35 : decode prog_66_method_1_code 35 = .ok (.newarray .int, 2) := by decide +kernel
theorem d1_37 : decode prog_66_method_1_code 37 = .ok (.putfield 26, 3) := by decide +kernel
theorem d1_40 : decode prog_66_method_1_code 40 = .ok (.aload_n 0, 1) := by decide +kernel
theorem d1_41 : decode prog_66_method_1_code 41 = .ok (.getfield 26, 3) := by decide +kernel
theorem d1_44 : decode prog_66_method_1_code 44 = .ok (.iconst (-1), 1) := by decide +kernel
theorem d1_45 : decode prog_66_method_1_code 45 = .ok (.invokestatic 29, 3) := by decide +kernel
theorem d1_48 : decode prog_66_method_1_code 48 = .ok (.return_, 1) := by decide +kernel
theorem d7_0 : decode prog_66_method_3_code 0 = .ok (.aload_n 0, 1) := by decide +kernel
theorem d7_1 : decode prog_66_method_3_code 1 = .ok (.getfield 9, 3) := by decide +kernel
theorem d7_4 : decode prog_66_method_3_code 4 = .ok (.aload_n 0, 1) := by decide +kernel
theorem d7_5 : decode prog_66_method_3_code 5 = .ok (.getfield 35, 3) := by decide +kernel
theorem d7_8 : decode prog_66_method_3_code 8 = .ok (.iload_n 2, 1) := by decide +kernel
theorem d7_9 : decode prog_66_method_3_code 9 = .ok (.iastore, 1) := by decide +kernel
theorem d7_10 : decode prog_66_method_3_code 10 = .ok (.aload_n 0, 1) := by decide +kernel
theorem d7_11 : decode prog_66_method_3_code 11 = .ok (.getfield 15, 3) := by decide +kernel
theorem d7_14 : decode prog_66_method_3_code 14 = .ok (.aload_n 0, 1) := by decide +kernel
theorem d7_15 : decode prog_66_method_3_code 15 = .ok (.getfield 35, 3) := by decide +kernel
theorem d7_18 : decode prog_66_method_3_code 18 = .ok (.lload_n 3, 1) := by decide +kernel
theorem d7_19 : decode prog_66_method_3_code 19 = .ok (.lastore, 1) := by decide +kernel
theorem d7_20 : decode prog_66_method_3_code 20 = .ok (.aload_n 0, 1) := by decide +kernel
theorem d7_21 : decode prog_66_method_3_code 21 = .ok (.getfield 19, 3) := by decide +kernel
theorem d7_24 : decode prog_66_method_3_code 24 = .ok (.aload_n 0, 1) := by decide +kernel
theorem d7_25 : decode prog_66_method_3_code 25 = .ok (.getfield 35, 3) := by decide +kernel
theorem d7_28 : decode prog_66_method_3_code 28 = .ok (.aload_n 0, 1) := by decide +kernel
theorem d7_29 : decode prog_66_method_3_code 29 = .ok (.getfield 26, 3) := by decide +kernel
theorem d7_32 : decode prog_66_method_3_code 32 = .ok (.iload_n 1, 1) := by decide +kernel
theorem d7_33 : decode prog_66_method_3_code 33 = .ok (.iaload, 1) := by decide +kernel
theorem d7_34 : decode prog_66_method_3_code 34 = .ok (.iastore, 1) := by decide +kernel
theorem d7_35 : decode prog_66_method_3_code 35 = .ok (.aload_n 0, 1) := by decide +kernel
theorem d7_36 : decode prog_66_method_3_code 36 = .ok (.getfield 26, 3) := by decide +kernel
theorem d7_39 : decode prog_66_method_3_code 39 = .ok (.iload_n 1, 1) := by decide +kernel
theorem d7_40 : decode prog_66_method_3_code 40 = .ok (.aload_n 0, 1) := by decide +kernel
theorem d7_41 : decode prog_66_method_3_code 41 = .ok (.getfield 35, 3) := by decide +kernel
theorem d7_44 : decode prog_66_method_3_code 44 = .ok (.iastore, 1) := by decide +kernel
theorem d7_45 : decode prog_66_method_3_code 45 = .ok (.aload_n 0, 1) := by decide +kernel
theorem d7_46 : decode prog_66_method_3_code 46 = .ok (.dup, 1) := by decide +kernel
theorem d7_47 : decode prog_66_method_3_code 47 = .ok (.getfield 35, 3) := by decide +kernel
theorem d7_50 : decode prog_66_method_3_code 50 = .ok (.iconst 1, 1) := by decide +kernel
theorem d7_51 : decode prog_66_method_3_code 51 = .ok (.iadd, 1) := by decide +kernel
theorem d7_52 : decode prog_66_method_3_code 52 = .ok (.putfield 35, 3) := by decide +kernel
theorem d7_55 : decode prog_66_method_3_code 55 = .ok (.return_, 1) := by decide +kernel
theorem d9_0 : decode jdk_29_method_69_code 0 = .ok (.iload_n 0, 1) := by decide +kernel
theorem d9_1 : decode jdk_29_method_69_code 1 = .ok (.iload_n 1, 1) := by decide +kernel
theorem d9_2 : decode jdk_29_method_69_code 2 = .ok (.if_icmp .gt 7, 3) := by decide +kernel
theorem d9_5 : decode jdk_29_method_69_code 5 = .ok (.iload_n 0, 1) := by decide +kernel
theorem d9_6 : decode jdk_29_method_69_code 6 = .ok (.goto 4, 3) := by decide +kernel
theorem d9_9 : decode jdk_29_method_69_code 9 = .ok (.iload_n 1, 1) := by decide +kernel
theorem d9_10 : decode jdk_29_method_69_code 10 = .ok (.ireturn, 1) := by decide +kernel
theorem d8_0 : decode jdk_65_method_123_code 0 = .ok (.iload_n 1, 1) := by decide +kernel
theorem d8_1 : decode jdk_65_method_123_code 1 = .ok (.aload_n 0, 1) := by decide +kernel
theorem d8_2 : decode jdk_65_method_123_code 2 = .ok (.arraylength, 1) := by decide +kernel
theorem d8_3 : decode jdk_65_method_123_code 3 = .ok (.if_icmp .ne 11, 3) := by decide +kernel
theorem d8_6 : decode jdk_65_method_123_code 6 = .ok (.aload_n 0, 1) := by decide +kernel
theorem d8_7 : decode jdk_65_method_123_code 7 = .ok (.invokevirtual 316, 3) := by decide +kernel
theorem d8_10 : decode jdk_65_method_123_code 10 = .ok (.checkcast 317, 3) := by decide +kernel
theorem d8_13 : decode jdk_65_method_123_code 13 = .ok (.areturn, 1) := by decide +kernel
theorem d8_14 : decode jdk_65_method_123_code 14 = .ok (.iload_n 1, 1) := by decide +kernel
theorem d8_15 : decode jdk_65_method_123_code 15 = .ok (.newarray .int, 2) := by decide +kernel
theorem d8_17 : decode jdk_65_method_123_code 17 = .ok (.astore_n 2, 1) := by decide +kernel
theorem d8_18 : decode jdk_65_method_123_code 18 = .ok (.aload_n 0, 1) := by decide +kernel
theorem d8_19 : decode jdk_65_method_123_code 19 = .ok (.iconst 0, 1) := by decide +kernel
theorem d8_20 : decode jdk_65_method_123_code 20 = .ok (.aload_n 2, 1) := by decide +kernel
theorem d8_21 : decode jdk_65_method_123_code 21 = .ok (.iconst 0, 1) := by decide +kernel
theorem d8_22 : decode jdk_65_method_123_code 22 = .ok (.aload_n 0, 1) := by decide +kernel
theorem d8_23 : decode jdk_65_method_123_code 23 = .ok (.arraylength, 1) := by decide +kernel
theorem d8_24 : decode jdk_65_method_123_code 24 = .ok (.iload_n 1, 1) := by decide +kernel
theorem d8_25 : decode jdk_65_method_123_code 25 = .ok (.invokestatic 304, 3) := by decide +kernel
theorem d8_28 : decode jdk_65_method_123_code 28 = .ok (.invokestatic 150, 3) := by decide +kernel
theorem d8_31 : decode jdk_65_method_123_code 31 = .ok (.aload_n 2, 1) := by decide +kernel
theorem d8_32 : decode jdk_65_method_123_code 32 = .ok (.areturn, 1) := by decide +kernel
theorem pd_5 : parseMethodDescriptor "(II)I" = some ⟨[.int, .int], some .int⟩ := by decide +kernel
theorem d10_0 : decode jdk_65_method_124_code 0 = .ok (.iload_n 1, 1) := by decide +kernel
theorem d10_1 : decode jdk_65_method_124_code 1 = .ok (.aload_n 0, 1) := by decide +kernel
theorem d10_2 : decode jdk_65_method_124_code 2 = .ok (.arraylength, 1) := by decide +kernel
theorem d10_3 : decode jdk_65_method_124_code 3 = .ok (.if_icmp .ne 11, 3) := by decide +kernel
theorem d10_6 : decode jdk_65_method_124_code 6 = .ok (.aload_n 0, 1) := by decide +kernel
theorem d10_7 : decode jdk_65_method_124_code 7 = .ok (.invokevirtual 319, 3) := by decide +kernel
theorem d10_10 : decode jdk_65_method_124_code 10 = .ok (.checkcast 320, 3) := by decide +kernel
theorem d10_13 : decode jdk_65_method_124_code 13 = .ok (.areturn, 1) := by decide +kernel
theorem d10_14 : decode jdk_65_method_124_code 14 = .ok (.iload_n 1, 1) := by decide +kernel
theorem d10_15 : decode jdk_65_method_124_code 15 = .ok (.newarray .long, 2) := by decide +kernel
theorem d10_17 : decode jdk_65_method_124_code 17 = .ok (.astore_n 2, 1) := by decide +kernel
theorem d10_18 : decode jdk_65_method_124_code 18 = .ok (.aload_n 0, 1) := by decide +kernel
theorem d10_19 : decode jdk_65_method_124_code 19 = .ok (.iconst 0, 1) := by decide +kernel
theorem d10_20 : decode jdk_65_method_124_code 20 = .ok (.aload_n 2, 1) := by decide +kernel
theorem d10_21 : decode jdk_65_method_124_code 21 = .ok (.iconst 0, 1) := by decide +kernel
theorem d10_22 : decode jdk_65_method_124_code 22 = .ok (.aload_n 0, 1) := by decide +kernel
theorem d10_23 : decode jdk_65_method_124_code 23 = .ok (.arraylength, 1) := by decide +kernel
theorem d10_24 : decode jdk_65_method_124_code 24 = .ok (.iload_n 1, 1) := by decide +kernel
theorem d10_25 : decode jdk_65_method_124_code 25 = .ok (.invokestatic 304, 3) := by decide +kernel
theorem d10_28 : decode jdk_65_method_124_code 28 = .ok (.invokestatic 150, 3) := by decide +kernel
theorem d10_31 : decode jdk_65_method_124_code 31 = .ok (.aload_n 2, 1) := by decide +kernel
theorem d10_32 : decode jdk_65_method_124_code 32 = .ok (.areturn, 1) := by decide +kernel
theorem d5_0 : decode prog_66_method_2_code 0 = .ok (.aload_n 0, 1) := by decide +kernel
theorem d5_1 : decode prog_66_method_2_code 1 = .ok (.getfield 35, 3) := by decide +kernel
theorem d5_4 : decode prog_66_method_2_code 4 = .ok (.iconst 2, 1) := by decide +kernel
theorem d5_5 : decode prog_66_method_2_code 5 = .ok (.iadd, 1) := by decide +kernel
theorem d5_6 : decode prog_66_method_2_code 6 = .ok (.aload_n 0, 1) := by decide +kernel
theorem d5_7 : decode prog_66_method_2_code 7 = .ok (.getfield 9, 3) := by decide +kernel
theorem d5_10 : decode prog_66_method_2_code 10 = .ok (.arraylength, 1) := by decide +kernel
theorem d5_11 : decode prog_66_method_2_code 11 = .ok (.if_icmp .le 57, 3) := by decide +kernel
theorem d5_14 : decode prog_66_method_2_code 14 = .ok (.aload_n 0, 1) := by decide +kernel
theorem d5_15 : decode prog_66_method_2_code 15 = .ok (.aload_n 0, 1) := by decide +kernel
theorem d5_16 : decode prog_66_method_2_code 16 = .ok (.getfield 9, 3) := by decide +kernel
theorem d5_19 : decode prog_66_method_2_code 19 = .ok (.aload_n 0, 1) := by decide +kernel
theorem d5_20 : decode prog_66_method_2_code 20 = .ok (.getfield 9, 3) := by decide +kernel
theorem d5_23 : decode prog_66_method_2_code 23 = .ok (.arraylength, 1) := by decide +kernel
theorem d5_24 : decode prog_66_method_2_code 24 = .ok (.iconst 2, 1) := by decide +kernel
theorem d5_25 : decode prog_66_method_2_code 25 = .ok (.imul, 1) := by decide +kernel
theorem d5_26 : decode prog_66_method_2_code 26 = .ok (.invokestatic 38, 3) := by decide +kernel
theorem d5_29 : decode prog_66_method_2_code 29 = .ok (.putfield 9, 3) := by decide +kernel
theorem d5_32 : decode prog_66_method_2_code 32 = .ok (.aload_n 0, 1) := by decide +kernel
theorem d5_33 : decode prog_66_method_2_code 33 = .ok (.aload_n 0, 1) := by decide +kernel
theorem d5_34 : decode prog_66_method_2_code 34 = .ok (.getfield 15, 3) := by decide +kernel
theorem d5_37 : decode prog_66_method_2_code 37 = .ok (.aload_n 0, 1) := by decide +kernel
theorem d5_38 : decode prog_66_method_2_code 38 = .ok (.getfield 15, 3) := by decide +kernel
theorem d5_41 : decode prog_66_method_2_code 41 = .ok (.arraylength, 1) := by decide +kernel
theorem d5_42 : decode prog_66_method_2_code 42 = .ok (.iconst 2, 1) := by decide +kernel
theorem d5_43 : decode prog_66_method_2_code 43 = .ok (.imul, 1) := by decide +kernel
theorem d5_44 : decode prog_66_method_2_code 44 = .ok (.invokestatic 42, 3) := by decide +kernel
theorem d5_47 : decode prog_66_method_2_code 47 = .ok (.putfield 15, 3) := by decide +kernel
theorem d5_50 : decode prog_66_method_2_code 50 = .ok (.aload_n 0, 1) := by decide +kernel
theorem d5_51 : decode prog_66_method_2_code 51 = .ok (.aload_n 0, 1) := by decide +kernel
theorem d5_52 : decode prog_66_method_2_code 52 = .ok (.getfield 19, 3) := by decide +kernel
theorem d5_55 : decode prog_66_method_2_code 55 = .ok (.aload_n 0, 1) := by decide +kernel
theorem d5_56 : decode prog_66_method_2_code 56 = .ok (.getfield 19, 3) := by decide +kernel
theorem d5_59 : decode prog_66_method_2_code 59 = .ok (.arraylength, 1) := by decide +kernel
theorem d5_60 : decode prog_66_method_2_code 60 = .ok (.iconst 2, 1) := by decide +kernel
theorem d5_61 : decode prog_66_method_2_code 61 = .ok (.imul, 1) := by decide +kernel
theorem d5_62 : decode prog_66_method_2_code 62 = .ok (.invokestatic 38, 3) := by decide +kernel
theorem d5_65 : decode prog_66_method_2_code 65 = .ok (.putfield 19, 3) := by decide +kernel
theorem d5_68 : decode prog_66_method_2_code 68 = .ok (.aload_n 0, 1) := by decide +kernel
theorem d5_69 : decode prog_66_method_2_code 69 = .ok (.iload_n 1, 1) := by decide +kernel
theorem d5_70 : decode prog_66_method_2_code 70 = .ok (.iload_n 2, 1) := by decide +kernel
theorem d5_71 : decode prog_66_method_2_code 71 = .ok (.lload_n 3, 1) := by decide +kernel
theorem d5_72 : decode prog_66_method_2_code 72 = .ok (.ldc2_w 45, 3) := by decide +kernel
theorem d5_75 : decode prog_66_method_2_code 75 = .ok (.invokestatic 47, 3) := by decide +kernel
theorem d5_78 : decode prog_66_method_2_code 78 = .ok (.invokevirtual 53, 3) := by decide +kernel
theorem d5_81 : decode prog_66_method_2_code 81 = .ok (.aload_n 0, 1) := by decide +kernel
theorem d5_82 : decode prog_66_method_2_code 82 = .ok (.iload_n 2, 1) := by decide +kernel
theorem d5_83 : decode prog_66_method_2_code 83 = .ok (.iload_n 1, 1) := by decide +kernel
theorem d5_84 : decode prog_66_method_2_code 84 = .ok (.lconst 0, 1) := by decide +kernel
theorem d5_85 : decode prog_66_method_2_code 85 = .ok (.invokevirtual 53, 3) := by decide +kernel
theorem d5_88 : decode prog_66_method_2_code 88 = .ok (.return_, 1) := by decide +kernel
theorem pd_6 : parseMethodDescriptor "(IIJ)V" = some ⟨[.int, .int, .long], none⟩ := by decide +kernel
theorem pd_7 : parseMethodDescriptor "([II)[I" = some ⟨[(.array .int), .int], some (.array .int)⟩ := by decide +kernel
theorem pd_8 : parseMethodDescriptor "([JI)[J" = some ⟨[(.array .long), .int], some (.array .long)⟩ := by decide +kernel
theorem pn_2 : plainName "com/example/ichnos/ichnos/planning/ils/MinCutAddPinLaw" = true := by first | (simp [plainName, overriddenIn]; done) | decide +kernel
theorem d4_0 : decode method_2_code 0 = .ok (.lload_n 2, 1) := by decide +kernel
theorem d4_1 : decode method_2_code 1 = .ok (.iconst 4, 1) := by decide +kernel
theorem d4_2 : decode method_2_code 2 = .ok (.iload 4, 2) := by decide +kernel
theorem d4_4 : decode method_2_code 4 = .ok (.imul, 1) := by decide +kernel
theorem d4_5 : decode method_2_code 5 = .ok (.lushr, 1) := by decide +kernel
theorem d4_6 : decode method_2_code 6 = .ok (.ldc2_w 7, 3) := by decide +kernel
theorem d4_9 : decode method_2_code 9 = .ok (.land, 1) := by decide +kernel
theorem d4_10 : decode method_2_code 10 = .ok (.l2i, 1) := by decide +kernel
theorem d4_11 : decode method_2_code 11 = .ok (.istore 7, 2) := by decide +kernel
theorem d4_13 : decode method_2_code 13 = .ok (.iload 7, 2) := by decide +kernel
theorem d4_15 : decode method_2_code 15 = .ok (.iconst 3, 1) := by decide +kernel
theorem d4_16 : decode method_2_code 16 = .ok (.iand, 1) := by decide +kernel
theorem d4_17 : decode method_2_code 17 = .ok (.iconst 3, 1) := by decide +kernel
theorem d4_18 : decode method_2_code 18 = .ok (.irem, 1) := by decide +kernel
theorem d4_19 : decode method_2_code 19 = .ok (.istore 8, 2) := by decide +kernel
theorem d4_21 : decode method_2_code 21 = .ok (.iload 7, 2) := by decide +kernel
theorem d4_23 : decode method_2_code 23 = .ok (.iconst 2, 1) := by decide +kernel
theorem d4_24 : decode method_2_code 24 = .ok (.iushr, 1) := by decide +kernel
theorem d4_25 : decode method_2_code 25 = .ok (.iconst 3, 1) := by decide +kernel
theorem d4_26 : decode method_2_code 26 = .ok (.irem, 1) := by decide +kernel
theorem d4_27 : decode method_2_code 27 = .ok (.istore 9, 2) := by decide +kernel
theorem d4_29 : decode method_2_code 29 = .ok (.lload 5, 2) := by decide +kernel
theorem d4_31 : decode method_2_code 31 = .ok (.ldc2_w 11, 3) := by decide +kernel
theorem d4_34 : decode method_2_code 34 = .ok (.land, 1) := by decide +kernel
theorem d4_35 : decode method_2_code 35 = .ok (.lstore 10, 2) := by decide +kernel
theorem d4_37 : decode method_2_code 37 = .ok (.aload_n 0, 1) := by decide +kernel
theorem d4_38 : decode method_2_code 38 = .ok (.iload 8, 2) := by decide +kernel
theorem d4_40 : decode method_2_code 40 = .ok (.iload 9, 2) := by decide +kernel
theorem d4_42 : decode method_2_code 42 = .ok (.lload 10, 2) := by decide +kernel
theorem d4_44 : decode method_2_code 44 = .ok (.invokevirtual 13, 3) := by decide +kernel
theorem d4_47 : decode method_2_code 47 = .ok (.ldc2_w 19, 3) := by decide +kernel
theorem d4_50 : decode method_2_code 50 = .ok (.lstore 12, 2) := by decide +kernel
theorem d4_52 : decode method_2_code 52 = .ok (.lload 10, 2) := by decide +kernel
theorem d4_54 : decode method_2_code 54 = .ok (.lload 12, 2) := by decide +kernel
theorem d4_56 : decode method_2_code 56 = .ok (.invokestatic 21, 3) := by decide +kernel
theorem d4_59 : decode method_2_code 59 = .ok (.lstore 14, 2) := by decide +kernel
theorem d4_61 : decode method_2_code 61 = .ok (.iconst (-1), 1) := by decide +kernel
theorem d4_62 : decode method_2_code 62 = .ok (.istore 16, 2) := by decide +kernel
theorem d4_64 : decode method_2_code 64 = .ok (.iload 8, 2) := by decide +kernel
theorem d4_66 : decode method_2_code 66 = .ok (.ifCond .ne 15, 3) := by decide +kernel
theorem d4_69 : decode method_2_code 69 = .ok (.iload 9, 2) := by decide +kernel
theorem d4_71 : decode method_2_code 71 = .ok (.iconst 1, 1) := by decide +kernel
theorem d4_72 : decode method_2_code 72 = .ok (.if_icmp .ne 9, 3) := by decide +kernel
theorem d4_75 : decode method_2_code 75 = .ok (.iconst 0, 1) := by decide +kernel
theorem d4_76 : decode method_2_code 76 = .ok (.istore 16, 2) := by decide +kernel
theorem d4_78 : decode method_2_code 78 = .ok (.goto 35, 3) := by decide +kernel
theorem d4_81 : decode method_2_code 81 = .ok (.iload 8, 2) := by decide +kernel
theorem d4_83 : decode method_2_code 83 = .ok (.iconst 1, 1) := by decide +kernel
theorem d4_84 : decode method_2_code 84 = .ok (.if_icmp .ne 15, 3) := by decide +kernel
theorem d4_87 : decode method_2_code 87 = .ok (.iload 9, 2) := by decide +kernel
theorem d4_89 : decode method_2_code 89 = .ok (.iconst 2, 1) := by decide +kernel
theorem d4_90 : decode method_2_code 90 = .ok (.if_icmp .ne 9, 3) := by decide +kernel
theorem d4_93 : decode method_2_code 93 = .ok (.iconst 1, 1) := by decide +kernel
theorem d4_94 : decode method_2_code 94 = .ok (.istore 16, 2) := by decide +kernel
theorem d4_96 : decode method_2_code 96 = .ok (.goto 17, 3) := by decide +kernel
theorem d4_99 : decode method_2_code 99 = .ok (.iload 8, 2) := by decide +kernel
theorem d4_101 : decode method_2_code 101 = .ok (.ifCond .ne 12, 3) := by decide +kernel
theorem d4_104 : decode method_2_code 104 = .ok (.iload 9, 2) := by decide +kernel
theorem d4_106 : decode method_2_code 106 = .ok (.iconst 2, 1) := by decide +kernel
theorem d4_107 : decode method_2_code 107 = .ok (.if_icmp .ne 6, 3) := by decide +kernel
theorem d4_110 : decode method_2_code 110 = .ok (.iconst 2, 1) := by decide +kernel
theorem d4_111 : decode method_2_code 111 = .ok (.istore 16, 2) := by decide +kernel
theorem d4_113 : decode method_2_code 113 = .ok (.iload 16, 2) := by decide +kernel
theorem d4_115 : decode method_2_code 115 = .ok (.ifCond .lt 19, 3) := by decide +kernel
theorem d4_118 : decode method_2_code 118 = .ok (.aload_n 1, 1) := by decide +kernel
theorem d4_119 : decode method_2_code 119 = .ok (.iload 16, 2) := by decide +kernel
theorem d4_121 : decode method_2_code 121 = .ok (.aload_n 1, 1) := by decide +kernel
theorem d4_122 : decode method_2_code 122 = .ok (.iload 16, 2) := by decide +kernel
theorem d4_124 : decode method_2_code 124 = .ok (.laload, 1) := by decide +kernel
theorem d4_125 : decode method_2_code 125 = .ok (.lload 14, 2) := by decide +kernel
theorem d4_127 : decode method_2_code 127 = .ok (.ladd, 1) := by decide +kernel
theorem d4_128 : decode method_2_code 128 = .ok (.lload 12, 2) := by decide +kernel
theorem d4_130 : decode method_2_code 130 = .ok (.invokestatic 21, 3) := by decide +kernel
theorem d4_133 : decode method_2_code 133 = .ok (.lastore, 1) := by decide +kernel
theorem d4_134 : decode method_2_code 134 = .ok (.return_, 1) := by decide +kernel
theorem pd_9 : parseMethodDescriptor "(I)V" = some ⟨[.int], none⟩ := by decide +kernel
theorem pd_10 : parseMethodDescriptor "(Lcom/example/ichnos/ichnos/planning/ils/MinCut;[JJIJ)V" = some ⟨[(.object "com/example/ichnos/ichnos/planning/ils/MinCut"), (.array .long), .long, .int, .long], none⟩ := by decide +kernel
theorem pd_11 : parseMethodDescriptor "(II)[Z" = some ⟨[.int, .int], some (.array .boolean)⟩ := by decide +kernel
/-! numbers -/
theorem own_ofNat {n : Nat} (hn : n < 2147483648) : (Int32.ofNat n).toInt = (n : Int) := Int32.toInt_ofNat_of_lt hn
theorem own_and_nat (x : Int32) (m : Nat) (hm : m < 2147483648) : ∃ k : Nat, k ≤ m ∧ (x &&& Int32.ofNat m) = Int32.ofNat k := by
  refine ⟨(x &&& Int32.ofNat m).toBitVec.toNat, ?_, ?_⟩
  · simp only [Int32.toBitVec_and, BitVec.toNat_and]
    refine Nat.le_trans Nat.and_le_right ?_
    show (BitVec.ofNat 32 m).toNat ≤ m
    rw [BitVec.toNat_ofNat]
    exact Nat.mod_le _ _
  · apply Int32.toBitVec_inj.mp
    show _ = BitVec.ofNat 32 _
    rw [BitVec.ofNat_toNat]; simp
theorem own_rem (x : Int32) (n : Nat) (h1 : 0 < n) (h2 : n < 2147483648) : ∃ k : Nat, k < n ∧ ((x &&& (2147483647 : Int32)) % Int32.ofNat n).toInt = (k : Int) := by
  obtain ⟨j, hj, e⟩ := own_and_nat x 2147483647 (by decide)
  refine ⟨j % n, Nat.mod_lt _ h1, ?_⟩
  have e' : (x &&& (2147483647 : Int32)) = Int32.ofNat j := e
  rw [e', Int32.toInt_mod, own_ofNat (by omega), own_ofNat h2]
  exact (Int.ofNat_tmod j n).symm

/-! ## the plain part: residual graphs -/
/-- the other edge of a pair -/
def fl (e : Nat) : Nat := if e % 2 = 0 then e + 1 else e - 1
theorem fl_fl (e : Nat) : fl (fl e) = e := by unfold fl; split <;> split <;> omega
theorem fl_lt {e k : Nat} (h : e < 2 * k) : fl e < 2 * k := by unfold fl; split <;> omega
theorem fl_ne (e : Nat) : fl e ≠ e := by unfold fl; split <;> omega
/-- where an edge begins -/
def tl (H : Nat → Nat) (e : Nat) : Nat := H (fl e)
theorem tl_fl (H : Nat → Nat) (e : Nat) : tl H (fl e) = H e := by unfold tl; rw [fl_fl]
/-- the last edge below b that begins at v, or -1 -/
def prv (H : Nat → Nat) (v : Nat) : Nat → Int
  | 0 => -1
  | b + 1 => if tl H b = v then (b : Int) else prv H v b
theorem prv_cases (H : Nat → Nat) (v : Nat) : ∀ b, (prv H v b = -1 ∧ ∀ e, e < b → tl H e ≠ v) ∨ ∃ e, e < b ∧ prv H v b = (e : Int) ∧ tl H e = v ∧ ∀ e', e < e' → e' < b → tl H e' ≠ v := by
  intro b
  induction b with
  | zero => exact Or.inl ⟨rfl, fun e he => absurd he (Nat.not_lt_zero _)⟩
  | succ b ih =>
    unfold prv
    by_cases q : tl H b = v
    · rw [if_pos q]
      exact Or.inr ⟨b, Nat.lt_succ_self _, rfl, q, fun e' h1 h2 => absurd h1 (by omega)⟩
    · rw [if_neg q]
      rcases ih with ⟨h1, h2⟩ | ⟨e, h1, h2, h3, h4⟩
      · exact Or.inl ⟨h1, fun e he => if r : e = b then r ▸ q else h2 e (by omega)⟩
      · exact Or.inr ⟨e, by omega, h2, h3, fun e' g1 g2 => if r : e' = b then r ▸ q else h4 e' g1 (by omega)⟩
theorem prv_lt (H : Nat → Nat) (v b : Nat) : prv H v b < b := by
  rcases prv_cases H v b with ⟨h, -⟩ | ⟨e, h1, h2, -⟩
  · rw [h]; omega
  · rw [h2]; omega
theorem prv_ge (H : Nat → Nat) (v b : Nat) : -1 ≤ prv H v b := by
  rcases prv_cases H v b with ⟨h, -⟩ | ⟨e, h1, h2, -⟩
  · rw [h]; exact Int.le_refl _
  · rw [h2]; omega
theorem prv_congr {H H' : Nat → Nat} (v : Nat) : ∀ b, (∀ e, e < b → tl H e = tl H' e) → prv H v b = prv H' v b := by
  intro b
  induction b with
  | zero => intro _; rfl
  | succ b ih =>
    intro h
    unfold prv
    rw [h b (Nat.lt_succ_self _), ih (fun e he => h e (by omega))]
/-- a sum over the pairs -/
def sm : Nat → (Nat → Int) → Int
  | 0, _ => 0
  | k + 1, g => sm k g + (g (2 * k) + g (2 * k + 1))
theorem sm_congr {g g' : Nat → Int} : ∀ k, (∀ e, e < 2 * k → g e = g' e) → sm k g = sm k g' := by
  intro k
  induction k with
  | zero => intro _; rfl
  | succ k ih =>
    intro h
    unfold sm
    rw [ih (fun e he => h e (by omega)), h (2 * k) (by omega), h (2 * k + 1) (by omega)]
theorem sm_add (g g' : Nat → Int) : ∀ k, sm k (fun e => g e + g' e) = sm k g + sm k g' := by
  intro k
  induction k with
  | zero => rfl
  | succ k ih => unfold sm; rw [ih]; dsimp only; omega
theorem sm_nonneg {g : Nat → Int} : ∀ k, (∀ e, e < 2 * k → 0 ≤ g e) → 0 ≤ sm k g := by
  intro k
  induction k with
  | zero => intro _; exact Int.le_refl _
  | succ k ih =>
    intro h
    unfold sm
    have a := ih (fun e he => h e (by omega)); have b := h (2 * k) (by omega); have c := h (2 * k + 1) (by omega)
    omega
theorem sm_zero {g : Nat → Int} : ∀ k, (∀ e, e < 2 * k → 0 ≤ g e) → sm k g = 0 → ∀ e, e < 2 * k → g e = 0 := by
  intro k
  induction k with
  | zero => intro _ _ e he; omega
  | succ k ih =>
    intro h hs e he
    unfold sm at hs
    have a := sm_nonneg k (fun e he => h e (by omega)); have b := h (2 * k) (by omega); have c := h (2 * k + 1) (by omega)
    by_cases q : e < 2 * k
    · exact ih (fun e he => h e (by omega)) (by omega) e q
    · rcases (by omega : e = 2 * k ∨ e = 2 * k + 1) with rfl | rfl <;> omega
/-- two sums that part at one pair alone -/
theorem sm_pair {g g' : Nat → Int} {i : Nat} : ∀ k, i < k → (∀ e, e < 2 * k → e / 2 ≠ i → g' e = g e) → sm k g' = sm k g + (g' (2 * i) - g (2 * i)) + (g' (2 * i + 1) - g (2 * i + 1)) := by
  intro k
  induction k with
  | zero => intro h; omega
  | succ k ih =>
    intro hi h
    unfold sm
    by_cases q : i = k
    · subst q
      rw [sm_congr i (fun e he => h e (by omega) (by omega))]
      omega
    · rw [ih (by omega) (fun e he hne => h e (by omega) hne), h (2 * k) (by omega) (by omega), h (2 * k + 1) (by omega) (by omega)]
      omega
/-- what flows out of v on balance -/
def net (H : Nat → Nat) (k : Nat) (D : Nat → Int) (v : Nat) : Int := sm k (fun e => if tl H e = v then D e else 0)
/-- what a cut holds -/
def cut (H : Nat → Nat) (k : Nat) (C : Nat → Int) (S : Nat → Bool) : Int := sm k (fun e => if S (tl H e) = true ∧ S (H e) = false then C e else 0)
/-- a flow of F from s to t: capacities left are no less than 0, a pair's stay together, nothing is lost on the way -/
def FI (n k : Nat) (H : Nat → Nat) (C0 C : Nat → Int) (s t : Nat) (F : Int) : Prop :=
  (∀ e, e < 2 * k → 0 ≤ C e) ∧ (∀ e, e < 2 * k → C e + C (fl e) = C0 e + C0 (fl e)) ∧ ∀ v, v < n → net H k (fun e => C0 e - C e) v = (if v = s then F else 0) - (if v = t then F else 0)
/-- pushing f over the edge e moves it from where e begins to where it ends -/
theorem net_push {H : Nat → Nat} {k : Nat} {C0 C C' : Nat → Int} {e : Nat} {f : Int} (he : e < 2 * k) (h1 : C' e = C e - f) (h2 : C' (fl e) = C (fl e) + f) (h3 : ∀ e', e' ≠ e → e' ≠ fl e → C' e' = C e') (v : Nat) :
    net H k (fun e => C0 e - C' e) v = net H k (fun e => C0 e - C e) v + (if tl H e = v then f else 0) - (if H e = v then f else 0) := by
  unfold net
  rw [sm_pair (i := e / 2) (g := fun e => if tl H e = v then C0 e - C e else 0) k (by omega) (fun e' he' hne => by
    have a : e' ≠ e := fun q => hne (by rw [q])
    have b : e' ≠ fl e := fun q => hne (by rw [q]; unfold fl; split <;> omega)
    show (if tl H e' = v then C0 e' - C' e' else 0) = (if tl H e' = v then C0 e' - C e' else 0)
    rw [h3 e' a b])]
  show _ + ((if tl H (2 * (e / 2)) = v then C0 (2 * (e / 2)) - C' (2 * (e / 2)) else 0) - (if tl H (2 * (e / 2)) = v then C0 (2 * (e / 2)) - C (2 * (e / 2)) else 0)) + ((if tl H (2 * (e / 2) + 1) = v then C0 (2 * (e / 2) + 1) - C' (2 * (e / 2) + 1) else 0) - (if tl H (2 * (e / 2) + 1) = v then C0 (2 * (e / 2) + 1) - C (2 * (e / 2) + 1) else 0)) = _
  by_cases q : e % 2 = 0
  · have e1 : 2 * (e / 2) = e := by omega
    have e2 : 2 * (e / 2) + 1 = fl e := by unfold fl; rw [if_pos q]; omega
    rw [e2, e1, tl_fl, h1, h2]
    dsimp only
    split <;> split <;> omega
  · have e1 : 2 * (e / 2) + 1 = e := by omega
    have e2 : 2 * (e / 2) = fl e := by unfold fl; rw [if_neg q]; omega
    rw [e1, e2, tl_fl, h1, h2]
    dsimp only
    split <;> split <;> omega
/-- sums over nodes -/
def sv : Nat → (Nat → Int) → Int
  | 0, _ => 0
  | n + 1, g => sv n g + g n
theorem sv_congr {g g' : Nat → Int} : ∀ n, (∀ v, v < n → g v = g' v) → sv n g = sv n g' := by
  intro n
  induction n with
  | zero => intro _; rfl
  | succ n ih => intro h; unfold sv; rw [ih (fun v hv => h v (by omega)), h n (by omega)]
theorem sv_add (g g' : Nat → Int) : ∀ n, sv n (fun v => g v + g' v) = sv n g + sv n g' := by
  intro n
  induction n with
  | zero => rfl
  | succ n ih => unfold sv; rw [ih]; dsimp only; omega
theorem sv_zero : ∀ n, sv n (fun _ => 0) = 0 := by
  intro n
  induction n with
  | zero => rfl
  | succ n ih => unfold sv; rw [ih]; rfl
theorem sv_one {P : Nat → Bool} {u : Nat} {x : Int} : ∀ n, u < n → sv n (fun v => if P v = true then (if u = v then x else 0) else 0) = if P u = true then x else 0 := by
  intro n
  induction n with
  | zero => intro h; omega
  | succ n ih =>
    intro h
    unfold sv
    by_cases q : u = n
    · subst q
      rw [sv_congr u (g' := fun _ => 0) (fun v hv => by
        have r : u ≠ v := by omega
        simp [r]), sv_zero]
      simp
    · rw [ih (by omega)]
      simp [q]
theorem sv_sm {H : Nat → Nat} {D : Nat → Int} {S : Nat → Bool} {n : Nat} : ∀ k, (∀ e, e < 2 * k → tl H e < n) → sv n (fun v => if S v = true then sm k (fun e => if tl H e = v then D e else 0) else 0) = sm k (fun e => if S (tl H e) = true then D e else 0) := by
  intro k
  induction k with
  | zero => intro _; show sv n (fun v => if S v = true then 0 else 0) = 0; rw [sv_congr n (g' := fun _ => 0) (fun v hv => by simp), sv_zero]
  | succ k ih =>
    intro h
    have a := ih (fun e he => h e (by omega))
    have b := sv_one (P := S) (x := D (2 * k)) n (h (2 * k) (by omega))
    have c := sv_one (P := S) (x := D (2 * k + 1)) n (h (2 * k + 1) (by omega))
    show sv n (fun v => if S v = true then sm k _ + ((if tl H (2 * k) = v then D (2 * k) else 0) + (if tl H (2 * k + 1) = v then D (2 * k + 1) else 0)) else 0) = sm k _ + ((if S (tl H (2 * k)) = true then D (2 * k) else 0) + (if S (tl H (2 * k + 1)) = true then D (2 * k + 1) else 0))
    rw [← a, ← b, ← c, ← sv_add, ← sv_add]
    apply sv_congr
    intro v hv
    by_cases q : S v = true
    · simp only [if_pos q]
    · simp only [if_neg q]; rfl
theorem sm_anti {H : Nat → Nat} {D : Nat → Int} {S : Nat → Bool} : ∀ k, (∀ e, e < 2 * k → D e + D (fl e) = 0) → sm k (fun e => if S (tl H e) = true then D e else 0) = sm k (fun e => if S (tl H e) = true ∧ S (H e) = false then D e else 0) := by
  intro k
  induction k with
  | zero => intro _; rfl
  | succ k ih =>
    intro h
    unfold sm
    rw [ih (fun e he => h e (by omega))]
    have a := h (2 * k) (by omega)
    have f1 : fl (2 * k) = 2 * k + 1 := by unfold fl; rw [if_pos (by omega)]
    have f2 : fl (2 * k + 1) = 2 * k := by unfold fl; rw [if_neg (by omega)]; omega
    rw [f1] at a
    have t1 : tl H (2 * k) = H (2 * k + 1) := by unfold tl; rw [f1]
    have t2 : tl H (2 * k + 1) = H (2 * k) := by unfold tl; rw [f2]
    dsimp only
    rw [t1, t2]
    cases S (H (2 * k)) <;> cases S (H (2 * k + 1)) <;> simp <;> omega
/-- **what flows is what the cut holds less what is left of it** -/
theorem FI.thru {n k : Nat} {H : Nat → Nat} {C0 C : Nat → Int} {s t : Nat} {F : Int} (I : FI n k H C0 C s t F) (hH : ∀ e, e < 2 * k → H e < n) (hs : s < n) (ht : t < n) {S : Nat → Bool} (h1 : S s = true) (h2 : S t = false) : F = cut H k C0 S - cut H k C S := by
  have a := sv_sm (H := H) (D := fun e => C0 e - C e) (S := S) (n := n) k (fun e he => hH _ (fl_lt he))
  have b := sm_anti (H := H) (D := fun e => C0 e - C e) (S := S) k (fun e he => by have := I.2.1 e he; show C0 e - C e + (C0 (fl e) - C (fl e)) = 0; omega)
  have c : sv n (fun v => if S v = true then sm k (fun e => if tl H e = v then C0 e - C e else 0) else 0) = F := by
    rw [sv_congr n (g' := fun v => (if S v = true then (if s = v then F else 0) else 0) + (if S v = true then (if t = v then -F else 0) else 0)) (fun v hv => by
      have q := I.2.2 v hv
      unfold net at q
      rw [q]
      by_cases r : S v = true
      · simp only [if_pos r]
        by_cases x : v = s <;> by_cases y : v = t <;> simp [x, y, eq_comm] <;> omega
      · simp only [if_neg r]; rfl), sv_add, sv_one n hs, sv_one n ht, h1, h2]
    simp
  have d : cut H k C0 S = sm k (fun e => if S (tl H e) = true ∧ S (H e) = false then C0 e - C e else 0) + cut H k C S := by
    unfold cut
    rw [← sm_add]
    apply sm_congr
    intro e he
    by_cases r : S (tl H e) = true ∧ S (H e) = false
    · simp only [if_pos r]; omega
    · simp only [if_neg r]; rfl
  rw [d, ← b, ← a, c]
  omega
theorem FI.le {n k : Nat} {H : Nat → Nat} {C0 C : Nat → Int} {s t : Nat} {F : Int} (I : FI n k H C0 C s t F) (hH : ∀ e, e < 2 * k → H e < n) (hs : s < n) (ht : t < n) {S : Nat → Bool} (h1 : S s = true) (h2 : S t = false) : F ≤ cut H k C0 S := by
  have a := I.thru hH hs ht h1 h2
  have b : 0 ≤ cut H k C S := sm_nonneg k (fun e he => by
    show 0 ≤ (if S (tl H e) = true ∧ S (H e) = false then C e else 0)
    split
    · exact I.1 e he
    · exact Int.le_refl _)
  omega
theorem FI.eq {n k : Nat} {H : Nat → Nat} {C0 C : Nat → Int} {s t : Nat} {F : Int} (I : FI n k H C0 C s t F) (hH : ∀ e, e < 2 * k → H e < n) (hs : s < n) (ht : t < n) {S : Nat → Bool} (h1 : S s = true) (h2 : S t = false) (hz : ∀ e, e < 2 * k → S (tl H e) = true → S (H e) = false → C e = 0) : F = cut H k C0 S := by
  have a := I.thru hH hs ht h1 h2
  have b : cut H k C S = 0 := by
    unfold cut
    rw [sm_congr (g' := fun _ => 0) k (fun e he => by
      by_cases r : S (tl H e) = true ∧ S (H e) = false
      · simp only [if_pos r]; exact hz e he r.1 r.2
      · simp only [if_neg r])]
    have z : ∀ k, sm k (fun _ => 0) = 0 := fun k => by
      induction k with
      | zero => rfl
      | succ k ih => unfold sm; rw [ih]; rfl
    exact z k
  omega
theorem FI.tight {n k : Nat} {H : Nat → Nat} {C0 C : Nat → Int} {s t : Nat} {F : Int} (I : FI n k H C0 C s t F) (hH : ∀ e, e < 2 * k → H e < n) (hs : s < n) (ht : t < n) {S : Nat → Bool} (h1 : S s = true) (h2 : S t = false) (hc : cut H k C0 S = F) : ∀ e, e < 2 * k → S (tl H e) = true → S (H e) = false → C e = 0 := by
  have a := I.thru hH hs ht h1 h2
  intro e he r1 r2
  have z := sm_zero (g := fun e => if S (tl H e) = true ∧ S (H e) = false then C e else 0) k (fun e he => by
    show 0 ≤ (if S (tl H e) = true ∧ S (H e) = false then C e else 0)
    split
    · exact I.1 e he
    · exact Int.le_refl _) (by unfold cut at a hc; omega) e he
  simpa [r1, r2] using z
theorem FI.start {n k : Nat} {H : Nat → Nat} {C0 : Nat → Int} {s t : Nat} (h : ∀ e, e < 2 * k → 0 ≤ C0 e) : FI n k H C0 C0 s t 0 := by
  refine ⟨h, fun _ _ => rfl, fun v hv => ?_⟩
  unfold net
  rw [sm_congr (g' := fun _ => 0) k (fun e he => by simp)]
  have z : ∀ k, sm k (fun _ => 0) = 0 := fun k => by
    induction k with
    | zero => rfl
    | succ k ih => unfold sm; rw [ih]; rfl
  rw [z]; simp
/-! ## levels (breadth first) -/
def cn (lv : Nat → Int) : Nat → Nat
  | 0 => 0
  | n + 1 => cn lv n + (if 0 ≤ lv n then 1 else 0)
theorem cn_le (lv : Nat → Int) : ∀ n, cn lv n ≤ n := by
  intro n
  induction n with
  | zero => exact Nat.le_refl _
  | succ n ih => unfold cn; split <;> omega
theorem cn_lt {lv : Nat → Int} {w : Nat} (hw : lv w < 0) : ∀ n, w < n → cn lv n < n := by
  intro n
  induction n with
  | zero => intro h; omega
  | succ n ih =>
    intro h
    unfold cn
    have a := cn_le lv n
    by_cases q : w = n
    · subst q; rw [if_neg (by omega)]; omega
    · have b := ih (by omega)
      split <;> omega
theorem cn_congr {lv lv' : Nat → Int} : ∀ n, (∀ v, v < n → lv' v = lv v) → cn lv' n = cn lv n := by
  intro n
  induction n with
  | zero => intro _; rfl
  | succ n ih => intro h; unfold cn; rw [ih (fun v hv => h v (by omega)), h n (by omega)]
theorem cn_up {lv lv' : Nat → Int} {w : Nat} (hw : lv w < 0) (hw' : 0 ≤ lv' w) (ho : ∀ v, v ≠ w → lv' v = lv v) : ∀ n, w < n → cn lv' n = cn lv n + 1 := by
  intro n
  induction n with
  | zero => intro h; omega
  | succ n ih =>
    intro h
    unfold cn
    by_cases q : w = n
    · subst q
      rw [cn_congr w (fun v hv => ho v (by omega)), if_pos hw', if_neg (by omega)]
    · rw [ih (by omega), ho n (by omega)]
      omega
def LV (n k : Nat) (H : Nat → Nat) (C : Nat → Int) (s : Nat) (lv : Nat → Int) : Prop :=
  lv s = 0 ∧ (∀ v, v < n → -1 ≤ lv v ∧ lv v < n) ∧ (∀ e, e < 2 * k → 0 < C e → 0 ≤ lv (tl H e) → 0 ≤ lv (H e)) ∧ ∀ v, v < n → v ≠ s → 0 ≤ lv v → ∃ e, e < 2 * k ∧ 0 < C e ∧ H e = v ∧ 0 ≤ lv (tl H e) ∧ lv v = lv (tl H e) + 1
def BI (n k : Nat) (H : Nat → Nat) (C : Nat → Int) (s : Nat) (lv : Nat → Int) (q : Nat → Nat) (hd tq : Nat) : Prop :=
  lv s = 0 ∧ hd ≤ tq ∧ tq ≤ cn lv n ∧ (∀ v, v < n → -1 ≤ lv v) ∧ (∀ j, j < tq → q j < n ∧ 0 ≤ lv (q j) ∧ lv (q j) ≤ j) ∧ (∀ v, v < n → 0 ≤ lv v → ∃ j, j < tq ∧ q j = v) ∧
  (∀ v, v < n → v ≠ s → 0 ≤ lv v → ∃ e, e < 2 * k ∧ 0 < C e ∧ H e = v ∧ 0 ≤ lv (tl H e) ∧ lv v = lv (tl H e) + 1) ∧ ∀ j, j < hd → ∀ e, e < 2 * k → tl H e = q j → 0 < C e → 0 ≤ lv (H e)
theorem BI.start {n k : Nat} {H : Nat → Nat} {C : Nat → Int} {s : Nat} {lv : Nat → Int} {q : Nat → Nat} (hs : s < n) (h1 : lv s = 0) (h2 : ∀ v, v < n → v ≠ s → lv v = -1) (h3 : q 0 = s) : BI n k H C s lv q 0 1 := by
  refine ⟨h1, by omega, ?_, fun v hv => ?_, fun j hj => ?_, fun v hv h => ?_, fun v hv hne h => ?_, fun j hj => absurd hj (Nat.not_lt_zero _)⟩
  · have z := cn_up (lv := fun _ => -1) (lv' := fun v => if v = s then 0 else -1) (w := s) (show (-1 : Int) < 0 by decide) (by simp) (fun v hv => by simp [hv]) n hs
    rw [cn_congr (lv := fun v => if v = s then 0 else -1) n (fun v hv => by
      by_cases r : v = s
      · rw [r, h1]; simp
      · rw [h2 v hv r]; simp [r]), z]
    omega
  · by_cases r : v = s
    · rw [r, h1]; decide
    · rw [h2 v hv r]; decide
  · obtain rfl : j = 0 := by omega
    rw [h3, h1]; exact ⟨hs, by decide, by decide⟩
  · by_cases r : v = s
    · exact ⟨0, by decide, by rw [h3, r]⟩
    · rw [h2 v hv r] at h; omega
  · rw [h2 v hv hne] at h; omega
theorem BI.room {n k : Nat} {H : Nat → Nat} {C : Nat → Int} {s : Nat} {lv : Nat → Int} {q : Nat → Nat} {hd tq : Nat} (I : BI n k H C s lv q hd tq) {w : Nat} (hw : w < n) (h : lv w < 0) : tq < n :=
  Nat.lt_of_le_of_lt I.2.2.1 (cn_lt h n hw)
theorem BI.put {n k : Nat} {H : Nat → Nat} {C : Nat → Int} {s : Nat} {lv lv' : Nat → Int} {q q' : Nat → Nat} {hd tq : Nat} (I : BI n k H C s lv q hd tq) (hq : hd < tq) {e : Nat} (he : e < 2 * k) (ht : tl H e = q hd) (hc : 0 < C e) (hn : H e < n) (hl : lv (H e) < 0)
    (h1 : lv' (H e) = lv (q hd) + 1) (h2 : ∀ v, v ≠ H e → lv' v = lv v) (h3 : q' tq = H e) (h4 : ∀ j, j < tq → q' j = q j) : BI n k H C s lv' q' hd (tq + 1) := by
  obtain ⟨i1, i2, i3, i4, i5, i6, i7, i8⟩ := I
  have up : ∀ v, 0 ≤ lv v → lv' v = lv v := fun v hv => h2 v (fun r => by rw [r] at hv; omega)
  have hd5 := i5 hd hq
  refine ⟨by rw [up s (by omega)]; exact i1, by omega, ?_, fun v hv => ?_, fun j hj => ?_, fun v hv h => ?_, fun v hv hne h => ?_, fun j hj e' he' ht' hc' => ?_⟩
  · rw [cn_up hl (by rw [h1]; omega) h2 n hn]; omega
  · by_cases r : v = H e
    · rw [r, h1]; omega
    · rw [h2 v r]; exact i4 v hv
  · by_cases r : j = tq
    · rw [r, h3, h1]; exact ⟨hn, by omega, by omega⟩
    · have z := i5 j (by omega)
      rw [h4 j (by omega), up _ z.2.1]; exact z
  · by_cases r : v = H e
    · exact ⟨tq, by omega, by rw [h3, r]⟩
    · rw [h2 v r] at h
      obtain ⟨j, hj, hv'⟩ := i6 v hv h
      exact ⟨j, by omega, by rw [h4 j hj]; exact hv'⟩
  · by_cases r : v = H e
    · exact ⟨e, he, hc, r.symm, by rw [ht, up _ hd5.2.1]; exact hd5.2.1, by rw [ht, up _ hd5.2.1, r, h1]⟩
    · rw [h2 v r] at h ⊢
      obtain ⟨e', g1, g2, g3, g4, g5⟩ := i7 v hv hne h
      exact ⟨e', g1, g2, g3, by rw [up _ g4]; exact g4, by rw [up _ g4]; exact g5⟩
  · rw [h4 j (by omega)] at ht'
    have z := i8 j hj e' he' ht' hc'
    rw [up _ z]; exact z
theorem BI.next {n k : Nat} {H : Nat → Nat} {C : Nat → Int} {s : Nat} {lv : Nat → Int} {q : Nat → Nat} {hd tq : Nat} (I : BI n k H C s lv q hd tq) (hq : hd < tq) (h : ∀ e, e < 2 * k → tl H e = q hd → 0 < C e → 0 ≤ lv (H e)) : BI n k H C s lv q (hd + 1) tq := by
  obtain ⟨i1, i2, i3, i4, i5, i6, i7, i8⟩ := I
  refine ⟨i1, hq, i3, i4, i5, i6, i7, fun j hj => ?_⟩
  by_cases r : j = hd
  · rw [r]; exact h
  · exact i8 j (by omega)
theorem BI.done {n k : Nat} {H : Nat → Nat} {C : Nat → Int} {s : Nat} {lv : Nat → Int} {q : Nat → Nat} {hd tq : Nat} (I : BI n k H C s lv q hd tq) (hq : ¬ hd < tq) (hH : ∀ e, e < 2 * k → H e < n) : LV n k H C s lv := by
  obtain ⟨i1, i2, i3, i4, i5, i6, i7, i8⟩ := I
  have c := cn_le lv n
  refine ⟨i1, fun v hv => ⟨i4 v hv, ?_⟩, fun e he hc hl => ?_, i7⟩
  · by_cases r : 0 ≤ lv v
    · obtain ⟨j, hj, rfl⟩ := i6 v hv r
      have := (i5 j hj).2.2
      omega
    · omega
  · obtain ⟨j, hj, hv⟩ := i6 _ (hH _ (fl_lt he)) hl
    exact i8 j (by omega) e he hv.symm hc
/-! ## roads (depth first) -/
def Adm (H : Nat → Nat) (C : Nat → Int) (lv : Nat → Int) (t e : Nat) : Prop := 0 < C e ∧ lv (H e) = lv (tl H e) + 1 ∧ (H e = t ∨ lv (H e) < lv t)
/-- a set of edges, each of which can be gone, each of which ends at t or where another begins -/
def PiC (k : Nat) (H : Nat → Nat) (C : Nat → Int) (lv : Nat → Int) (t : Nat) (E : Nat → Prop) : Prop := ∀ e, E e → e < 2 * k ∧ Adm H C lv t e ∧ (H e = t ∨ ∃ e', E e' ∧ tl H e' = H e)
theorem PiC.none (k : Nat) (H : Nat → Nat) (C : Nat → Int) (lv : Nat → Int) (t : Nat) : PiC k H C lv t (fun _ => False) := fun _ h => h.elim
theorem LV.road {n k : Nat} {H : Nat → Nat} {C : Nat → Int} {s t : Nat} {lv : Nat → Int} (I : LV n k H C s lv) (hH : ∀ e, e < 2 * k → H e < n) (ht : t < n) (hl : 0 ≤ lv t) (hst : t ≠ s) : ∃ E : Nat → Prop, PiC k H C lv t E ∧ ∃ e, E e ∧ tl H e = s := by
  have go : ∀ (d : Nat) (v : Nat) (E : Nat → Prop), v < n → lv v = d → (v = t ∨ lv v < lv t) → PiC k H C lv t E → (v = t ∨ ∃ e, E e ∧ tl H e = v) → ∃ E' : Nat → Prop, PiC k H C lv t E' ∧ (s = t ∨ ∃ e, E' e ∧ tl H e = s) := by
    intro d
    induction d with
    | zero =>
      intro v E hv hd hlt hE h
      by_cases r : v = s
      · subst r; exact ⟨E, hE, h⟩
      · obtain ⟨e, g1, g2, g3, g4, g5⟩ := I.2.2.2 v hv r (by omega)
        omega
    | succ d ih =>
      intro v E hv hd hlt hE h
      by_cases r : v = s
      · subst r; exact ⟨E, hE, h⟩
      · obtain ⟨e, g1, g2, g3, g4, g5⟩ := I.2.2.2 v hv r (by omega)
        have lt : lv (tl H e) < lv t := by
          rcases hlt with h' | h'
          · rw [← h']; omega
          · omega
        refine ih (tl H e) (fun e' => E e' ∨ e' = e) (hH _ (fl_lt g1)) (by omega) (Or.inr lt) ?_ (Or.inr ⟨e, Or.inr rfl, rfl⟩)
        intro e' he'
        rcases he' with he' | rfl
        · obtain ⟨a1, a2, a3⟩ := hE e' he'
          refine ⟨a1, a2, a3.imp id (fun ⟨z, z1, z2⟩ => ⟨z, Or.inl z1, z2⟩)⟩
        · refine ⟨g1, ⟨g2, by rw [g3]; exact g5, by rw [g3]; exact hlt⟩, ?_⟩
          rw [g3]
          exact h.imp id (fun ⟨z, z1, z2⟩ => ⟨z, Or.inl z1, z2⟩)
  obtain ⟨E, h1, h2⟩ := go (lv t).toNat t (fun _ => False) ht (by omega) (Or.inl rfl) (PiC.none _ _ _ _ _) (Or.inl rfl)
  exact ⟨E, h1, h2.resolve_left (fun z => hst z.symm)⟩
/-- the road gone so far -/
def PT (n k : Nat) (H : Nat → Nat) (C lv : Nat → Int) (s : Nat) (b Pn nd : Nat → Nat) (d : Nat) : Prop :=
  nd 0 = s ∧ (∀ i, i < d → Pn i < 2 * k ∧ tl H (Pn i) = nd i ∧ H (Pn i) = nd (i + 1) ∧ 0 < C (Pn i) ∧ prv H (nd i) (b (nd i)) = (Pn i : Int)) ∧ ∀ i, i ≤ d → nd i < n ∧ lv (nd i) = (i : Int)
section PT
variable {n k : Nat} {H : Nat → Nat} {C lv : Nat → Int} {s t : Nat} {b Pn nd : Nat → Nat} {d : Nat}
theorem PT.start (hs : s < n) (h0 : lv s = 0) (b Pn : Nat → Nat) : PT n k H C lv s b Pn (fun _ => s) 0 :=
  ⟨rfl, fun i hi => absurd hi (Nat.not_lt_zero _), fun i hi => ⟨hs, by rw [h0]; omega⟩⟩
theorem PT.ne (I : PT n k H C lv s b Pn nd d) {i j : Nat} (hi : i ≤ d) (hj : j ≤ d) (h : i ≠ j) : nd i ≠ nd j := fun q => by
  have a := (I.2.2 i hi).2; have b := (I.2.2 j hj).2
  rw [q] at a; omega
theorem PT.low (I : PT n k H C lv s b Pn nd d) (x : Nat) : PT n k H C lv s (upd b (nd d) x) Pn nd d := by
  refine ⟨I.1, fun i hi => ?_, I.2.2⟩
  obtain ⟨a1, a2, a3, a4, a5⟩ := I.2.1 i hi
  exact ⟨a1, a2, a3, a4, by rw [upd_ne _ _ (I.ne (by omega) (Nat.le_refl _) (by omega))]; exact a5⟩
theorem PT.adv (I : PT n k H C lv s b Pn nd d) (hH : ∀ e, e < 2 * k → H e < n) {e : Nat} (he : e < 2 * k) (hp : prv H (nd d) (b (nd d)) = (e : Int)) (ht : tl H e = nd d) (hA : Adm H C lv t e) : PT n k H C lv s b (upd Pn d e) (upd nd (d + 1) (H e)) (d + 1) := by
  have hn := I.2.2 d (Nat.le_refl _)
  refine ⟨by rw [upd_ne _ _ (by omega)]; exact I.1, fun i hi => ?_, fun i hi => ?_⟩
  · rw [upd_ne nd _ (show i ≠ d + 1 by omega)]
    by_cases q : i = d
    · subst q
      rw [upd_same, upd_same]
      exact ⟨he, ht, rfl, hA.1, hp⟩
    · rw [upd_ne _ _ q, upd_ne _ _ (by omega)]
      exact I.2.1 i (by omega)
  · by_cases q : i = d + 1
    · subst q
      rw [upd_same]
      exact ⟨hH e he, by rw [hA.2.1, ht, hn.2]; omega⟩
    · rw [upd_ne _ _ q]
      exact I.2.2 i (by omega)
theorem PT.drop (I : PT n k H C lv s b Pn nd (d + 1)) : PT n k H C lv s b Pn nd d := ⟨I.1, fun i hi => I.2.1 i (by omega), fun i hi => I.2.2 i (by omega)⟩
/-- the sum of what is left to look at -/
def sb (b : Nat → Nat) : Nat → Nat
  | 0 => 0
  | n + 1 => sb b n + b n
theorem sb_congr {b b' : Nat → Nat} : ∀ n, (∀ v, v < n → b v = b' v) → sb b n = sb b' n := by
  intro n
  induction n with
  | zero => intro _; rfl
  | succ n ih => intro h; unfold sb; rw [ih (fun v hv => h v (by omega)), h n (by omega)]
theorem sb_upd {u x : Nat} : ∀ n, u < n → sb (upd b u x) n + b u = sb b n + x := by
  intro n
  induction n with
  | zero => intro h; omega
  | succ n ih =>
    intro h
    unfold sb
    by_cases q : u = n
    · subst q
      rw [upd_same, sb_congr (b' := b) u (fun v hv => upd_ne b x (show v ≠ u by omega))]
      omega
    · rw [upd_ne _ _ (show n ≠ u by omega)]
      have := ih (by omega)
      omega
theorem prv_lo {v b e : Nat} (hp : prv H v b = (e : Int)) {e' : Nat} (ht : tl H e' = v) (h : e' < b) : e' ≤ e := by
  rcases prv_cases H v b with ⟨h1, h2⟩ | ⟨x, h1, h2, h3, h4⟩
  · exact absurd ht (h2 e' h)
  · rcases Nat.lt_or_ge e e' with q | q
    · exact absurd ht (h4 e' (by omega) h)
    · exact q
theorem prv_no {v b : Nat} (hp : prv H v b < 0) {e' : Nat} (h : e' < b) : tl H e' ≠ v := by
  rcases prv_cases H v b with ⟨h1, h2⟩ | ⟨x, h1, h2, h3, h4⟩
  · exact h2 e' h
  · omega
theorem prv_at {v b : Nat} (hp : ¬ prv H v b < 0) : ∃ e, e < b ∧ prv H v b = (e : Int) ∧ tl H e = v := by
  rcases prv_cases H v b with ⟨h1, h2⟩ | ⟨x, h1, h2, h3, h4⟩
  · omega
  · exact ⟨x, h1, h2, h3⟩
end PT
/-! ## the road is filled -/
def AG (n k : Nat) (H : Nat → Nat) (C0 C C' : Nat → Int) (s t : Nat) (F f : Int) (Pn nd : Nat → Nat) (d i : Nat) : Prop :=
  (∀ e, e < 2 * k → 0 ≤ C' e) ∧ (∀ e, e < 2 * k → C' e + C' (fl e) = C0 e + C0 (fl e)) ∧ (∀ v, v < n → net H k (fun e => C0 e - C' e) v = (if v = s then F + f else 0) - (if v = t then F else 0) - (if v = nd i then f else 0)) ∧ ∀ j, i ≤ j → j < d → C' (Pn j) = C (Pn j)
section AG
variable {n k : Nat} {H : Nat → Nat} {C0 C C' C2 lv : Nat → Int} {s t : Nat} {F f : Int} {b Pn nd : Nat → Nat} {d i : Nat}
theorem AG.start (I : FI n k H C0 C s t F) (h : nd 0 = s) : AG n k H C0 C C s t F f Pn nd d 0 :=
  ⟨I.1, I.2.1, fun v hv => by rw [I.2.2 v hv, h]; by_cases q : v = s <;> simp [q] <;> omega, fun _ _ _ => rfl⟩
theorem AG.step (A : AG n k H C0 C C' s t F f Pn nd d i) (P : PT n k H C lv s b Pn nd d) (hi : i < d) (hf : 0 ≤ f) (hf2 : f ≤ C (Pn i)) (h1 : C2 (Pn i) = C' (Pn i) - f) (h2 : C2 (fl (Pn i)) = C' (fl (Pn i)) + f) (h3 : ∀ e, e ≠ Pn i → e ≠ fl (Pn i) → C2 e = C' e) : AG n k H C0 C C2 s t F f Pn nd d (i + 1) := by
  obtain ⟨a1, a2, a3, a4⟩ := A
  obtain ⟨p1, p2, p3, p4, -⟩ := P.2.1 i hi
  have e1 := a4 i (Nat.le_refl _) hi
  refine ⟨fun e he => ?_, fun e he => ?_, fun v hv => ?_, fun j hj hd => ?_⟩
  · by_cases q : e = Pn i
    · rw [q, h1]; omega
    · by_cases r : e = fl (Pn i)
      · rw [r, h2]; have := a1 _ (fl_lt p1); omega
      · rw [h3 e q r]; exact a1 e he
  · by_cases q : e = Pn i
    · rw [q, h1, h2]; have := a2 _ p1; omega
    · by_cases r : e = fl (Pn i)
      · rw [r, fl_fl, h1, h2]; have := a2 _ p1; omega
      · rw [h3 e q r, h3 (fl e) (fun z => r (by rw [← z, fl_fl])) (fun z => q (by have := congrArg fl z; rw [fl_fl, fl_fl] at this; exact this))]
        exact a2 e he
  · rw [net_push p1 h1 h2 h3 v, a3 v hv, p2, p3]
    have x : ∀ u, (if u = v then f else 0) = (if v = u then f else 0) := fun u => by
      by_cases z : u = v
      · rw [if_pos z, if_pos z.symm]
      · rw [if_neg z, if_neg (fun y => z y.symm)]
    rw [x, x]
    omega
  · have q : Pn j ≠ Pn i := fun z => by
      have := (P.2.1 j hd).2.1
      rw [z, p2] at this
      exact P.ne (by omega) (by omega) (show i ≠ j by omega) this
    have r : Pn j ≠ fl (Pn i) := fun z => by
      have := (P.2.1 j hd).2.2.1
      rw [z, show H (fl (Pn i)) = nd i from p2] at this
      exact P.ne (by omega) (by omega) (show i ≠ j + 1 by omega) this
    rw [h3 _ q r]
    exact a4 j (by omega) hd
theorem AG.done (A : AG n k H C0 C C' s t F f Pn nd d d) (h : nd d = t) : FI n k H C0 C' s t (F + f) :=
  ⟨A.1, A.2.1, fun v hv => by rw [A.2.2.1 v hv, h]; by_cases q : v = t <;> simp [q] <;> omega⟩
end AG
/-! ## the side -/
def Side (n k : Nat) (H : Nat → Nat) (C0 : Nat → Int) (s t : Nat) (S : Nat → Bool) (F : Int) : Prop :=
  S s = true ∧ S t = false ∧ F = cut H k C0 S ∧ ∀ S' : Nat → Bool, S' s = true → S' t = false → F ≤ cut H k C0 S' ∧ (cut H k C0 S' = F → ∀ v, v < n → S v = true → S' v = true)
theorem Side.of {n k : Nat} {H : Nat → Nat} {C0 C : Nat → Int} {s t : Nat} {F : Int} {lv : Nat → Int} (I : FI n k H C0 C s t F) (hH : ∀ e, e < 2 * k → H e < n) (hs : s < n) (ht : t < n) (L : LV n k H C s lv) (hl : lv t < 0) : Side n k H C0 s t (fun v => decide (0 ≤ lv v)) F := by
  have h1 : decide (0 ≤ lv s) = true := by rw [L.1]; rfl
  have h2 : decide (0 ≤ lv t) = false := decide_eq_false (by omega)
  refine ⟨h1, h2, I.eq hH hs ht h1 h2 (fun e he r1 r2 => ?_), fun S' g1 g2 => ⟨I.le hH hs ht g1 g2, fun hc => ?_⟩⟩
  · have r1 := of_decide_eq_true r1
    have r2 := of_decide_eq_false r2
    have c := I.1 e he
    rcases Int.lt_or_le 0 (C e) with q | q
    · exact absurd (L.2.2.1 e he q r1) r2
    · omega
  · have T := I.tight hH hs ht g1 g2 hc
    have go : ∀ (d : Nat) (v : Nat), v < n → lv v = (d : Int) → S' v = true := by
      intro d
      induction d with
      | zero =>
        intro v hv hd
        by_cases r : v = s
        · rw [r]; exact g1
        · obtain ⟨e, x1, x2, x3, x4, x5⟩ := L.2.2.2 v hv r (by omega)
          omega
      | succ d ih =>
        intro v hv hd
        by_cases r : v = s
        · rw [r]; exact g1
        · obtain ⟨e, x1, x2, x3, x4, x5⟩ := L.2.2.2 v hv r (by omega)
          have y := ih (tl H e) (hH _ (fl_lt x1)) (by omega)
          cases q : S' v with
          | true => rfl
          | false =>
            have z := T e x1 y (by rw [x3]; exact q)
            omega
    intro v hv hS
    have hS := of_decide_eq_true hS
    exact go (lv v).toNat v hv (by omega)
theorem prv_or (H : Nat → Nat) (u b ed : Nat) : b ≤ ed ∨ ed < b := by omega
theorem prv_up {H : Nat → Nat} {u b ed e' : Nat} (hp : prv H u b = (ed : Int)) (ht : tl H e' = u) (h1 : ed ≤ e') (hne : e' ≠ ed) : b ≤ e' := by
  rcases Nat.lt_or_ge e' b with q | q
  · have := prv_lo hp ht q
    omega
  · exact q
def SideK (n : Nat) (K : (Nat → Bool) → Int) (s t : Nat) (S : Nat → Bool) (F : Int) : Prop :=
  S s = true ∧ S t = false ∧ F = K S ∧ ∀ S' : Nat → Bool, S' s = true → S' t = false → F ≤ K S' ∧ (K S' = F → ∀ v, v < n → S v = true → S' v = true)
theorem Side.k {n k : Nat} {H : Nat → Nat} {C0 : Nat → Int} {s t : Nat} {S : Nat → Bool} {F : Int} {K : (Nat → Bool) → Int} (X : Side n k H C0 s t S F) (h : ∀ S, K S = cut H k C0 S) : SideK n K s t S F := by
  refine ⟨X.1, X.2.1, by rw [h]; exact X.2.2.1, fun S' g1 g2 => ?_⟩
  rw [h]
  exact X.2.2.2 S' g1 g2
theorem fl_ev {e k : Nat} (h : e < 2 * k) : fl e < 2 * k := fl_lt h
theorem fl_0 (k : Nat) : fl (2 * k) = 2 * k + 1 := by unfold fl; rw [if_pos (by omega)]
theorem fl_1 (k : Nat) : fl (2 * k + 1) = 2 * k := by unfold fl; rw [if_neg (by omega)]; omega

theorem own_one (i : Nat) : Int32.ofNat i + (1 : Int32) = Int32.ofNat (i + 1) := (Int32.ofNat_add i 1).symm
theorem own_lt {i n : Nat} (hi : i < 2147483648) (hn : n < 2147483648) : Int32.ofNat i < Int32.ofNat n ↔ i < n := by
  rw [Int32.lt_iff_toInt_lt, own_ofNat hi, own_ofNat hn]; omega
theorem own_inj {i n : Nat} (hi : i < 2147483648) (hn : n < 2147483648) : Int32.ofNat i = Int32.ofNat n ↔ i = n := by
  constructor
  · intro q
    have a := congrArg Int32.toInt q
    rw [own_ofNat hi, own_ofNat hn] at a; omega
  · intro q; rw [q]
theorem own_m1 {d : Nat} (h : 0 < d) : Int32.ofNat d + (-1 : Int32) = Int32.ofNat (d - 1) := by
  obtain ⟨k, rfl⟩ : ∃ k, d = k + 1 := ⟨d - 1, by omega⟩
  rw [← own_one, Int32.add_assoc, show (1 : Int32) + (-1) = 0 from rfl, Int32.add_zero]; rfl
theorem own_toI {x : Int32} {k : Nat} (h : x.toInt = (k : Int)) : x = Int32.ofNat k := by
  have b := Int32.toInt_lt x
  apply Int32.toInt_inj.mp
  rw [h, own_ofNat (by omega)]
theorem own_neg (x : Int32) : x < 0 ↔ x.toInt < 0 := by rw [Int32.lt_iff_toInt_lt]; rfl
theorem own_pos (d : Nat) (h : d < 2147483648) : (0 : Int32) < Int32.ofNat d ↔ 0 < d := by
  rw [Int32.lt_iff_toInt_lt, own_ofNat h, show (0 : Int32).toInt = 0 from rfl]; omega
theorem own_lpos (x : Int64) : (0 : Int64) < x ↔ 0 < x.toInt := by rw [Int64.lt_iff_toInt_lt]; rfl
theorem own_xor1 {e : Nat} (h : e < 64) : Int32.ofNat e ^^^ (1 : Int32) = Int32.ofNat (fl e) := by
  have q : ∀ n : Fin 64, Int32.ofNat n.val ^^^ (1 : Int32) = Int32.ofNat (fl n.val) := by decide +kernel
  exact q ⟨e, h⟩
theorem own_bm {z : Int} (h1 : -(2 ^ 31) ≤ z) (h2 : z < 2 ^ 31) : z.bmod (2 ^ 32) = z := by
  rw [Int.bmod_def]; omega
theorem own_bm64 {z : Int} (h1 : -(2 ^ 63) ≤ z) (h2 : z < 2 ^ 63) : z.bmod (2 ^ 64) = z := by
  rw [Int.bmod_def]; omega
theorem own_inc {x : Int32} (h1 : -1 ≤ x.toInt) (h2 : x.toInt < 1000) : (x + 1).toInt = x.toInt + 1 := by
  rw [Int32.toInt_add, show (1 : Int32).toInt = 1 from rfl]
  exact own_bm (by omega) (by omega)
theorem own_ladd {x y : Int64} (h1 : 0 ≤ x.toInt) (h2 : 0 ≤ y.toInt) (h3 : x.toInt + y.toInt < 9223372036854775808) : (x + y).toInt = x.toInt + y.toInt := by
  rw [Int64.toInt_add]
  exact own_bm64 (by omega) (by omega)
theorem own_lsub {x y : Int64} (h1 : 0 ≤ y.toInt) (h2 : y.toInt ≤ x.toInt) : (x - y).toInt = x.toInt - y.toInt := by
  have := Int64.toInt_lt x
  rw [Int64.toInt_sub]
  exact own_bm64 (by omega) (by omega)
def own_minL (x y : Int64) : Int64 := if y < x then y else x
theorem own_minL_toInt (x y : Int64) : (own_minL x y).toInt = min x.toInt y.toInt := by
  unfold own_minL
  by_cases q : y < x
  · rw [if_pos q]; have := Int64.lt_iff_toInt_lt.mp q; omega
  · rw [if_neg q]; have := (not_congr Int64.lt_iff_toInt_lt).mp q; omega
def Ci (Cf : Nat → Int64) : Nat → Int := fun e => (Cf e).toInt
def Li (Lf : Nat → Int32) : Nat → Int := fun v => (Lf v).toInt
theorem own_ag {Cg : Nat → Int64} {ed : Nat} {fm : Int64} (h0 : 0 ≤ fm.toInt) (h1 : fm.toInt ≤ (Cg ed).toInt) (h2 : 0 ≤ (Cg (fl ed)).toInt) (h3 : (Cg ed).toInt + (Cg (fl ed)).toInt ≤ 2305843009213693951) :
    Ci (upd (upd Cg ed (Cg ed - fm)) (fl ed) (upd Cg ed (Cg ed - fm) (fl ed) + fm)) ed = Ci Cg ed - fm.toInt ∧ Ci (upd (upd Cg ed (Cg ed - fm)) (fl ed) (upd Cg ed (Cg ed - fm) (fl ed) + fm)) (fl ed) = Ci Cg (fl ed) + fm.toInt ∧ ∀ e, e ≠ ed → e ≠ fl ed → Ci (upd (upd Cg ed (Cg ed - fm)) (fl ed) (upd Cg ed (Cg ed - fm) (fl ed) + fm)) e = Ci Cg e := by
  unfold Ci
  refine ⟨?_, ?_, fun e q r => ?_⟩
  · rw [upd_ne _ _ (fl_ne ed).symm, upd_same]
    exact own_lsub h0 h1
  · rw [upd_same, upd_ne _ _ (fl_ne ed)]
    exact own_ladd h2 h0 (by omega)
  · rw [upd_ne _ _ r, upd_ne _ _ q]
/-- what the arrays of a MinCut hold: n nodes, k pairs of edges in arrays of M places -/
def GP (n k M : Nat) (H : Nat → Nat) (Hf Nf Ff : Nat → Int32) : Prop := n ≤ 5 ∧ k ≤ 16 ∧ 2 * k ≤ M ∧ M ≤ 32 ∧ (∀ e, e < 2 * k → H e < n) ∧ (∀ e, e < 2 * k → Hf e = Int32.ofNat (H e)) ∧ (∀ e, e < 2 * k → (Nf e).toInt = prv H (tl H e) e) ∧ ∀ v, v < n → (Ff v).toInt = prv H v (2 * k)
def CAP (k : Nat) (Cf : Nat → Int64) : Prop := ∀ e, e < 2 * k → 0 ≤ Ci Cf e ∧ Ci Cf e + Ci Cf (fl e) ≤ 2305843009213693951
section Add
variable {n k M : Nat} {H : Nat → Nat} {Hf Nf Ff : Nat → Int32} {Cf : Nat → Int64} {u w : Nat} {c : Int64}
theorem own_H2 (H : Nat → Nat) (k u w : Nat) : (∀ e, e < 2 * k → upd (upd H (2 * k) w) (2 * k + 1) u e = H e) ∧ upd (upd H (2 * k) w) (2 * k + 1) u (2 * k) = w ∧ upd (upd H (2 * k) w) (2 * k + 1) u (2 * k + 1) = u :=
  ⟨fun e he => by rw [upd_ne _ _ (by omega), upd_ne _ _ (by omega)], by rw [upd_ne _ _ (by omega), upd_same], upd_same _ _ _⟩
theorem own_tl2 (H : Nat → Nat) (k u w : Nat) : (∀ e, e < 2 * k → tl (upd (upd H (2 * k) w) (2 * k + 1) u) e = tl H e) ∧ tl (upd (upd H (2 * k) w) (2 * k + 1) u) (2 * k) = u ∧ tl (upd (upd H (2 * k) w) (2 * k + 1) u) (2 * k + 1) = w := by
  have a := own_H2 H k u w
  exact ⟨fun e he => a.1 _ (fl_lt he), by unfold tl; rw [fl_0]; exact a.2.2, by unfold tl; rw [fl_1]; exact a.2.1⟩
theorem GP.add (I : GP n k M H Hf Nf Ff) (h1 : 2 * k + 2 ≤ M) (hu : u < n) (hw : w < n) :
    GP n (k + 1) M (upd (upd H (2 * k) w) (2 * k + 1) u) (upd (upd Hf (2 * k) (Int32.ofNat w)) (2 * k + 1) (Int32.ofNat u)) (upd (upd Nf (2 * k) (Ff u)) (2 * k + 1) (upd Ff u (Int32.ofNat (2 * k)) w)) (upd (upd Ff u (Int32.ofNat (2 * k))) w (Int32.ofNat (2 * k + 1))) := by
  obtain ⟨i1, i2, i3, i4, i5, i6, i7, i8⟩ := I
  have a := own_H2 H k u w
  have t := own_tl2 H k u w
  have pc : ∀ v b, b ≤ 2 * k → prv (upd (upd H (2 * k) w) (2 * k + 1) u) v b = prv H v b := fun v b hb => prv_congr v b (fun e he => t.1 e (by omega))
  have p1 : ∀ v, prv (upd (upd H (2 * k) w) (2 * k + 1) u) v (2 * k + 1) = if u = v then ((2 * k : Nat) : Int) else prv H v (2 * k) := fun v => by
    rw [← pc v (2 * k) (Nat.le_refl _), prv, t.2.1]
  have p2 : ∀ v, prv (upd (upd H (2 * k) w) (2 * k + 1) u) v (2 * (k + 1)) = if w = v then ((2 * k + 1 : Nat) : Int) else if u = v then ((2 * k : Nat) : Int) else prv H v (2 * k) := fun v => by
    rw [← p1 v, show 2 * (k + 1) = (2 * k + 1) + 1 by omega, prv, t.2.2]
  refine ⟨i1, by omega, by omega, i4, fun e he => ?_, fun e he => ?_, fun e he => ?_, fun v hv => ?_⟩
  · rcases (by omega : e < 2 * k ∨ e = 2 * k ∨ e = 2 * k + 1) with q | rfl | rfl
    · rw [a.1 e q]; exact i5 e q
    · rw [a.2.1]; exact hw
    · rw [a.2.2]; exact hu
  · rcases (by omega : e < 2 * k ∨ e = 2 * k ∨ e = 2 * k + 1) with q | rfl | rfl
    · rw [a.1 e q, upd_ne _ _ (by omega), upd_ne _ _ (by omega)]; exact i6 e q
    · rw [a.2.1, upd_ne _ _ (by omega), upd_same]
    · rw [a.2.2, upd_same]
  · rcases (by omega : e < 2 * k ∨ e = 2 * k ∨ e = 2 * k + 1) with q | rfl | rfl
    · rw [t.1 e q, upd_ne _ _ (by omega), upd_ne _ _ (by omega), pc _ _ (by omega)]; exact i7 e q
    · rw [t.2.1, upd_ne _ _ (by omega), upd_same, pc _ _ (Nat.le_refl _)]; exact i8 u hu
    · rw [t.2.2, upd_same, p1]
      by_cases q : u = w
      · rw [if_pos q, q, upd_same]; exact own_ofNat (by omega)
      · rw [if_neg q, upd_ne _ _ (fun z => q z.symm)]; exact i8 w hw
  · rw [p2]
    by_cases q : w = v
    · rw [if_pos q, q, upd_same]; exact own_ofNat (by omega)
    · rw [if_neg q, upd_ne _ _ (fun z => q z.symm)]
      by_cases r : u = v
      · rw [if_pos r, r, upd_same]; exact own_ofNat (by omega)
      · rw [if_neg r, upd_ne _ _ (fun z => r z.symm)]; exact i8 v hv
theorem own_C2 (Cf : Nat → Int64) (k : Nat) (c : Int64) : (∀ e, e < 2 * k → upd (upd Cf (2 * k) c) (2 * k + 1) 0 e = Cf e) ∧ upd (upd Cf (2 * k) c) (2 * k + 1) 0 (2 * k) = c ∧ upd (upd Cf (2 * k) c) (2 * k + 1) 0 (2 * k + 1) = 0 :=
  ⟨fun e he => by rw [upd_ne _ _ (by omega), upd_ne _ _ (by omega)], by rw [upd_ne _ _ (by omega), upd_same], upd_same _ _ _⟩
theorem CAP.add (I : CAP k Cf) (h0 : 0 ≤ c.toInt) (h1 : c.toInt ≤ 2305843009213693951) : CAP (k + 1) (upd (upd Cf (2 * k) c) (2 * k + 1) 0) := by
  have a := own_C2 Cf k c
  intro e he
  unfold Ci
  rcases (by omega : e < 2 * k ∨ e = 2 * k ∨ e = 2 * k + 1) with q | rfl | rfl
  · rw [a.1 e q, a.1 _ (fl_lt q)]; exact I e q
  · rw [fl_0, a.2.1, a.2.2]; exact ⟨h0, by rw [show (0 : Int64).toInt = 0 from rfl]; omega⟩
  · rw [fl_1, a.2.1, a.2.2]; exact ⟨by decide, by rw [show (0 : Int64).toInt = 0 from rfl]; omega⟩
theorem cut_add (S : Nat → Bool) : cut (upd (upd H (2 * k) w) (2 * k + 1) u) (k + 1) (Ci (upd (upd Cf (2 * k) c) (2 * k + 1) 0)) S = cut H k (Ci Cf) S + if S u = true ∧ S w = false then c.toInt else 0 := by
  have a := own_C2 Cf k c
  have b := own_H2 H k u w
  have t := own_tl2 H k u w
  unfold cut
  rw [sm]
  rw [t.2.1, t.2.2, b.2.1, b.2.2, sm_congr (g' := fun e => if S (tl H e) = true ∧ S (H e) = false then Ci Cf e else 0) k (fun e he => by rw [t.1 e he, b.1 e he]; unfold Ci; rw [a.1 e he])]
  unfold Ci
  rw [a.2.1, a.2.2, show (0 : Int64).toInt = 0 from rfl]
  have z : (if S w = true ∧ S u = false then (0 : Int) else 0) = 0 := by split <;> rfl
  rw [z]; omega
theorem GP.copy {Hg Ng : Nat → Int32} (I : GP n k 16 H Hf Nf Ff) (h1 : ∀ j, j < 16 → Hg j = Hf j) (h2 : ∀ j, j < 16 → Ng j = Nf j) : GP n k 32 H Hg Ng Ff := by
  obtain ⟨i1, i2, i3, i4, i5, i6, i7, i8⟩ := I
  exact ⟨i1, i2, by omega, by omega, i5, fun e he => by rw [h1 e (by omega)]; exact i6 e he, fun e he => by rw [h2 e (by omega)]; exact i7 e he, i8⟩
theorem CAP.copy {Cg : Nat → Int64} (I : CAP k Cf) (h : 2 * k ≤ 16) (h1 : ∀ j, j < 16 → Cg j = Cf j) : CAP k Cg := fun e he => by
  unfold Ci; rw [h1 e (by omega), h1 _ (by have := fl_lt he; omega)]; exact I e he
theorem cut_copy {Cg : Nat → Int64} (h : 2 * k ≤ 16) (h1 : ∀ j, j < 16 → Cg j = Cf j) (S : Nat → Bool) : cut H k (Ci Cg) S = cut H k (Ci Cf) S := by
  unfold cut
  exact sm_congr k (fun e he => by unfold Ci; rw [h1 e (by omega)])
end Add
theorem GP.start {n : Nat} (hn : n ≤ 5) {Hf Nf Ff : Nat → Int32} (h : ∀ v, v < n → Ff v = -1) : GP n 0 16 (fun _ => 0) Hf Nf Ff :=
  ⟨hn, by decide, by decide, by decide, fun e he => by omega, fun e he => by omega, fun e he => by omega, fun v hv => by rw [h v hv]; rfl⟩

theorem own_nib (y : Int64) : ∃ k : Nat, k < 16 ∧ (y &&& (15 : Int64)).toInt32 = Int32.ofNat k := by
  have b : (y.toBitVec &&& 15#64).toNat < 16 := by
    rw [BitVec.toNat_and]
    exact Nat.lt_succ_of_le (Nat.le_trans Nat.and_le_right (by decide))
  refine ⟨(y.toBitVec &&& 15#64).toNat, b, ?_⟩
  apply Int32.toBitVec_inj.mp
  show BitVec.signExtend 32 (y &&& (15 : Int64)).toBitVec = BitVec.ofNat 32 _
  rw [Int64.toBitVec_and]
  rw [BitVec.signExtend_eq_setWidth_of_le _ (by decide)]
  apply BitVec.eq_of_toNat_eq
  rw [BitVec.toNat_setWidth, BitVec.toNat_ofNat]
  rfl
theorem own_from {k : Nat} (h : k < 16) : ∃ u : Nat, u < 3 ∧ ((Int32.ofNat k &&& (3 : Int32)) % (3 : Int32)) = Int32.ofNat u := by
  have q : ∀ a : Fin 16, (Int32.ofNat a.val &&& (3 : Int32)) % (3 : Int32) = Int32.ofNat (a.val % 4 % 3) := by decide +kernel
  exact ⟨_, Nat.mod_lt _ (by decide), q ⟨k, h⟩⟩
theorem own_to {k : Nat} (h : k < 16) : ∃ u : Nat, u < 3 ∧ (((Int32.ofNat k).toUInt32 >>> ((2 : Int32) &&& 31).toUInt32).toInt32 % (3 : Int32)) = Int32.ofNat u := by
  have q : ∀ a : Fin 16, ((Int32.ofNat a.val).toUInt32 >>> ((2 : Int32) &&& 31).toUInt32).toInt32 % (3 : Int32) = Int32.ofNat (a.val / 4 % 3) := by decide +kernel
  exact ⟨_, Nat.mod_lt _ (by decide), q ⟨k, h⟩⟩
theorem own_cap (y : Int64) : 0 ≤ (y &&& (9223372036854775807 : Int64)).toInt := by
  show 0 ≤ (y &&& (9223372036854775807 : Int64)).toBitVec.toInt
  rw [Int64.toBitVec_and]
  have b : (y.toBitVec &&& (9223372036854775807 : Int64).toBitVec).toNat ≤ 9223372036854775807 := by
    rw [BitVec.toNat_and]
    exact Nat.and_le_right
  rw [BitVec.toInt_eq_toNat_of_lt (by omega)]
  omega
def own_minI (x y : Int32) : Int32 := if y < x then y else x
/-- the place of a pair of nodes among the three totals -/
def own_px (u w : Nat) : Int32 := if u = 0 ∧ w = 1 then 0 else if u = 1 ∧ w = 2 then 1 else if u = 0 ∧ w = 2 then 2 else -1
def TOT (f : Nat → Int64) (Kc : (Nat → Bool) → Int) : Prop := ∃ c01 c12 c02 : Int, 0 ≤ c01 ∧ 0 ≤ c12 ∧ 0 ≤ c02 ∧ (f 0).toInt = min c01 2305843009213693951 ∧ (f 1).toInt = min c12 2305843009213693951 ∧ (f 2).toInt = min c02 2305843009213693951 ∧ ∀ S : Nat → Bool, S 0 = true → S 2 = false → Kc S = if S 1 = true then c12 + c02 else c01 + c02
theorem TOT.start : TOT (fun _ => 0) (fun _ => 0) := ⟨0, 0, 0, by decide, by decide, by decide, by decide, by decide, by decide, fun S _ _ => by split <;> rfl⟩
theorem own_addmin {x m : Int64} {c : Int} (hc : 0 ≤ c) (hx : x.toInt = min c 2305843009213693951) (h0 : 0 ≤ m.toInt) (h1 : m.toInt ≤ 2305843009213693951) : (own_minL (x + m) 2305843009213693951).toInt = min (c + m.toInt) 2305843009213693951 := by
  rw [own_minL_toInt, own_ladd (by omega) h0 (by omega), show (2305843009213693951 : Int64).toInt = 2305843009213693951 from rfl]
  omega
section TOT
variable {f : Nat → Int64} {Kc : (Nat → Bool) → Int} {m : Int64} {z : Int}
theorem TOT.a01 (I : TOT f Kc) (h0 : 0 ≤ m.toInt) (h1 : m.toInt ≤ 2305843009213693951) (hz : z = m.toInt) : TOT (upd f 0 (own_minL (f 0 + m) 2305843009213693951)) (fun S => Kc S + if S 0 = true ∧ S 1 = false then z else 0) := by
  obtain ⟨c01, c12, c02, i1, i2, i3, e0, e1, e2, hK⟩ := I
  subst hz
  refine ⟨c01 + m.toInt, c12, c02, by omega, i2, i3, by rw [upd_same]; exact own_addmin i1 e0 h0 h1, by rw [upd_ne _ _ (by decide)]; exact e1, by rw [upd_ne _ _ (by decide)]; exact e2, fun S g1 g2 => ?_⟩
  dsimp only
  rw [hK S g1 g2, g1]
  cases S 1 <;> simp <;> omega
theorem TOT.a12 (I : TOT f Kc) (h0 : 0 ≤ m.toInt) (h1 : m.toInt ≤ 2305843009213693951) (hz : z = m.toInt) : TOT (upd f 1 (own_minL (f 1 + m) 2305843009213693951)) (fun S => Kc S + if S 1 = true ∧ S 2 = false then z else 0) := by
  obtain ⟨c01, c12, c02, i1, i2, i3, e0, e1, e2, hK⟩ := I
  subst hz
  refine ⟨c01, c12 + m.toInt, c02, i1, by omega, i3, by rw [upd_ne _ _ (by decide)]; exact e0, by rw [upd_same]; exact own_addmin i2 e1 h0 h1, by rw [upd_ne _ _ (by decide)]; exact e2, fun S g1 g2 => ?_⟩
  dsimp only
  rw [hK S g1 g2, g2]
  cases S 1 <;> simp <;> omega
theorem TOT.a02 (I : TOT f Kc) (h0 : 0 ≤ m.toInt) (h1 : m.toInt ≤ 2305843009213693951) (hz : z = m.toInt) : TOT (upd f 2 (own_minL (f 2 + m) 2305843009213693951)) (fun S => Kc S + if S 0 = true ∧ S 2 = false then z else 0) := by
  obtain ⟨c01, c12, c02, i1, i2, i3, e0, e1, e2, hK⟩ := I
  subst hz
  refine ⟨c01, c12, c02 + m.toInt, i1, i2, by omega, by rw [upd_ne _ _ (by decide)]; exact e0, by rw [upd_ne _ _ (by decide)]; exact e1, by rw [upd_same]; exact own_addmin i3 e2 h0 h1, fun S g1 g2 => ?_⟩
  dsimp only
  rw [hK S g1 g2, g1, g2]
  cases S 1 <;> simp <;> omega
theorem TOT.no (I : TOT f Kc) {u w : Nat} (hu : u < 3) (hw : w < 3) (n1 : ¬ (u = 0 ∧ w = 1)) (n2 : ¬ (u = 1 ∧ w = 2)) (n3 : ¬ (u = 0 ∧ w = 2)) (z : Int) : TOT f (fun S => Kc S + if S u = true ∧ S w = false then z else 0) := by
  obtain ⟨c01, c12, c02, i1, i2, i3, e0, e1, e2, hK⟩ := I
  refine ⟨c01, c12, c02, i1, i2, i3, e0, e1, e2, fun S g1 g2 => ?_⟩
  have : ¬ (S u = true ∧ S w = false) := fun h => by
    rcases (by omega : u = 0 ∨ u = 1 ∨ u = 2) with rfl | rfl | rfl
    · rcases (by omega : w = 0) with rfl
      rw [g1] at h; exact absurd h.2 (by decide)
    · rcases (by omega : w = 0 ∨ w = 1) with rfl | rfl
      · rw [g1] at h; exact absurd h.2 (by decide)
      · rw [h.1] at h; exact absurd h.2 (by decide)
    · rw [g2] at h; exact absurd h.1 (by decide)
  dsimp only
  rw [if_neg this, hK S g1 g2, Int.add_zero]
def S1 (a : Bool) : Nat → Bool := fun v => decide (v = 0) || (a && decide (v = 1))
theorem TOT.null (I : TOT f Kc) (h : ∀ S : Nat → Bool, S 0 = true → S 2 = false → 2305843009213693951 ≤ Kc S) : ¬ (f 2 + own_minL (f 0) (f 1)).toInt < 2305843009213693951 := by
  obtain ⟨c01, c12, c02, i1, i2, i3, e0, e1, e2, hK⟩ := I
  have t := h (S1 true) rfl rfl; have u := h (S1 false) rfl rfl
  rw [hK _ rfl rfl] at t u
  have t : 2305843009213693951 ≤ c12 + c02 := t
  have u : 2305843009213693951 ≤ c01 + c02 := u
  have m := own_minL_toInt (f 0) (f 1)
  rw [own_ladd (by omega) (by omega) (by omega)]
  omega
theorem TOT.side (I : TOT f Kc) {S : Nat → Bool} {F : Int} (sd : SideK 3 Kc 0 2 S F) (hF : F < 2305843009213693951) : (f 2 + own_minL (f 0) (f 1)).toInt < 2305843009213693951 ∧ (S 1 = true ↔ (f 1).toInt < (f 0).toInt) := by
  obtain ⟨c01, c12, c02, i1, i2, i3, e0, e1, e2, hK⟩ := I
  have ev := sd.2.2.1
  rw [hK S sd.1 sd.2.1] at ev
  have t := sd.2.2.2 (S1 true) rfl rfl; have u := sd.2.2.2 (S1 false) rfl rfl
  rw [hK _ rfl rfl] at t u
  have t1 : F ≤ c12 + c02 := t.1
  have u1 : F ≤ c01 + c02 := u.1
  have u2 : c01 + c02 = F → S 1 = true → False := fun h q => absurd (u.2 h 1 (by decide) q) (by decide)
  have m := own_minL_toInt (f 0) (f 1)
  rw [own_ladd (by omega) (by omega) (by omega)]
  cases q : S 1 with
  | true =>
    rw [q] at ev u2
    have ev : F = c12 + c02 := ev
    have : c01 + c02 ≠ F := fun h => u2 h rfl
    exact ⟨by omega, fun _ => by omega, fun _ => rfl⟩
  | false =>
    rw [q] at ev
    have ev : F = c01 + c02 := ev
    exact ⟨by omega, fun h => absurd h (by decide), fun h => by omega⟩
end TOT

def Q_c_min (Z : State) (n0 : Nat) (h0 : Heap) (y0 : Int64) (y1 : Int64) : Option Value → Heap → Prop := fun v h => v = some (.long (own_minL y0 y1)) ∧ h0 = h
abbrev rm_c_min : Room := { frames := 0, cells := 0, slots := 0, locals := 0 }
set_option maxHeartbeats 40000000 in
theorem c_min (l : Launch) (Z : State) (a0 : Array Value) (hw : ∀ d ∈ tables_1, d.before a0 Z = true) (n0 : Nat) (h0 : Heap) (hn : n0 ≤ h0.size) (y0 : Int64) (y1 : Int64) :
    Mt l Z (⟨"java/lang/Math", "min", "(JJ)J"⟩ : MethodName) jdk_29_method_70_code 4 (some .long) rm_c_min n0 #[(.long y0), (.long y1)] h0 (Q_c_min Z n0 h0 y0 y1) := by
  refine met_of (Jvm.Free.JP.mathPlain rfl (by decide +kernel)) (Ls := #[.val (.long y0), .second, .val (.long y1), .second]) (fun m => by first | (simp [entryFrame, mkF, argsToLocals, Value.category]; done) | rfl) hn ?_
  intro p e s m below meth c T K W
  replace K : Cx p s m meth c Z "java/lang/Math" "min" jdk_29_method_70_code 4 (some .long) := K
  generalize eA : (#[(.long y0), (.long y1)] : Array Value) = args at W
  show Go p e below s n0 (Q_c_min Z n0 h0 y0 y1) 0 0 T (mkF m 0 #[.val (.long y0), .second, .val (.long y1), .second] [])
  refine g_lloadN K W d6_0 rfl (pc' := 1) rfl ?_
  refine g_lloadN K W d6_1 rfl (pc' := 2) rfl ?_
  refine g_lcmp_gt K W d6_2 (pc1 := 3) rfl d6_3 (pt := 10) rfl (pf := 6) rfl (fun hc2 => ?_) (fun hc2 => ?_)
  · refine g_lloadN K W d6_10 rfl (pc' := 11) rfl ?_
    exact g_retL K W d6_11 (by decide) (by decide) ⟨by unfold own_minL; rw [if_pos hc2], rfl⟩
  · refine g_lloadN K W d6_6 rfl (pc' := 7) rfl ?_
    refine g_goto K W d6_7 (pt := 11) rfl ?_
    exact g_retL K W d6_11 (by decide) (by decide) ⟨by unfold own_minL; rw [if_neg hc2], rfl⟩
def Q_c_fill (Z : State) (n0 : Nat) (h0 : Heap) (o0 : Addr) (x1 : Int32) (nn : Nat) (f : Nat → Int32) : Option Value → Heap → Prop := fun v h => v = none ∧ Keep h0 h [o0] ∧ ∃ g : Nat → Int32, AyI Z h o0 .int nn g ∧ ∀ j, j < nn → g j = x1
abbrev rm_c_fill : Room := { frames := 0, cells := 0, slots := 0, locals := 0 }
set_option maxHeartbeats 40000000 in
theorem c_fill (l : Launch) (Z : State) (a0 : Array Value) (hw : ∀ d ∈ tables_1, d.before a0 Z = true) (n0 : Nat) (h0 : Heap) (hn : n0 ≤ h0.size) (o0 : Addr) (x1 : Int32) (nn : Nat) (f : Nat → Int32) (A_o0 : AyI Z h0 o0 .int nn f) (ge_o0 : n0 ≤ o0) (hn5 : nn ≤ 5) :
    Mt l Z (⟨"java/util/Arrays", "fill", "([II)V"⟩ : MethodName) jdk_65_method_103_code 4 none rm_c_fill n0 #[(.ref o0), (.int x1)] h0 (Q_c_fill Z n0 h0 o0 x1 nn f) := by
  refine met_of (plainFor_of_name pn_0) (Ls := #[.val (.ref o0), .val (.int x1), .unset, .unset]) (fun m => by first | (simp [entryFrame, mkF, argsToLocals, Value.category]; done) | rfl) hn ?_
  intro p e s m below meth c T K W
  replace K : Cx p s m meth c Z "java/util/Arrays" "fill" jdk_65_method_103_code 4 none := K
  generalize eA : (#[(.ref o0), (.int x1)] : Array Value) = args at W
  show Go p e below s n0 (Q_c_fill Z n0 h0 o0 x1 nn f) 0 0 T (mkF m 0 #[.val (.ref o0), .val (.int x1), .unset, .unset] [])
  have kp := Keep.refl h0 [o0]
  refine g_iconst K W (v := (0 : Int32)) d3_0 rfl (pc' := 1) rfl ?_
  refine g_istoreN K W d3_1 (Ls' := #[.val (.ref o0), .val (.int x1), .val (.int (0 : Int32)), .unset]) rfl (pc' := 2) rfl ?_
  refine g_aloadN K W d3_2 rfl rfl (pc' := 3) rfl ?_
  refine g_alenI K W A_o0 (v := (Int32.ofNat nn)) rfl d3_3 (pc' := 4) rfl ?_
  refine g_istoreN K W d3_4 (Ls' := #[.val (.ref o0), .val (.int x1), .val (.int (0 : Int32)), .val (.int (Int32.ofNat nn))]) rfl (pc' := 5) rfl ?_
  have loop : ∀ (k : Nat) (i : Nat) (f : Nat → Int32) (T : State) (h : Heap), nn - i = k → i ≤ nn → (∀ j, j < i → f j = x1) → AyI Z h o0 .int nn f → Keep h0 h [o0] → Wd p l e rm_c_fill s m args below meth c n0 T h 0 0 → Go p e below s n0 (Q_c_fill Z n0 h0 o0 x1 nn f) 0 0 T (mkF m 5 #[.val (.ref o0), .val (.int x1), .val (.int (Int32.ofNat i)), .val (.int (Int32.ofNat nn))] []) := by
    intro k
    induction k using Nat.strongRecOn with
    | ind k ih =>
      intro i f T h hk hi hf A_o0 kp W
      refine g_iloadN K W d3_5 rfl (pc' := 6) rfl ?_
      refine g_iloadN K W d3_6 rfl (pc' := 7) rfl ?_
      refine g_icmp_ge K W d3_7 (pt := 20) rfl (pf := 10) rfl (fun hc7 => ?_) (fun hc7 => ?_)
      · refine g_aloadN K W d3_10 rfl rfl (pc' := 11) rfl ?_
        refine g_iloadN K W d3_11 rfl (pc' := 12) rfl ?_
        refine g_iloadN K W d3_12 rfl (pc' := 13) rfl ?_
        refine g_iastore K W A_o0 (k := i) (own_ofNat (by omega)) ((own_lt (i := i) (n := nn) (by omega) (by omega)).mp hc7) ge_o0 d3_13 (pc' := 14) rfl (fun T h W w A_o0 => ?_)
        have kp := kp.wr w (Or.inl (List.mem_of_getElem? (i := 0) rfl))
        refine g_iinc K W d3_14 rfl (Ls' := #[.val (.ref o0), .val (.int x1), .val (.int ((Int32.ofNat i) + (1 : Int32))), .val (.int (Int32.ofNat nn))]) rfl (pc' := 17) rfl ?_
        refine g_goto K W d3_17 (pt := 5) rfl ?_
        rw [own_one]
        exact ih (nn - (i + 1)) (by have := ((own_lt (i := i) (n := nn) (by omega) (by omega)).mp hc7); omega) (i + 1) (upd f i x1) T h rfl (by have := ((own_lt (i := i) (n := nn) (by omega) (by omega)).mp hc7); omega) (fun j hj => if q : j = i then by rw [q, upd_same] else by rw [upd_ne _ _ q]; exact hf j (by omega)) A_o0 kp W
      · exact g_ret0 K W d3_20 (by decide) (by decide) ⟨rfl, kp, f, A_o0, fun j hj => hf j (by have := (not_congr (own_lt (i := i) (n := nn) (by omega) (by omega))).mp hc7; omega)⟩
  exact loop nn 0 _ T h0 rfl (Nat.zero_le _) (fun j hj => absurd hj (Nat.not_lt_zero _)) A_o0 kp W
def Q_c_level (Z : State) (n0 : Nat) (h0 : Heap) (o0 : Addr) (xs : Int32) (xt : Int32) (o3 : Addr) (o4 : Addr) (ah : Addr) (ac : Addr) (an : Addr) (af : Addr) (nn : Nat) (kk : Nat) (M : Nat) (H : Nat → Nat) (Hf : Nat → Int32) (Cf : Nat → Int64) (Nf : Nat → Int32) (Ff : Nat → Int32) (sr : Nat) (sk : Nat) (L0 : Nat → Int32) (Q0 : Nat → Int32) : Option Value → Heap → Prop := fun v h => (v = some (.int 1) ∧ ∃ Lf Qf : Nat → Int32, AyI Z h o3 .int nn Lf ∧ AyI Z h o4 .int nn Qf ∧ Keep h0 h [o3, o4] ∧ LV nn kk H (Ci Cf) sr (Li Lf) ∧ ¬ Li Lf sk < 0) ∨ (v = some (.int 0) ∧ ∃ Lf Qf : Nat → Int32, AyI Z h o3 .int nn Lf ∧ AyI Z h o4 .int nn Qf ∧ Keep h0 h [o3, o4] ∧ LV nn kk H (Ci Cf) sr (Li Lf) ∧ Li Lf sk < 0)
abbrev rm_c_level : Room := { frames := 1, cells := 0, slots := 0, locals := 15 }
set_option maxHeartbeats 40000000 in
theorem c_level (l : Launch) (Z : State) (a0 : Array Value) (hw : ∀ d ∈ tables_1, d.before a0 Z = true) (n0 : Nat) (h0 : Heap) (hn : n0 ≤ h0.size) (o0 : Addr) (xs : Int32) (xt : Int32) (o3 : Addr) (o4 : Addr) (ah : Addr) (ac : Addr) (an : Addr) (af : Addr) (nn : Nat) (kk : Nat) (M : Nat) (H : Nat → Nat) (Hf : Nat → Int32) (Cf : Nat → Int64) (Nf : Nat → Int32) (Ff : Nat → Int32) (sr : Nat) (sk : Nat) (L0 : Nat → Int32) (Q0 : Nat → Int32) (X_o0 : Exa Z h0 o0 "com/example/ichnos/ichnos/planning/ils/MinCut") (F_o0_heads : Fld Z h0 o0 "com/example/ichnos/ichnos/planning/ils/MinCut" "heads" "[I" (.ref ah)) (F_o0_capacities : Fld Z h0 o0 "com/example/ichnos/ichnos/planning/ils/MinCut" "capacities" "[J" (.ref ac)) (F_o0_nextOut : Fld Z h0 o0 "com/example/ichnos/ichnos/planning/ils/MinCut" "nextOut" "[I" (.ref an)) (F_o0_firstOut : Fld Z h0 o0 "com/example/ichnos/ichnos/planning/ils/MinCut" "firstOut" "[I" (.ref af)) (F_o0_nodes : Fld Z h0 o0 "com/example/ichnos/ichnos/planning/ils/MinCut" "nodes" "I" (.int (Int32.ofNat nn))) (A_ah : AyI Z h0 ah .int M Hf) (A_ac : AyJ Z h0 ac M Cf) (A_an : AyI Z h0 an .int M Nf) (A_af : AyI Z h0 af .int nn Ff) (A_o3 : AyI Z h0 o3 .int nn L0) (A_o4 : AyI Z h0 o4 .int nn Q0) (ge_o3 : n0 ≤ o3) (ge_o4 : n0 ≤ o4) (ne_o0_o3 : o0 ≠ o3) (ne_o0_o4 : o0 ≠ o4) (ne_ah_o3 : ah ≠ o3) (ne_ah_o4 : ah ≠ o4) (ne_ac_o3 : ac ≠ o3) (ne_ac_o4 : ac ≠ o4) (ne_an_o3 : an ≠ o3) (ne_an_o4 : an ≠ o4) (ne_af_o3 : af ≠ o3) (ne_af_o4 : af ≠ o4) (ne_o3_o4 : o3 ≠ o4) (ne_o4_o3 : o4 ≠ o3) (exs : xs = Int32.ofNat sr) (ext : xt = Int32.ofNat sk) (hs : sr < nn) (ht : sk < nn) (gp : GP nn kk M H Hf Nf Ff) :
    Mt l Z (⟨"com/example/ichnos/ichnos/planning/ils/MinCut", "level", "(II[I[I)Z"⟩ : MethodName) prog_66_method_5_code 9 (some .boolean) rm_c_level n0 #[(.ref o0), (.int xs), (.int xt), (.ref o3), (.ref o4)] h0 (Q_c_level Z n0 h0 o0 xs xt o3 o4 ah ac an af nn kk M H Hf Cf Nf Ff sr sk L0 Q0) := by
  refine met_of (plainFor_of_name pn_1) (Ls := #[.val (.ref o0), .val (.int xs), .val (.int xt), .val (.ref o3), .val (.ref o4), .unset, .unset, .unset, .unset]) (fun m => by first | (simp [entryFrame, mkF, argsToLocals, Value.category]; done) | rfl) hn ?_
  intro p e s m below meth c T K W
  replace K : Cx p s m meth c Z "com/example/ichnos/ichnos/planning/ils/MinCut" "level" prog_66_method_5_code 9 (some .boolean) := K
  generalize eA : (#[(.ref o0), (.int xs), (.int xt), (.ref o3), (.ref o4)] : Array Value) = args at W
  show Go p e below s n0 (Q_c_level Z n0 h0 o0 xs xt o3 o4 ah ac an af nn kk M H Hf Cf Nf Ff sr sk L0 Q0) 0 0 T (mkF m 0 #[.val (.ref o0), .val (.int xs), .val (.int xt), .val (.ref o3), .val (.ref o4), .unset, .unset, .unset, .unset] [])
  have kp := Keep.refl h0 [o3, o4]
  subst exs ext
  show Go p e below s n0 (Q_c_level Z n0 h0 o0 (Int32.ofNat sr) (Int32.ofNat sk) o3 o4 ah ac an af nn kk M H Hf Cf Nf Ff sr sk L0 Q0) 0 0 T (mkF m 0 #[.val (.ref o0), .val (.int (Int32.ofNat sr)), .val (.int (Int32.ofNat sk)), .val (.ref o3), .val (.ref o4), .unset, .unset, .unset, .unset] [])
  obtain ⟨hn5, hk16, hkM, hM32, hH, hHf, hNf, hFf⟩ := gp
  refine g_aloadN K W d12_0 rfl rfl (pc' := 1) rfl ?_
  refine g_iconst K W (v := (-1 : Int32)) d12_1 rfl (pc' := 2) rfl ?_
  refine g_callS (c_fill l Z a0 hw n0 _ W.sz o3 (-1 : Int32) nn _ A_o3 ge_o3 hn5) K W (hw _ (List.mem_of_getElem? (i := 21) rfl)) (hw _ (List.mem_of_getElem? (i := 22) rfl)) (hw _ (List.mem_of_getElem? (i := 23) rfl)) (hw _ (List.mem_of_getElem? (i := 24) rfl)) (by decide) (lenOf pd_0 rfl) d12_2 (pc' := 5) rfl (argsL := [(.ref o3), (.int (-1 : Int32))]) (rest := []) rfl rfl (by decide) (wt := 0) rfl (by decide) (by decide) (by decide) ?_
  rintro T h _ W ⟨rfl, kq, g, A_o3, hg⟩
  show Go p e below s n0 (Q_c_level Z n0 h0 o0 (Int32.ofNat sr) (Int32.ofNat sk) o3 o4 ah ac an af nn kk M H Hf Cf Nf Ff sr sk L0 Q0) 0 0 T (mkF m 5 #[.val (.ref o0), .val (.int (Int32.ofNat sr)), .val (.int (Int32.ofNat sk)), .val (.ref o3), .val (.ref o4), .unset, .unset, .unset, .unset] [])
  have kp := kp.trans kq (allS (Or.inl (List.mem_of_getElem? (i := 0) rfl)) all0)
  have X_o0 := X_o0.keep kq
  have F_o0_heads := F_o0_heads.keep kq (ninS ne_o0_o3 nin0)
  have F_o0_capacities := F_o0_capacities.keep kq (ninS ne_o0_o3 nin0)
  have F_o0_nextOut := F_o0_nextOut.keep kq (ninS ne_o0_o3 nin0)
  have F_o0_firstOut := F_o0_firstOut.keep kq (ninS ne_o0_o3 nin0)
  have F_o0_nodes := F_o0_nodes.keep kq (ninS ne_o0_o3 nin0)
  have A_ah := A_ah.keep kq (ninS ne_ah_o3 nin0)
  have A_ac := A_ac.keep kq (ninS ne_ac_o3 nin0)
  have A_an := A_an.keep kq (ninS ne_an_o3 nin0)
  have A_af := A_af.keep kq (ninS ne_af_o3 nin0)
  have A_o4 := A_o4.keep kq (ninS ne_o4_o3 nin0)
  refine g_aloadN K W d12_5 rfl rfl (pc' := 6) rfl ?_
  refine g_iloadN K W d12_6 rfl (pc' := 7) rfl ?_
  refine g_iconst K W (v := (0 : Int32)) d12_7 rfl (pc' := 8) rfl ?_
  refine g_iastore K W A_o3 (k := sr) (own_ofNat (by omega)) hs ge_o3 d12_8 (pc' := 9) rfl (fun T h W w A_o3 => ?_)
  have kp := kp.wr w (Or.inl (List.mem_of_getElem? (i := 0) rfl))
  have X_o0 := X_o0.wr w
  have F_o0_heads := F_o0_heads.other w (Or.inl ne_o0_o3)
  have F_o0_capacities := F_o0_capacities.other w (Or.inl ne_o0_o3)
  have F_o0_nextOut := F_o0_nextOut.other w (Or.inl ne_o0_o3)
  have F_o0_firstOut := F_o0_firstOut.other w (Or.inl ne_o0_o3)
  have F_o0_nodes := F_o0_nodes.other w (Or.inl ne_o0_o3)
  have A_ah := A_ah.other w ne_ah_o3
  have A_ac := A_ac.other w ne_ac_o3
  have A_an := A_an.other w ne_an_o3
  have A_af := A_af.other w ne_af_o3
  have A_o4 := A_o4.other w ne_o4_o3
  refine g_aload K W d12_9 rfl rfl (pc' := 11) rfl ?_
  refine g_iconst K W (v := (0 : Int32)) d12_11 rfl (pc' := 12) rfl ?_
  refine g_iloadN K W d12_12 rfl (pc' := 13) rfl ?_
  refine g_iastore K W A_o4 (k := 0) rfl (by omega) ge_o4 d12_13 (pc' := 14) rfl (fun T h W w A_o4 => ?_)
  have kp := kp.wr w (Or.inl (List.mem_of_getElem? (i := 1) rfl))
  have X_o0 := X_o0.wr w
  have F_o0_heads := F_o0_heads.other w (Or.inl ne_o0_o4)
  have F_o0_capacities := F_o0_capacities.other w (Or.inl ne_o0_o4)
  have F_o0_nextOut := F_o0_nextOut.other w (Or.inl ne_o0_o4)
  have F_o0_firstOut := F_o0_firstOut.other w (Or.inl ne_o0_o4)
  have F_o0_nodes := F_o0_nodes.other w (Or.inl ne_o0_o4)
  have A_ah := A_ah.other w ne_ah_o4
  have A_ac := A_ac.other w ne_ac_o4
  have A_an := A_an.other w ne_an_o4
  have A_af := A_af.other w ne_af_o4
  have A_o3 := A_o3.other w ne_o3_o4
  refine g_iconst K W (v := (1 : Int32)) d12_14 rfl (pc' := 15) rfl ?_
  refine g_istore K W d12_15 (Ls' := #[.val (.ref o0), .val (.int (Int32.ofNat sr)), .val (.int (Int32.ofNat sk)), .val (.ref o3), .val (.ref o4), .val (.int (1 : Int32)), .unset, .unset, .unset]) rfl (pc' := 17) rfl ?_
  refine g_iconst K W (v := (0 : Int32)) d12_17 rfl (pc' := 18) rfl ?_
  refine g_istore K W d12_18 (Ls' := #[.val (.ref o0), .val (.int (Int32.ofNat sr)), .val (.int (Int32.ofNat sk)), .val (.ref o3), .val (.ref o4), .val (.int (1 : Int32)), .val (.int (0 : Int32)), .unset, .unset]) rfl (pc' := 20) rfl ?_
  have loop1 : ∀ (mz : Nat) (hd : Nat) (tq : Nat) (Lf : Nat → Int32) (Qf : Nat → Int32) (q : Nat → Nat) (s7 : Slot) (s8 : Slot) (T : State) (h : Heap), nn - hd = mz → BI nn kk H (Ci Cf) sr (Li Lf) q hd tq → (∀ j, j < tq → Qf j = Int32.ofNat (q j)) → (s7 = .unset ∨ ∃ z : Int32, s7 = .val (.int z)) → (s8 = .unset ∨ ∃ z : Int32, s8 = .val (.int z)) → Exa Z h o0 "com/example/ichnos/ichnos/planning/ils/MinCut" → Fld Z h o0 "com/example/ichnos/ichnos/planning/ils/MinCut" "heads" "[I" (.ref ah) → Fld Z h o0 "com/example/ichnos/ichnos/planning/ils/MinCut" "capacities" "[J" (.ref ac) → Fld Z h o0 "com/example/ichnos/ichnos/planning/ils/MinCut" "nextOut" "[I" (.ref an) → Fld Z h o0 "com/example/ichnos/ichnos/planning/ils/MinCut" "firstOut" "[I" (.ref af) → Fld Z h o0 "com/example/ichnos/ichnos/planning/ils/MinCut" "nodes" "I" (.int (Int32.ofNat nn)) → AyI Z h ah .int M Hf → AyJ Z h ac M Cf → AyI Z h an .int M Nf → AyI Z h af .int nn Ff → AyI Z h o3 .int nn Lf → AyI Z h o4 .int nn Qf → Keep h0 h [o3, o4] → Wd p l e rm_c_level s m args below meth c n0 T h 0 0 → Go p e below s n0 (Q_c_level Z n0 h0 o0 (Int32.ofNat sr) (Int32.ofNat sk) o3 o4 ah ac an af nn kk M H Hf Cf Nf Ff sr sk L0 Q0) 0 0 T (mkF m 20 #[.val (.ref o0), .val (.int (Int32.ofNat sr)), .val (.int (Int32.ofNat sk)), .val (.ref o3), .val (.ref o4), .val (.int (Int32.ofNat tq)), .val (.int (Int32.ofNat hd)), s7, s8] []) := by
    intro mz
    induction mz using Nat.strongRecOn with
    | ind mz ih =>
      intro hd tq Lf Qf q s7 s8 T h hm bi hq hs_s7 hs_s8 X_o0 F_o0_heads F_o0_capacities F_o0_nextOut F_o0_firstOut F_o0_nodes A_ah A_ac A_an A_af A_o3 A_o4 kp W
      have ih0 := ih
      have htq : tq ≤ nn := Nat.le_trans bi.2.2.1 (cn_le _ _)
      have hhd := bi.2.1
      refine g_iload K W d12_20 rfl (pc' := 22) rfl ?_
      refine g_iload K W d12_22 rfl (pc' := 24) rfl ?_
      refine g_icmp_ge K W d12_24 (pt := 120) rfl (pf := 27) rfl (fun hc24 => ?_) (fun hc24 => ?_)
      · have hlt : hd < tq := (own_lt (by omega) (by omega)).mp hc24
        have hqn := bi.2.2.2.2.1 hd hlt
        obtain ⟨u, hu⟩ : ∃ u, q hd = u := ⟨_, rfl⟩
        rw [hu] at hqn
        have hun := hqn.1
        refine g_aload K W d12_27 rfl rfl (pc' := 29) rfl ?_
        refine g_iload K W d12_29 rfl (pc' := 31) rfl ?_
        refine g_iaload K W A_o4 (k := hd) (own_ofNat (by omega)) (by omega) (v := (Int32.ofNat u)) (by rw [← hu]; exact hq hd hlt) d12_31 (pc' := 32) rfl ?_
        refine g_istore K W d12_32 (Ls' := #[.val (.ref o0), .val (.int (Int32.ofNat sr)), .val (.int (Int32.ofNat sk)), .val (.ref o3), .val (.ref o4), .val (.int (Int32.ofNat tq)), .val (.int (Int32.ofNat hd)), .val (.int (Int32.ofNat u)), s8]) (by rcases hs_s7 with rfl | ⟨z, rfl⟩ <;> rfl) (pc' := 34) rfl ?_
        refine g_aloadN K W d12_34 rfl rfl (pc' := 35) rfl ?_
        refine g_getF K W (host := "") (Or.inl (hw _ (List.mem_of_getElem? (i := 19) rfl))) Via.refl F_o0_firstOut d12_35 (pc' := 38) rfl (fun T W => ?_)
        refine g_iload K W d12_38 rfl (pc' := 40) rfl ?_
        refine g_iaload K W A_af (k := u) (own_ofNat (by omega)) hun (v := (Ff u)) rfl d12_40 (pc' := 41) rfl ?_
        refine g_istore K W d12_41 (Ls' := #[.val (.ref o0), .val (.int (Int32.ofNat sr)), .val (.int (Int32.ofNat sk)), .val (.ref o3), .val (.ref o4), .val (.int (Int32.ofNat tq)), .val (.int (Int32.ofNat hd)), .val (.int (Int32.ofNat u)), .val (.int (Ff u))]) (by rcases hs_s8 with rfl | ⟨z, rfl⟩ <;> rfl) (pc' := 43) rfl ?_
        have loop2 : ∀ (my : Nat) (b : Nat) (x8 : Int32) (tq : Nat) (Lf : Nat → Int32) (Qf : Nat → Int32) (q : Nat → Nat) (T : State) (h : Heap), b = my → x8.toInt = prv H u b → b ≤ 2 * kk → hd < tq → q hd = u → u < nn → BI nn kk H (Ci Cf) sr (Li Lf) q hd tq → (∀ j, j < tq → Qf j = Int32.ofNat (q j)) → (∀ ed, b ≤ ed → ed < 2 * kk → tl H ed = u → 0 < Ci Cf ed → 0 ≤ Li Lf (H ed)) → Exa Z h o0 "com/example/ichnos/ichnos/planning/ils/MinCut" → Fld Z h o0 "com/example/ichnos/ichnos/planning/ils/MinCut" "heads" "[I" (.ref ah) → Fld Z h o0 "com/example/ichnos/ichnos/planning/ils/MinCut" "capacities" "[J" (.ref ac) → Fld Z h o0 "com/example/ichnos/ichnos/planning/ils/MinCut" "nextOut" "[I" (.ref an) → Fld Z h o0 "com/example/ichnos/ichnos/planning/ils/MinCut" "firstOut" "[I" (.ref af) → Fld Z h o0 "com/example/ichnos/ichnos/planning/ils/MinCut" "nodes" "I" (.int (Int32.ofNat nn)) → AyI Z h ah .int M Hf → AyJ Z h ac M Cf → AyI Z h an .int M Nf → AyI Z h af .int nn Ff → AyI Z h o3 .int nn Lf → AyI Z h o4 .int nn Qf → Keep h0 h [o3, o4] → Wd p l e rm_c_level s m args below meth c n0 T h 0 0 → Go p e below s n0 (Q_c_level Z n0 h0 o0 (Int32.ofNat sr) (Int32.ofNat sk) o3 o4 ah ac an af nn kk M H Hf Cf Nf Ff sr sk L0 Q0) 0 0 T (mkF m 43 #[.val (.ref o0), .val (.int (Int32.ofNat sr)), .val (.int (Int32.ofNat sk)), .val (.ref o3), .val (.ref o4), .val (.int (Int32.ofNat tq)), .val (.int (Int32.ofNat hd)), .val (.int (Int32.ofNat u)), .val (.int x8)] []) := by
          intro my
          induction my using Nat.strongRecOn with
          | ind my ih =>
            intro b x8 tq Lf Qf q T h hm hx8 hb hlt hu hun bi hq hcl X_o0 F_o0_heads F_o0_capacities F_o0_nextOut F_o0_firstOut F_o0_nodes A_ah A_ac A_an A_af A_o3 A_o4 kp W
            have htq : tq ≤ nn := Nat.le_trans bi.2.2.1 (cn_le _ _)
            refine g_iload K W d12_43 rfl (pc' := 45) rfl ?_
            refine g_if_lt K W d12_45 (pt := 114) rfl (pf := 48) rfl (fun hc45 => ?_) (fun hc45 => ?_)
            · refine g_iinc K W d12_114 rfl (Ls' := #[.val (.ref o0), .val (.int (Int32.ofNat sr)), .val (.int (Int32.ofNat sk)), .val (.ref o3), .val (.ref o4), .val (.int (Int32.ofNat tq)), .val (.int ((Int32.ofNat hd) + (1 : Int32))), .val (.int (Int32.ofNat u)), .val (.int x8)]) rfl (pc' := 117) rfl ?_
              refine g_goto K W d12_117 (pt := 20) rfl ?_
              rw [own_one]
              exact ih0 (nn - (hd + 1)) (by omega) (hd + 1) tq Lf Qf q _ _ T h rfl (bi.next hlt (fun ed h1 h2 h3 => (prv_or H u b ed).elim (fun z => hcl ed z h1 (h2.trans hu) h3) (fun z => absurd (h2.trans hu) (prv_no (by rw [← hx8]; exact (own_neg _).mp hc45) z)))) hq (Or.inr ⟨_, rfl⟩) (Or.inr ⟨_, rfl⟩) X_o0 F_o0_heads F_o0_capacities F_o0_nextOut F_o0_firstOut F_o0_nodes A_ah A_ac A_an A_af A_o3 A_o4 kp W
            · have hx : ¬ prv H u b < 0 := by rw [← hx8]; exact fun z => hc45 ((own_neg _).mpr z)
              obtain ⟨ed, h1, h2, h3⟩ := prv_at hx
              have hxe : x8.toInt = (ed : Int) := hx8.trans h2
              have hed : ed < 2 * kk := by omega
              have hHe := hH ed hed
              refine g_aloadN K W d12_48 rfl rfl (pc' := 49) rfl ?_
              refine g_getF K W (host := "") (Or.inl (hw _ (List.mem_of_getElem? (i := 13) rfl))) Via.refl F_o0_capacities d12_49 (pc' := 52) rfl (fun T W => ?_)
              refine g_iload K W d12_52 rfl (pc' := 54) rfl ?_
              refine g_laload K W A_ac (k := ed) hxe (by omega) (v := (Cf ed)) rfl d12_54 (pc' := 55) rfl ?_
              refine g_lconst K W (v := (0 : Int64)) d12_55 rfl (pc' := 56) rfl ?_
              refine g_lcmp_le K W d12_56 (pc1 := 57) rfl d12_57 (pt := 102) rfl (pf := 60) rfl (fun hc56 => ?_) (fun hc56 => ?_)
              · refine g_aloadN K W d12_60 rfl rfl (pc' := 61) rfl ?_
                refine g_aloadN K W d12_61 rfl rfl (pc' := 62) rfl ?_
                refine g_getF K W (host := "") (Or.inl (hw _ (List.mem_of_getElem? (i := 10) rfl))) Via.refl F_o0_heads d12_62 (pc' := 65) rfl (fun T W => ?_)
                refine g_iload K W d12_65 rfl (pc' := 67) rfl ?_
                refine g_iaload K W A_ah (k := ed) hxe (by omega) (v := (Int32.ofNat (H ed))) (hHf ed hed) d12_67 (pc' := 68) rfl ?_
                refine g_iaload K W A_o3 (k := (H ed)) (own_ofNat (by omega)) hHe (v := (Lf (H ed))) rfl d12_68 (pc' := 69) rfl ?_
                refine g_if_ge K W d12_69 (pt := 102) rfl (pf := 72) rfl (fun hc69 => ?_) (fun hc69 => ?_)
                · refine g_aloadN K W d12_72 rfl rfl (pc' := 73) rfl ?_
                  refine g_aloadN K W d12_73 rfl rfl (pc' := 74) rfl ?_
                  refine g_getF K W (host := "") (Or.inl (hw _ (List.mem_of_getElem? (i := 10) rfl))) Via.refl F_o0_heads d12_74 (pc' := 77) rfl (fun T W => ?_)
                  refine g_iload K W d12_77 rfl (pc' := 79) rfl ?_
                  refine g_iaload K W A_ah (k := ed) hxe (by omega) (v := (Int32.ofNat (H ed))) (hHf ed hed) d12_79 (pc' := 80) rfl ?_
                  refine g_aloadN K W d12_80 rfl rfl (pc' := 81) rfl ?_
                  refine g_iload K W d12_81 rfl (pc' := 83) rfl ?_
                  refine g_iaload K W A_o3 (k := u) (own_ofNat (by omega)) hun (v := (Lf u)) rfl d12_83 (pc' := 84) rfl ?_
                  refine g_iconst K W (v := (1 : Int32)) d12_84 rfl (pc' := 85) rfl ?_
                  refine g_iadd K W d12_85 (pc' := 86) rfl ?_
                  refine g_iastore K W A_o3 (k := (H ed)) (own_ofNat (by omega)) hHe ge_o3 d12_86 (pc' := 87) rfl (fun T h W w A_o3 => ?_)
                  have kp := kp.wr w (Or.inl (List.mem_of_getElem? (i := 0) rfl))
                  have X_o0 := X_o0.wr w
                  have F_o0_heads := F_o0_heads.other w (Or.inl ne_o0_o3)
                  have F_o0_capacities := F_o0_capacities.other w (Or.inl ne_o0_o3)
                  have F_o0_nextOut := F_o0_nextOut.other w (Or.inl ne_o0_o3)
                  have F_o0_firstOut := F_o0_firstOut.other w (Or.inl ne_o0_o3)
                  have F_o0_nodes := F_o0_nodes.other w (Or.inl ne_o0_o3)
                  have A_ah := A_ah.other w ne_ah_o3
                  have A_ac := A_ac.other w ne_ac_o3
                  have A_an := A_an.other w ne_an_o3
                  have A_af := A_af.other w ne_af_o3
                  have A_o4 := A_o4.other w ne_o4_o3
                  refine g_aload K W d12_87 rfl rfl (pc' := 89) rfl ?_
                  refine g_iload K W d12_89 rfl (pc' := 91) rfl ?_
                  refine g_iinc K W d12_91 rfl (Ls' := #[.val (.ref o0), .val (.int (Int32.ofNat sr)), .val (.int (Int32.ofNat sk)), .val (.ref o3), .val (.ref o4), .val (.int ((Int32.ofNat tq) + (1 : Int32))), .val (.int (Int32.ofNat hd)), .val (.int (Int32.ofNat u)), .val (.int x8)]) rfl (pc' := 94) rfl ?_
                  refine g_aloadN K W d12_94 rfl rfl (pc' := 95) rfl ?_
                  refine g_getF K W (host := "") (Or.inl (hw _ (List.mem_of_getElem? (i := 10) rfl))) Via.refl F_o0_heads d12_95 (pc' := 98) rfl (fun T W => ?_)
                  refine g_iload K W d12_98 rfl (pc' := 100) rfl ?_
                  refine g_iaload K W A_ah (k := ed) hxe (by omega) (v := (Int32.ofNat (H ed))) (hHf ed hed) d12_100 (pc' := 101) rfl ?_
                  refine g_iastore K W A_o4 (k := tq) (own_ofNat (by omega)) (bi.room hHe ((own_neg _).mp hc69)) ge_o4 d12_101 (pc' := 102) rfl (fun T h W w A_o4 => ?_)
                  have kp := kp.wr w (Or.inl (List.mem_of_getElem? (i := 1) rfl))
                  have X_o0 := X_o0.wr w
                  have F_o0_heads := F_o0_heads.other w (Or.inl ne_o0_o4)
                  have F_o0_capacities := F_o0_capacities.other w (Or.inl ne_o0_o4)
                  have F_o0_nextOut := F_o0_nextOut.other w (Or.inl ne_o0_o4)
                  have F_o0_firstOut := F_o0_firstOut.other w (Or.inl ne_o0_o4)
                  have F_o0_nodes := F_o0_nodes.other w (Or.inl ne_o0_o4)
                  have A_ah := A_ah.other w ne_ah_o4
                  have A_ac := A_ac.other w ne_ac_o4
                  have A_an := A_an.other w ne_an_o4
                  have A_af := A_af.other w ne_af_o4
                  have A_o3 := A_o3.other w ne_o3_o4
                  refine g_aloadN K W d12_102 rfl rfl (pc' := 103) rfl ?_
                  refine g_getF K W (host := "") (Or.inl (hw _ (List.mem_of_getElem? (i := 15) rfl))) Via.refl F_o0_nextOut d12_103 (pc' := 106) rfl (fun T W => ?_)
                  refine g_iload K W d12_106 rfl (pc' := 108) rfl ?_
                  refine g_iaload K W A_an (k := ed) hxe (by omega) (v := (Nf ed)) rfl d12_108 (pc' := 109) rfl ?_
                  refine g_istore K W d12_109 (Ls' := #[.val (.ref o0), .val (.int (Int32.ofNat sr)), .val (.int (Int32.ofNat sk)), .val (.ref o3), .val (.ref o4), .val (.int ((Int32.ofNat tq) + (1 : Int32))), .val (.int (Int32.ofNat hd)), .val (.int (Int32.ofNat u)), .val (.int (Nf ed))]) rfl (pc' := 111) rfl ?_
                  refine g_goto K W d12_111 (pt := 43) rfl ?_
                  rw [own_one]
                  have hl0 : Li Lf (H ed) < 0 := (own_neg _).mp hc69
                  have hc0 : 0 < Ci Cf ed := (own_lpos _).mp hc56
                  have lb := bi.2.2.2.2.1 hd hlt
                  rw [hu] at lb
                  have e1 : Li (upd Lf (H ed) (Lf u + 1)) (H ed) = Li Lf u + 1 := by show (upd Lf (H ed) (Lf u + 1) (H ed)).toInt = _; rw [upd_same]; exact own_inc (show -1 ≤ Li Lf u by omega) (show Li Lf u < 1000 by omega)
                  have e2 : ∀ v, v ≠ H ed → Li (upd Lf (H ed) (Lf u + 1)) v = Li Lf v := fun v hv => by show (upd Lf (H ed) (Lf u + 1) v).toInt = _; rw [upd_ne _ _ hv]; rfl
                  have bi2 := bi.put (lv' := Li (upd Lf (H ed) (Lf u + 1))) (q' := upd q tq (H ed)) hlt hed (h3.trans hu.symm) hc0 (hH ed hed) hl0 (by rw [hu]; exact e1) e2 (upd_same _ _ _) (fun j hj => upd_ne _ _ (by omega))
                  have up : ∀ v, 0 ≤ Li Lf v → 0 ≤ Li (upd Lf (H ed) (Lf u + 1)) v := fun v hv => by rw [e2 v (fun z => by rw [z] at hv; omega)]; exact hv
                  exact ih ed (by omega) ed _ (tq + 1) _ _ (upd q tq (H ed)) T h rfl (by rw [hNf ed hed, h3]) (by omega) (by omega) (by rw [upd_ne _ _ (by omega)]; exact hu) hun bi2 (fun j hj => by
                    by_cases z : j = tq
                    · rw [z, upd_same, upd_same]
                    · rw [upd_ne _ _ z, upd_ne _ _ z]; exact hq j (by omega)) (fun e' h1' h2' h3' h4' => if q' : e' = ed then by rw [q', e1]; omega else up _ (hcl e' (prv_up h2 h3' h1' q') h2' h3' h4')) X_o0 F_o0_heads F_o0_capacities F_o0_nextOut F_o0_firstOut F_o0_nodes A_ah A_ac A_an A_af A_o3 A_o4 kp W
                · refine g_aloadN K W d12_102 rfl rfl (pc' := 103) rfl ?_
                  refine g_getF K W (host := "") (Or.inl (hw _ (List.mem_of_getElem? (i := 15) rfl))) Via.refl F_o0_nextOut d12_103 (pc' := 106) rfl (fun T W => ?_)
                  refine g_iload K W d12_106 rfl (pc' := 108) rfl ?_
                  refine g_iaload K W A_an (k := ed) hxe (by omega) (v := (Nf ed)) rfl d12_108 (pc' := 109) rfl ?_
                  refine g_istore K W d12_109 (Ls' := #[.val (.ref o0), .val (.int (Int32.ofNat sr)), .val (.int (Int32.ofNat sk)), .val (.ref o3), .val (.ref o4), .val (.int (Int32.ofNat tq)), .val (.int (Int32.ofNat hd)), .val (.int (Int32.ofNat u)), .val (.int (Nf ed))]) rfl (pc' := 111) rfl ?_
                  refine g_goto K W d12_111 (pt := 43) rfl ?_
                  exact ih ed (by omega) ed _ tq Lf Qf q T h rfl (by rw [hNf ed hed, h3]) (by omega) hlt hu hun bi hq (fun e' h1' h2' h3' h4' => if q' : e' = ed then q' ▸ (show 0 ≤ Li Lf (H ed) from Int.not_lt.mp (fun z => hc69 ((own_neg _).mpr z))) else hcl e' (prv_up h2 h3' h1' q') h2' h3' h4') X_o0 F_o0_heads F_o0_capacities F_o0_nextOut F_o0_firstOut F_o0_nodes A_ah A_ac A_an A_af A_o3 A_o4 kp W
              · refine g_aloadN K W d12_102 rfl rfl (pc' := 103) rfl ?_
                refine g_getF K W (host := "") (Or.inl (hw _ (List.mem_of_getElem? (i := 15) rfl))) Via.refl F_o0_nextOut d12_103 (pc' := 106) rfl (fun T W => ?_)
                refine g_iload K W d12_106 rfl (pc' := 108) rfl ?_
                refine g_iaload K W A_an (k := ed) hxe (by omega) (v := (Nf ed)) rfl d12_108 (pc' := 109) rfl ?_
                refine g_istore K W d12_109 (Ls' := #[.val (.ref o0), .val (.int (Int32.ofNat sr)), .val (.int (Int32.ofNat sk)), .val (.ref o3), .val (.ref o4), .val (.int (Int32.ofNat tq)), .val (.int (Int32.ofNat hd)), .val (.int (Int32.ofNat u)), .val (.int (Nf ed))]) rfl (pc' := 111) rfl ?_
                refine g_goto K W d12_111 (pt := 43) rfl ?_
                exact ih ed (by omega) ed _ tq Lf Qf q T h rfl (by rw [hNf ed hed, h3]) (by omega) hlt hu hun bi hq (fun e' h1' h2' h3' h4' => if q' : e' = ed then absurd (q' ▸ h4') (fun z => hc56 ((own_lpos _).mpr z)) else hcl e' (prv_up h2 h3' h1' q') h2' h3' h4') X_o0 F_o0_heads F_o0_capacities F_o0_nextOut F_o0_firstOut F_o0_nodes A_ah A_ac A_an A_af A_o3 A_o4 kp W
        exact loop2 (2 * kk) (2 * kk) _ tq Lf Qf q T h rfl (hFf u hun) (Nat.le_refl _) hlt hu hun bi hq (fun e' h1' h2' => absurd h2' (by omega)) X_o0 F_o0_heads F_o0_capacities F_o0_nextOut F_o0_firstOut F_o0_nodes A_ah A_ac A_an A_af A_o3 A_o4 kp W
      · refine g_aloadN K W d12_120 rfl rfl (pc' := 121) rfl ?_
        refine g_iloadN K W d12_121 rfl (pc' := 122) rfl ?_
        refine g_iaload K W A_o3 (k := sk) (own_ofNat (by omega)) ht (v := (Lf sk)) rfl d12_122 (pc' := 123) rfl ?_
        refine g_if_lt K W d12_123 (pt := 130) rfl (pf := 126) rfl (fun hc123 => ?_) (fun hc123 => ?_)
        · refine g_iconst K W (v := (0 : Int32)) d12_130 rfl (pc' := 131) rfl ?_
          have hnl : ¬ hd < tq := fun z => hc24 ((own_lt (by omega) (by omega)).mpr z)
          exact g_retN K W (by simp) d12_131 (by decide) (by decide) (v := (0 : Int32)) rfl (Or.inr ⟨rfl, Lf, Qf, A_o3, A_o4, kp, bi.done hnl hH, (own_neg _).mp hc123⟩)
        · refine g_iconst K W (v := (1 : Int32)) d12_126 rfl (pc' := 127) rfl ?_
          refine g_goto K W d12_127 (pt := 131) rfl ?_
          have hnl : ¬ hd < tq := fun z => hc24 ((own_lt (by omega) (by omega)).mpr z)
          exact g_retN K W (by simp) d12_131 (by decide) (by decide) (v := (1 : Int32)) rfl (Or.inl ⟨rfl, Lf, Qf, A_o3, A_o4, kp, bi.done hnl hH, fun z => hc123 ((own_neg _).mpr z)⟩)
  exact loop1 nn 0 1 _ _ (fun _ => sr) _ _ T h rfl (BI.start hs (show Int32.toInt _ = 0 by rw [upd_same]; rfl) (fun v hv hne => show Int32.toInt _ = -1 by rw [upd_ne _ _ hne, hg v hv]; rfl) rfl) (fun j hj => by rw [show j = 0 by omega]; exact upd_same _ _ _) (Or.inl rfl) (Or.inl rfl) X_o0 F_o0_heads F_o0_capacities F_o0_nextOut F_o0_firstOut F_o0_nodes A_ah A_ac A_an A_af A_o3 A_o4 kp W
def Q_c_adm (Z : State) (n0 : Nat) (h0 : Heap) (o0 : Addr) (x1 : Int32) (x2 : Int32) (x3 : Int32) (o4 : Addr) (ah : Addr) (ac : Addr) (an : Addr) (af : Addr) (nn : Nat) (kk : Nat) (M : Nat) (H : Nat → Nat) (Hf : Nat → Int32) (Cf : Nat → Int64) (Nf : Nat → Int32) (Ff : Nat → Int32) (sr : Nat) (sk : Nat) (Lf : Nat → Int32) (ed : Nat) (u : Nat) : Option Value → Heap → Prop := fun v h => (v = some (.int 1) ∧ h0 = h ∧ Adm H (Ci Cf) (Li Lf) sk ed) ∨ (v = some (.int 0) ∧ h0 = h ∧ ¬ Adm H (Ci Cf) (Li Lf) sk ed)
abbrev rm_c_adm : Room := { frames := 0, cells := 0, slots := 0, locals := 0 }
set_option maxHeartbeats 40000000 in
theorem c_adm (l : Launch) (Z : State) (a0 : Array Value) (hw : ∀ d ∈ tables_1, d.before a0 Z = true) (n0 : Nat) (h0 : Heap) (hn : n0 ≤ h0.size) (o0 : Addr) (x1 : Int32) (x2 : Int32) (x3 : Int32) (o4 : Addr) (ah : Addr) (ac : Addr) (an : Addr) (af : Addr) (nn : Nat) (kk : Nat) (M : Nat) (H : Nat → Nat) (Hf : Nat → Int32) (Cf : Nat → Int64) (Nf : Nat → Int32) (Ff : Nat → Int32) (sr : Nat) (sk : Nat) (Lf : Nat → Int32) (ed : Nat) (u : Nat) (X_o0 : Exa Z h0 o0 "com/example/ichnos/ichnos/planning/ils/MinCut") (F_o0_heads : Fld Z h0 o0 "com/example/ichnos/ichnos/planning/ils/MinCut" "heads" "[I" (.ref ah)) (F_o0_capacities : Fld Z h0 o0 "com/example/ichnos/ichnos/planning/ils/MinCut" "capacities" "[J" (.ref ac)) (F_o0_nextOut : Fld Z h0 o0 "com/example/ichnos/ichnos/planning/ils/MinCut" "nextOut" "[I" (.ref an)) (F_o0_firstOut : Fld Z h0 o0 "com/example/ichnos/ichnos/planning/ils/MinCut" "firstOut" "[I" (.ref af)) (F_o0_nodes : Fld Z h0 o0 "com/example/ichnos/ichnos/planning/ils/MinCut" "nodes" "I" (.int (Int32.ofNat nn))) (A_ah : AyI Z h0 ah .int M Hf) (A_ac : AyJ Z h0 ac M Cf) (A_an : AyI Z h0 an .int M Nf) (A_af : AyI Z h0 af .int nn Ff) (A_o4 : AyI Z h0 o4 .int nn Lf) (hxe : x1.toInt = (ed : Int)) (hed : ed < 2 * kk) (ex2 : x2 = Int32.ofNat u) (ht : tl H ed = u) (hun : u < nn) (ex3 : x3 = Int32.ofNat sk) (hsk : sk < nn) (lvb : ∀ v, v < nn → -1 ≤ Li Lf v ∧ Li Lf v < nn) (gp : GP nn kk M H Hf Nf Ff) :
    Mt l Z (⟨"com/example/ichnos/ichnos/planning/ils/MinCut", "admissible", "(III[I)Z"⟩ : MethodName) prog_66_method_7_code 6 (some .boolean) rm_c_adm n0 #[(.ref o0), (.int x1), (.int x2), (.int x3), (.ref o4)] h0 (Q_c_adm Z n0 h0 o0 x1 x2 x3 o4 ah ac an af nn kk M H Hf Cf Nf Ff sr sk Lf ed u) := by
  refine met_of (plainFor_of_name pn_1) (Ls := #[.val (.ref o0), .val (.int x1), .val (.int x2), .val (.int x3), .val (.ref o4), .unset]) (fun m => by first | (simp [entryFrame, mkF, argsToLocals, Value.category]; done) | rfl) hn ?_
  intro p e s m below meth c T K W
  replace K : Cx p s m meth c Z "com/example/ichnos/ichnos/planning/ils/MinCut" "admissible" prog_66_method_7_code 6 (some .boolean) := K
  generalize eA : (#[(.ref o0), (.int x1), (.int x2), (.int x3), (.ref o4)] : Array Value) = args at W
  show Go p e below s n0 (Q_c_adm Z n0 h0 o0 x1 x2 x3 o4 ah ac an af nn kk M H Hf Cf Nf Ff sr sk Lf ed u) 0 0 T (mkF m 0 #[.val (.ref o0), .val (.int x1), .val (.int x2), .val (.int x3), .val (.ref o4), .unset] [])
  subst ex2 ex3
  show Go p e below s n0 (Q_c_adm Z n0 h0 o0 x1 (Int32.ofNat u) (Int32.ofNat sk) o4 ah ac an af nn kk M H Hf Cf Nf Ff sr sk Lf ed u) 0 0 T (mkF m 0 #[.val (.ref o0), .val (.int x1), .val (.int (Int32.ofNat u)), .val (.int (Int32.ofNat sk)), .val (.ref o4), .unset] [])
  obtain ⟨hn5, hk16, hkM, hM32, hH, hHf, hNf, hFf⟩ := gp
  have hHe := hH ed hed
  have lbu := lvb u hun
  have lbe := lvb (H ed) hHe
  refine g_aloadN K W d14_0 rfl rfl (pc' := 1) rfl ?_
  refine g_getF K W (host := "") (Or.inl (hw _ (List.mem_of_getElem? (i := 10) rfl))) Via.refl F_o0_heads d14_1 (pc' := 4) rfl (fun T W => ?_)
  refine g_iloadN K W d14_4 rfl (pc' := 5) rfl ?_
  refine g_iaload K W A_ah (k := ed) hxe (by omega) (v := (Int32.ofNat (H ed))) (hHf ed hed) d14_5 (pc' := 6) rfl ?_
  refine g_istore K W d14_6 (Ls' := #[.val (.ref o0), .val (.int x1), .val (.int (Int32.ofNat u)), .val (.int (Int32.ofNat sk)), .val (.ref o4), .val (.int (Int32.ofNat (H ed)))]) rfl (pc' := 8) rfl ?_
  refine g_aloadN K W d14_8 rfl rfl (pc' := 9) rfl ?_
  refine g_getF K W (host := "") (Or.inl (hw _ (List.mem_of_getElem? (i := 13) rfl))) Via.refl F_o0_capacities d14_9 (pc' := 12) rfl (fun T W => ?_)
  refine g_iloadN K W d14_12 rfl (pc' := 13) rfl ?_
  refine g_laload K W A_ac (k := ed) hxe (by omega) (v := (Cf ed)) rfl d14_13 (pc' := 14) rfl ?_
  refine g_lconst K W (v := (0 : Int64)) d14_14 rfl (pc' := 15) rfl ?_
  refine g_lcmp_le K W d14_15 (pc1 := 16) rfl d14_16 (pt := 55) rfl (pf := 19) rfl (fun hc15 => ?_) (fun hc15 => ?_)
  · refine g_aload K W d14_19 rfl rfl (pc' := 21) rfl ?_
    refine g_iload K W d14_21 rfl (pc' := 23) rfl ?_
    refine g_iaload K W A_o4 (k := (H ed)) (own_ofNat (by omega)) hHe (v := (Lf (H ed))) rfl d14_23 (pc' := 24) rfl ?_
    refine g_aload K W d14_24 rfl rfl (pc' := 26) rfl ?_
    refine g_iloadN K W d14_26 rfl (pc' := 27) rfl ?_
    refine g_iaload K W A_o4 (k := u) (own_ofNat (by omega)) hun (v := (Lf u)) rfl d14_27 (pc' := 28) rfl ?_
    refine g_iconst K W (v := (1 : Int32)) d14_28 rfl (pc' := 29) rfl ?_
    refine g_iadd K W d14_29 (pc' := 30) rfl ?_
    refine g_icmp_ne K W d14_30 (pt := 55) rfl (pf := 33) rfl (fun hc30 => ?_) (fun hc30 => ?_)
    · refine g_iload K W d14_33 rfl (pc' := 35) rfl ?_
      refine g_iloadN K W d14_35 rfl (pc' := 36) rfl ?_
      refine g_icmp_eq K W d14_36 (pt := 51) rfl (pf := 39) rfl (fun hc36 => ?_) (fun hc36 => ?_)
      · refine g_iconst K W (v := (1 : Int32)) d14_51 rfl (pc' := 52) rfl ?_
        refine g_goto K W d14_52 (pt := 56) rfl ?_
        exact g_retN K W (by simp) d14_56 (by decide) (by decide) (v := (1 : Int32)) rfl (Or.inl ⟨rfl, rfl, (own_lpos _).mp hc15, (show Li Lf (H ed) = Li Lf (tl H ed) + 1 by rw [ht]; show (Lf (H ed)).toInt = _; rw [hc30]; exact own_inc lbu.1 (show Li Lf u < 1000 by omega)), Or.inl ((own_inj (by omega) (by omega)).mp hc36)⟩)
      · refine g_aload K W d14_39 rfl rfl (pc' := 41) rfl ?_
        refine g_iload K W d14_41 rfl (pc' := 43) rfl ?_
        refine g_iaload K W A_o4 (k := (H ed)) (own_ofNat (by omega)) hHe (v := (Lf (H ed))) rfl d14_43 (pc' := 44) rfl ?_
        refine g_aload K W d14_44 rfl rfl (pc' := 46) rfl ?_
        refine g_iloadN K W d14_46 rfl (pc' := 47) rfl ?_
        refine g_iaload K W A_o4 (k := sk) (own_ofNat (by omega)) hsk (v := (Lf sk)) rfl d14_47 (pc' := 48) rfl ?_
        refine g_icmp_ge K W d14_48 (pt := 55) rfl (pf := 51) rfl (fun hc48 => ?_) (fun hc48 => ?_)
        · refine g_iconst K W (v := (1 : Int32)) d14_51 rfl (pc' := 52) rfl ?_
          refine g_goto K W d14_52 (pt := 56) rfl ?_
          exact g_retN K W (by simp) d14_56 (by decide) (by decide) (v := (1 : Int32)) rfl (Or.inl ⟨rfl, rfl, (own_lpos _).mp hc15, (show Li Lf (H ed) = Li Lf (tl H ed) + 1 by rw [ht]; show (Lf (H ed)).toInt = _; rw [hc30]; exact own_inc lbu.1 (show Li Lf u < 1000 by omega)), Or.inr (Int32.lt_iff_toInt_lt.mp hc48)⟩)
        · refine g_iconst K W (v := (0 : Int32)) d14_55 rfl (pc' := 56) rfl ?_
          exact g_retN K W (by simp) d14_56 (by decide) (by decide) (v := (0 : Int32)) rfl (Or.inr ⟨rfl, rfl, fun z => z.2.2.elim (fun y => hc36 (by rw [y])) (fun y => hc48 (Int32.lt_iff_toInt_lt.mpr y))⟩)
    · refine g_iconst K W (v := (0 : Int32)) d14_55 rfl (pc' := 56) rfl ?_
      exact g_retN K W (by simp) d14_56 (by decide) (by decide) (v := (0 : Int32)) rfl (Or.inr ⟨rfl, rfl, fun z => hc30 (Int32.toInt_inj.mp (by rw [own_inc lbu.1 (show Li Lf u < 1000 by omega)]; have := z.2.1; rw [ht] at this; exact this))⟩)
  · refine g_iconst K W (v := (0 : Int32)) d14_55 rfl (pc' := 56) rfl ?_
    exact g_retN K W (by simp) d14_56 (by decide) (by decide) (v := (0 : Int32)) rfl (Or.inr ⟨rfl, rfl, fun z => hc15 ((own_lpos _).mpr z.1)⟩)
def Q_c_push (Z : State) (n0 : Nat) (h0 : Heap) (o0 : Addr) (xs : Int32) (xt : Int32) (o3 : Addr) (o4 : Addr) (o5 : Addr) (ah : Addr) (ac : Addr) (an : Addr) (af : Addr) (nn : Nat) (kk : Nat) (M : Nat) (H : Nat → Nat) (Hf : Nat → Int32) (Cf : Nat → Int64) (Nf : Nat → Int32) (Ff : Nat → Int32) (sr : Nat) (sk : Nat) (Lf : Nat → Int32) (cu : Nat → Int32) (Pf : Nat → Int32) (C0 : Nat → Int) (F : Int) (b : Nat → Nat) (E : Nat → Prop) : Option Value → Heap → Prop := fun v h => ∃ (x : Int64) (Cg : Nat → Int64) (cu' : Nat → Int32) (P' : Nat → Int32) (b' : Nat → Nat), v = some (.long x) ∧ Keep h0 h [ac, o4, o5] ∧ AyJ Z h ac M Cg ∧ AyI Z h o4 .int nn cu' ∧ AyI Z h o5 .int nn P' ∧ 0 ≤ x.toInt ∧ x.toInt ≤ 2305843009213693951 ∧ FI nn kk H C0 (Ci Cg) sr sk (F + x.toInt) ∧ (∀ v, v < nn → b' v ≤ 2 * kk ∧ (cu' v).toInt = prv H v (b' v)) ∧ ((∃ e, E e ∧ tl H e = sr) → 0 < x.toInt)
abbrev rm_c_push : Room := { frames := 1, cells := 0, slots := 0, locals := 17 }
set_option maxHeartbeats 40000000 in
theorem c_push (l : Launch) (Z : State) (a0 : Array Value) (hw : ∀ d ∈ tables_1, d.before a0 Z = true) (n0 : Nat) (h0 : Heap) (hn : n0 ≤ h0.size) (o0 : Addr) (xs : Int32) (xt : Int32) (o3 : Addr) (o4 : Addr) (o5 : Addr) (ah : Addr) (ac : Addr) (an : Addr) (af : Addr) (nn : Nat) (kk : Nat) (M : Nat) (H : Nat → Nat) (Hf : Nat → Int32) (Cf : Nat → Int64) (Nf : Nat → Int32) (Ff : Nat → Int32) (sr : Nat) (sk : Nat) (Lf : Nat → Int32) (cu : Nat → Int32) (Pf : Nat → Int32) (C0 : Nat → Int) (F : Int) (b : Nat → Nat) (E : Nat → Prop) (X_o0 : Exa Z h0 o0 "com/example/ichnos/ichnos/planning/ils/MinCut") (F_o0_heads : Fld Z h0 o0 "com/example/ichnos/ichnos/planning/ils/MinCut" "heads" "[I" (.ref ah)) (F_o0_capacities : Fld Z h0 o0 "com/example/ichnos/ichnos/planning/ils/MinCut" "capacities" "[J" (.ref ac)) (F_o0_nextOut : Fld Z h0 o0 "com/example/ichnos/ichnos/planning/ils/MinCut" "nextOut" "[I" (.ref an)) (F_o0_firstOut : Fld Z h0 o0 "com/example/ichnos/ichnos/planning/ils/MinCut" "firstOut" "[I" (.ref af)) (F_o0_nodes : Fld Z h0 o0 "com/example/ichnos/ichnos/planning/ils/MinCut" "nodes" "I" (.int (Int32.ofNat nn))) (A_ah : AyI Z h0 ah .int M Hf) (A_ac : AyJ Z h0 ac M Cf) (A_an : AyI Z h0 an .int M Nf) (A_af : AyI Z h0 af .int nn Ff) (A_o3 : AyI Z h0 o3 .int nn Lf) (A_o4 : AyI Z h0 o4 .int nn cu) (A_o5 : AyI Z h0 o5 .int nn Pf) (ge_ac : n0 ≤ ac) (ge_o4 : n0 ≤ o4) (ge_o5 : n0 ≤ o5) (ne_o0_ac : o0 ≠ ac) (ne_o0_o4 : o0 ≠ o4) (ne_o0_o5 : o0 ≠ o5) (ne_ah_ac : ah ≠ ac) (ne_ah_o4 : ah ≠ o4) (ne_ah_o5 : ah ≠ o5) (ne_ac_o4 : ac ≠ o4) (ne_ac_o5 : ac ≠ o5) (ne_an_ac : an ≠ ac) (ne_an_o4 : an ≠ o4) (ne_an_o5 : an ≠ o5) (ne_af_ac : af ≠ ac) (ne_af_o4 : af ≠ o4) (ne_af_o5 : af ≠ o5) (ne_o3_ac : o3 ≠ ac) (ne_o3_o4 : o3 ≠ o4) (ne_o3_o5 : o3 ≠ o5) (ne_o4_ac : o4 ≠ ac) (ne_o4_o5 : o4 ≠ o5) (ne_o5_ac : o5 ≠ ac) (ne_o5_o4 : o5 ≠ o4) (exs : xs = Int32.ofNat sr) (ext : xt = Int32.ofNat sk) (hs : sr < nn) (ht : sk < nn) (gp : GP nn kk M H Hf Nf Ff) (lv0 : Li Lf sr = 0) (lvb : ∀ v, v < nn → -1 ≤ Li Lf v ∧ Li Lf v < nn) (fi : FI nn kk H C0 (Ci Cf) sr sk F) (hC0 : ∀ e, e < 2 * kk → C0 e + C0 (fl e) ≤ 2305843009213693951) (hb : ∀ v, v < nn → b v ≤ 2 * kk ∧ (cu v).toInt = prv H v (b v)) (pi : PiC kk H (Ci Cf) (Li Lf) sk E) (hE : ∀ e, E e → e < b (tl H e)) :
    Mt l Z (⟨"com/example/ichnos/ichnos/planning/ils/MinCut", "push", "(II[I[I[I)J"⟩ : MethodName) prog_66_method_6_code 13 (some .long) rm_c_push n0 #[(.ref o0), (.int xs), (.int xt), (.ref o3), (.ref o4), (.ref o5)] h0 (Q_c_push Z n0 h0 o0 xs xt o3 o4 o5 ah ac an af nn kk M H Hf Cf Nf Ff sr sk Lf cu Pf C0 F b E) := by
  refine met_of (plainFor_of_name pn_1) (Ls := #[.val (.ref o0), .val (.int xs), .val (.int xt), .val (.ref o3), .val (.ref o4), .val (.ref o5), .unset, .unset, .unset, .unset, .unset, .unset, .unset]) (fun m => by first | (simp [entryFrame, mkF, argsToLocals, Value.category]; done) | rfl) hn ?_
  intro p e s m below meth c T K W
  replace K : Cx p s m meth c Z "com/example/ichnos/ichnos/planning/ils/MinCut" "push" prog_66_method_6_code 13 (some .long) := K
  generalize eA : (#[(.ref o0), (.int xs), (.int xt), (.ref o3), (.ref o4), (.ref o5)] : Array Value) = args at W
  show Go p e below s n0 (Q_c_push Z n0 h0 o0 xs xt o3 o4 o5 ah ac an af nn kk M H Hf Cf Nf Ff sr sk Lf cu Pf C0 F b E) 0 0 T (mkF m 0 #[.val (.ref o0), .val (.int xs), .val (.int xt), .val (.ref o3), .val (.ref o4), .val (.ref o5), .unset, .unset, .unset, .unset, .unset, .unset, .unset] [])
  have kp := Keep.refl h0 [ac, o4, o5]
  subst exs ext
  show Go p e below s n0 (Q_c_push Z n0 h0 o0 (Int32.ofNat sr) (Int32.ofNat sk) o3 o4 o5 ah ac an af nn kk M H Hf Cf Nf Ff sr sk Lf cu Pf C0 F b E) 0 0 T (mkF m 0 #[.val (.ref o0), .val (.int (Int32.ofNat sr)), .val (.int (Int32.ofNat sk)), .val (.ref o3), .val (.ref o4), .val (.ref o5), .unset, .unset, .unset, .unset, .unset, .unset, .unset] [])
  obtain ⟨hn5, hk16, hkM, hM32, hH, hHf, hNf, hFf⟩ := gp
  refine g_iconst K W (v := (0 : Int32)) d13_0 rfl (pc' := 1) rfl ?_
  refine g_istore K W d13_1 (Ls' := #[.val (.ref o0), .val (.int (Int32.ofNat sr)), .val (.int (Int32.ofNat sk)), .val (.ref o3), .val (.ref o4), .val (.ref o5), .val (.int (0 : Int32)), .unset, .unset, .unset, .unset, .unset, .unset]) rfl (pc' := 3) rfl ?_
  refine g_iloadN K W d13_3 rfl (pc' := 4) rfl ?_
  refine g_istore K W d13_4 (Ls' := #[.val (.ref o0), .val (.int (Int32.ofNat sr)), .val (.int (Int32.ofNat sk)), .val (.ref o3), .val (.ref o4), .val (.ref o5), .val (.int (0 : Int32)), .val (.int (Int32.ofNat sr)), .unset, .unset, .unset, .unset, .unset]) rfl (pc' := 6) rfl ?_
  refine g_lconst K W (v := (0 : Int64)) d13_6 rfl (pc' := 7) rfl ?_
  refine g_lstore K W d13_7 (Ls' := #[.val (.ref o0), .val (.int (Int32.ofNat sr)), .val (.int (Int32.ofNat sk)), .val (.ref o3), .val (.ref o4), .val (.ref o5), .val (.int (0 : Int32)), .val (.int (Int32.ofNat sr)), .val (.long (0 : Int64)), .second, .unset, .unset, .unset]) rfl (pc' := 9) rfl ?_
  have loop1 : ∀ (mz : Nat) (d : Nat) (u : Nat) (b : Nat → Nat) (cu : Nat → Int32) (Pf : Nat → Int32) (Pn : Nat → Nat) (nd : Nat → Nat) (s10 : Slot) (T : State) (h : Heap), 2 * sb b nn + (nn + 1 - d) = mz → PT nn kk H (Ci Cf) (Li Lf) sr b Pn nd d → nd d = u → (∀ i, i < d → Pf i = Int32.ofNat (Pn i)) → (∀ v, v < nn → b v ≤ 2 * kk ∧ (cu v).toInt = prv H v (b v)) → (∀ e', E e' → e' < b (tl H e')) → (s10 = .unset ∨ ∃ z : Int32, s10 = .val (.int z)) → Exa Z h o0 "com/example/ichnos/ichnos/planning/ils/MinCut" → Fld Z h o0 "com/example/ichnos/ichnos/planning/ils/MinCut" "heads" "[I" (.ref ah) → Fld Z h o0 "com/example/ichnos/ichnos/planning/ils/MinCut" "capacities" "[J" (.ref ac) → Fld Z h o0 "com/example/ichnos/ichnos/planning/ils/MinCut" "nextOut" "[I" (.ref an) → Fld Z h o0 "com/example/ichnos/ichnos/planning/ils/MinCut" "firstOut" "[I" (.ref af) → Fld Z h o0 "com/example/ichnos/ichnos/planning/ils/MinCut" "nodes" "I" (.int (Int32.ofNat nn)) → AyI Z h ah .int M Hf → AyJ Z h ac M Cf → AyI Z h an .int M Nf → AyI Z h af .int nn Ff → AyI Z h o3 .int nn Lf → AyI Z h o4 .int nn cu → AyI Z h o5 .int nn Pf → Keep h0 h [ac, o4, o5] → Wd p l e rm_c_push s m args below meth c n0 T h 0 0 → Go p e below s n0 (Q_c_push Z n0 h0 o0 (Int32.ofNat sr) (Int32.ofNat sk) o3 o4 o5 ah ac an af nn kk M H Hf Cf Nf Ff sr sk Lf cu Pf C0 F b E) 0 0 T (mkF m 9 #[.val (.ref o0), .val (.int (Int32.ofNat sr)), .val (.int (Int32.ofNat sk)), .val (.ref o3), .val (.ref o4), .val (.ref o5), .val (.int (Int32.ofNat d)), .val (.int (Int32.ofNat u)), .val (.long (0 : Int64)), .second, s10, .unset, .unset] []) := by
    intro mz
    induction mz using Nat.strongRecOn with
    | ind mz ih =>
      intro d u b cu Pf Pn nd s10 T h hm pt hnu hP hb hE hs_s10 X_o0 F_o0_heads F_o0_capacities F_o0_nextOut F_o0_firstOut F_o0_nodes A_ah A_ac A_an A_af A_o3 A_o4 A_o5 kp W
      have ih0 := ih
      have hnn := pt.2.2 d (Nat.le_refl _)
      rw [hnu] at hnn
      have hun := hnn.1
      have hdn : d < nn := by have := (lvb u hun).2; omega
      refine g_lload K W d13_9 rfl (pc' := 11) rfl ?_
      refine g_lconst K W (v := (0 : Int64)) d13_11 rfl (pc' := 12) rfl ?_
      refine g_lcmp_ne K W d13_12 (pc1 := 13) rfl d13_13 (pt := 245) rfl (pf := 16) rfl (fun hc12 => ?_) (fun hc12 => absurd rfl hc12)
      have hJ29 : ∀ (T : State), Wd p l e rm_c_push s m args below meth c n0 T h 0 0 → Go p e below s n0 (Q_c_push Z n0 h0 o0 (Int32.ofNat sr) (Int32.ofNat sk) o3 o4 o5 ah ac an af nn kk M H Hf Cf Nf Ff sr sk Lf cu Pf C0 F b E) 0 0 T (mkF m 29 #[.val (.ref o0), .val (.int (Int32.ofNat sr)), .val (.int (Int32.ofNat sk)), .val (.ref o3), .val (.ref o4), .val (.ref o5), .val (.int (Int32.ofNat d)), .val (.int (Int32.ofNat u)), .val (.long (0 : Int64)), .second, s10, .unset, .unset] []) := by
        intro T  W
        refine g_iload K W d13_29 rfl (pc' := 31) rfl ?_
        refine g_iloadN K W d13_31 rfl (pc' := 32) rfl ?_
        refine g_icmp_ne K W d13_32 (pt := 128) rfl (pf := 35) rfl (fun hc32 => ?_) (fun hc32 => ?_)
        · have hus : u = sk := (own_inj (by omega) (by omega)).mp hc32
          refine g_ldc2 K W (v := (2305843009213693951 : Int64)) (hw _ (List.mem_of_getElem? (i := 38) rfl)) d13_35 (pc' := 38) rfl ?_
          refine g_lstore K W d13_38 (Ls' := #[.val (.ref o0), .val (.int (Int32.ofNat sr)), .val (.int (Int32.ofNat sk)), .val (.ref o3), .val (.ref o4), .val (.ref o5), .val (.int (Int32.ofNat d)), .val (.int (Int32.ofNat u)), .val (.long (0 : Int64)), .second, .val (.long (2305843009213693951 : Int64)), .second, .unset]) (by rcases hs_s10 with rfl | ⟨z, rfl⟩ <;> rfl) (pc' := 40) rfl ?_
          refine g_iconst K W (v := (0 : Int32)) d13_40 rfl (pc' := 41) rfl ?_
          refine g_istore K W d13_41 (Ls' := #[.val (.ref o0), .val (.int (Int32.ofNat sr)), .val (.int (Int32.ofNat sk)), .val (.ref o3), .val (.ref o4), .val (.ref o5), .val (.int (Int32.ofNat d)), .val (.int (Int32.ofNat u)), .val (.long (0 : Int64)), .second, .val (.long (2305843009213693951 : Int64)), .second, .val (.int (0 : Int32))]) rfl (pc' := 43) rfl ?_
          have loop2 : ∀ (my : Nat) (i : Nat) (fm : Int64) (T : State), d - i = my → i ≤ d → 0 < fm.toInt → fm.toInt ≤ 2305843009213693951 → (∀ j, j < i → fm.toInt ≤ Ci Cf (Pn j)) → Wd p l e rm_c_push s m args below meth c n0 T h 0 0 → Go p e below s n0 (Q_c_push Z n0 h0 o0 (Int32.ofNat sr) (Int32.ofNat sk) o3 o4 o5 ah ac an af nn kk M H Hf Cf Nf Ff sr sk Lf cu Pf C0 F b E) 0 0 T (mkF m 43 #[.val (.ref o0), .val (.int (Int32.ofNat sr)), .val (.int (Int32.ofNat sk)), .val (.ref o3), .val (.ref o4), .val (.ref o5), .val (.int (Int32.ofNat d)), .val (.int (Int32.ofNat u)), .val (.long (0 : Int64)), .second, .val (.long fm), .second, .val (.int (Int32.ofNat i))] []) := by
            intro my
            induction my using Nat.strongRecOn with
            | ind my ih =>
              intro i fm T hmy hi hf0 hfI hfl  W
              refine g_iload K W d13_43 rfl (pc' := 45) rfl ?_
              refine g_iload K W d13_45 rfl (pc' := 47) rfl ?_
              refine g_icmp_ge K W d13_47 (pt := 73) rfl (pf := 50) rfl (fun hc47 => ?_) (fun hc47 => ?_)
              · have hi2 : i < d := (own_lt (by omega) (by omega)).mp hc47
                have hp1 := (pt.2.1 i hi2).1
                refine g_lload K W d13_50 rfl (pc' := 52) rfl ?_
                refine g_aloadN K W d13_52 rfl rfl (pc' := 53) rfl ?_
                refine g_getF K W (host := "") (Or.inl (hw _ (List.mem_of_getElem? (i := 13) rfl))) Via.refl F_o0_capacities d13_53 (pc' := 56) rfl (fun T W => ?_)
                refine g_aload K W d13_56 rfl rfl (pc' := 58) rfl ?_
                refine g_iload K W d13_58 rfl (pc' := 60) rfl ?_
                refine g_iaload K W A_o5 (k := i) (own_ofNat (by omega)) (by omega) (v := (Int32.ofNat (Pn i))) (hP i hi2) d13_60 (pc' := 61) rfl ?_
                refine g_laload K W A_ac (k := (Pn i)) (own_ofNat (by omega)) (by omega) (v := (Cf (Pn i))) rfl d13_61 (pc' := 62) rfl ?_
                refine g_callS (c_min l Z a0 hw n0 _ W.sz fm (Cf (Pn i))) K W (hw _ (List.mem_of_getElem? (i := 39) rfl)) (hw _ (List.mem_of_getElem? (i := 40) rfl)) (hw _ (List.mem_of_getElem? (i := 41) rfl)) (hw _ (List.mem_of_getElem? (i := 42) rfl)) (by decide) (lenOf pd_1 rfl) d13_62 (pc' := 65) rfl (argsL := [(.long fm), (.long (Cf (Pn i)))]) (rest := []) rfl rfl (by decide) (wt := 0) rfl (by decide) (by decide) (by decide) ?_
                rintro T _ _ W ⟨rfl, rfl⟩
                show Go p e below s n0 (Q_c_push Z n0 h0 o0 (Int32.ofNat sr) (Int32.ofNat sk) o3 o4 o5 ah ac an af nn kk M H Hf Cf Nf Ff sr sk Lf cu Pf C0 F b E) 0 0 T (mkF m 65 #[.val (.ref o0), .val (.int (Int32.ofNat sr)), .val (.int (Int32.ofNat sk)), .val (.ref o3), .val (.ref o4), .val (.ref o5), .val (.int (Int32.ofNat d)), .val (.int (Int32.ofNat u)), .val (.long (0 : Int64)), .second, .val (.long fm), .second, .val (.int (Int32.ofNat i))] [(.long (own_minL fm (Cf (Pn i))))])
                refine g_lstore K W d13_65 (Ls' := #[.val (.ref o0), .val (.int (Int32.ofNat sr)), .val (.int (Int32.ofNat sk)), .val (.ref o3), .val (.ref o4), .val (.ref o5), .val (.int (Int32.ofNat d)), .val (.int (Int32.ofNat u)), .val (.long (0 : Int64)), .second, .val (.long (own_minL fm (Cf (Pn i)))), .second, .val (.int (Int32.ofNat i))]) rfl (pc' := 67) rfl ?_
                refine g_iinc K W d13_67 rfl (Ls' := #[.val (.ref o0), .val (.int (Int32.ofNat sr)), .val (.int (Int32.ofNat sk)), .val (.ref o3), .val (.ref o4), .val (.ref o5), .val (.int (Int32.ofNat d)), .val (.int (Int32.ofNat u)), .val (.long (0 : Int64)), .second, .val (.long (own_minL fm (Cf (Pn i)))), .second, .val (.int ((Int32.ofNat i) + (1 : Int32)))]) rfl (pc' := 70) rfl ?_
                refine g_goto K W d13_70 (pt := 43) rfl ?_
                rw [own_one]
                have hml := own_minL_toInt fm (Cf (Pn i))
                have hpc := (pt.2.1 i hi2).2.2.2.1
                have hpc2 : 0 < (Cf (Pn i)).toInt := hpc
                exact ih (d - (i + 1)) (by omega) (i + 1) _ T rfl (by omega) (by omega) (by omega) (fun j hj => by
                  by_cases z : j = i
                  · rw [z]; show _ ≤ (Cf (Pn i)).toInt; omega
                  · have := hfl j (by omega); omega) W
              · have hid : i = d := by have := (not_congr (own_lt (i := i) (n := d) (by omega) (by omega))).mp hc47; omega
                subst hid
                refine g_iconst K W (v := (0 : Int32)) d13_73 rfl (pc' := 74) rfl ?_
                refine g_istore K W d13_74 (Ls' := #[.val (.ref o0), .val (.int (Int32.ofNat sr)), .val (.int (Int32.ofNat sk)), .val (.ref o3), .val (.ref o4), .val (.ref o5), .val (.int (Int32.ofNat i)), .val (.int (Int32.ofNat u)), .val (.long (0 : Int64)), .second, .val (.long fm), .second, .val (.int (0 : Int32))]) rfl (pc' := 76) rfl ?_
                have loop3 : ∀ (my : Nat) (j : Nat) (Cg : Nat → Int64) (T : State) (h : Heap), i - j = my → j ≤ i → AG nn kk H C0 (Ci Cf) (Ci Cg) sr sk F fm.toInt Pn nd i j → Exa Z h o0 "com/example/ichnos/ichnos/planning/ils/MinCut" → Fld Z h o0 "com/example/ichnos/ichnos/planning/ils/MinCut" "heads" "[I" (.ref ah) → Fld Z h o0 "com/example/ichnos/ichnos/planning/ils/MinCut" "capacities" "[J" (.ref ac) → Fld Z h o0 "com/example/ichnos/ichnos/planning/ils/MinCut" "nextOut" "[I" (.ref an) → Fld Z h o0 "com/example/ichnos/ichnos/planning/ils/MinCut" "firstOut" "[I" (.ref af) → Fld Z h o0 "com/example/ichnos/ichnos/planning/ils/MinCut" "nodes" "I" (.int (Int32.ofNat nn)) → AyI Z h ah .int M Hf → AyJ Z h ac M Cg → AyI Z h an .int M Nf → AyI Z h af .int nn Ff → AyI Z h o3 .int nn Lf → AyI Z h o4 .int nn cu → AyI Z h o5 .int nn Pf → Keep h0 h [ac, o4, o5] → Wd p l e rm_c_push s m args below meth c n0 T h 0 0 → Go p e below s n0 (Q_c_push Z n0 h0 o0 (Int32.ofNat sr) (Int32.ofNat sk) o3 o4 o5 ah ac an af nn kk M H Hf Cf Nf Ff sr sk Lf cu Pf C0 F b E) 0 0 T (mkF m 76 #[.val (.ref o0), .val (.int (Int32.ofNat sr)), .val (.int (Int32.ofNat sk)), .val (.ref o3), .val (.ref o4), .val (.ref o5), .val (.int (Int32.ofNat i)), .val (.int (Int32.ofNat u)), .val (.long (0 : Int64)), .second, .val (.long fm), .second, .val (.int (Int32.ofNat j))] []) := by
                  intro my
                  induction my using Nat.strongRecOn with
                  | ind my ih =>
                    intro j Cg T h hmy hj ag X_o0 F_o0_heads F_o0_capacities F_o0_nextOut F_o0_firstOut F_o0_nodes A_ah A_ac A_an A_af A_o3 A_o4 A_o5 kp W
                    refine g_iload K W d13_76 rfl (pc' := 78) rfl ?_
                    refine g_iload K W d13_78 rfl (pc' := 80) rfl ?_
                    refine g_icmp_ge K W d13_80 (pt := 121) rfl (pf := 83) rfl (fun hc80 => ?_) (fun hc80 => ?_)
                    · have hj2 : j < i := (own_lt (by omega) (by omega)).mp hc80
                      have hp1 := (pt.2.1 j hj2).1
                      have hp2 := fl_lt hp1
                      have hag := own_ag (Cg := Cg) (ed := Pn j) (fm := fm) (by omega) (by have z := ag.2.2.2 j (Nat.le_refl _) hj2; have y := hfl j hj2; show _ ≤ Ci Cg (Pn j); rw [z]; exact y) (ag.1 _ hp2) (by have z := ag.2.1 _ hp1; have y := hC0 _ hp1; show Ci Cg (Pn j) + Ci Cg (fl (Pn j)) ≤ _; omega)
                      refine g_aloadN K W d13_83 rfl rfl (pc' := 84) rfl ?_
                      refine g_getF K W (host := "") (Or.inl (hw _ (List.mem_of_getElem? (i := 13) rfl))) Via.refl F_o0_capacities d13_84 (pc' := 87) rfl (fun T W => ?_)
                      refine g_aload K W d13_87 rfl rfl (pc' := 89) rfl ?_
                      refine g_iload K W d13_89 rfl (pc' := 91) rfl ?_
                      refine g_iaload K W A_o5 (k := j) (own_ofNat (by omega)) (by omega) (v := (Int32.ofNat (Pn j))) (hP j hj2) d13_91 (pc' := 92) rfl ?_
                      refine g_dup2 K W d13_92 rfl rfl (pc' := 93) rfl ?_
                      refine g_laload K W A_ac (k := (Pn j)) (own_ofNat (by omega)) (by omega) (v := (Cg (Pn j))) rfl d13_93 (pc' := 94) rfl ?_
                      refine g_lload K W d13_94 rfl (pc' := 96) rfl ?_
                      refine g_lsub K W d13_96 (pc' := 97) rfl ?_
                      refine g_lastore K W A_ac (k := (Pn j)) (own_ofNat (by omega)) (by omega) ge_ac d13_97 (pc' := 98) rfl (fun T h W w A_ac => ?_)
                      have kp := kp.wr w (Or.inl (List.mem_of_getElem? (i := 0) rfl))
                      have X_o0 := X_o0.wr w
                      have F_o0_heads := F_o0_heads.other w (Or.inl ne_o0_ac)
                      have F_o0_capacities := F_o0_capacities.other w (Or.inl ne_o0_ac)
                      have F_o0_nextOut := F_o0_nextOut.other w (Or.inl ne_o0_ac)
                      have F_o0_firstOut := F_o0_firstOut.other w (Or.inl ne_o0_ac)
                      have F_o0_nodes := F_o0_nodes.other w (Or.inl ne_o0_ac)
                      have A_ah := A_ah.other w ne_ah_ac
                      have A_an := A_an.other w ne_an_ac
                      have A_af := A_af.other w ne_af_ac
                      have A_o3 := A_o3.other w ne_o3_ac
                      have A_o4 := A_o4.other w ne_o4_ac
                      have A_o5 := A_o5.other w ne_o5_ac
                      refine g_aloadN K W d13_98 rfl rfl (pc' := 99) rfl ?_
                      refine g_getF K W (host := "") (Or.inl (hw _ (List.mem_of_getElem? (i := 13) rfl))) Via.refl F_o0_capacities d13_99 (pc' := 102) rfl (fun T W => ?_)
                      refine g_aload K W d13_102 rfl rfl (pc' := 104) rfl ?_
                      refine g_iload K W d13_104 rfl (pc' := 106) rfl ?_
                      refine g_iaload K W A_o5 (k := j) (own_ofNat (by omega)) (by omega) (v := (Int32.ofNat (Pn j))) (hP j hj2) d13_106 (pc' := 107) rfl ?_
                      refine g_iconst K W (v := (1 : Int32)) d13_107 rfl (pc' := 108) rfl ?_
                      refine g_ixor K W d13_108 (pc' := 109) rfl ?_
                      rw [own_xor1 (by omega)]
                      refine g_dup2 K W d13_109 rfl rfl (pc' := 110) rfl ?_
                      refine g_laload K W A_ac (k := (fl (Pn j))) (own_ofNat (by omega)) (by omega) (v := ((upd Cg (Pn j) ((Cg (Pn j)) - fm)) (fl (Pn j)))) rfl d13_110 (pc' := 111) rfl ?_
                      refine g_lload K W d13_111 rfl (pc' := 113) rfl ?_
                      refine g_ladd K W d13_113 (pc' := 114) rfl ?_
                      refine g_lastore K W A_ac (k := (fl (Pn j))) (own_ofNat (by omega)) (by omega) ge_ac d13_114 (pc' := 115) rfl (fun T h W w A_ac => ?_)
                      have kp := kp.wr w (Or.inl (List.mem_of_getElem? (i := 0) rfl))
                      have X_o0 := X_o0.wr w
                      have F_o0_heads := F_o0_heads.other w (Or.inl ne_o0_ac)
                      have F_o0_capacities := F_o0_capacities.other w (Or.inl ne_o0_ac)
                      have F_o0_nextOut := F_o0_nextOut.other w (Or.inl ne_o0_ac)
                      have F_o0_firstOut := F_o0_firstOut.other w (Or.inl ne_o0_ac)
                      have F_o0_nodes := F_o0_nodes.other w (Or.inl ne_o0_ac)
                      have A_ah := A_ah.other w ne_ah_ac
                      have A_an := A_an.other w ne_an_ac
                      have A_af := A_af.other w ne_af_ac
                      have A_o3 := A_o3.other w ne_o3_ac
                      have A_o4 := A_o4.other w ne_o4_ac
                      have A_o5 := A_o5.other w ne_o5_ac
                      refine g_iinc K W d13_115 rfl (Ls' := #[.val (.ref o0), .val (.int (Int32.ofNat sr)), .val (.int (Int32.ofNat sk)), .val (.ref o3), .val (.ref o4), .val (.ref o5), .val (.int (Int32.ofNat i)), .val (.int (Int32.ofNat u)), .val (.long (0 : Int64)), .second, .val (.long fm), .second, .val (.int ((Int32.ofNat j) + (1 : Int32)))]) rfl (pc' := 118) rfl ?_
                      refine g_goto K W d13_118 (pt := 76) rfl ?_
                      rw [own_one]
                      exact ih (i - (j + 1)) (by omega) (j + 1) _ T h rfl (by omega) (ag.step pt hj2 (by omega) (hfl j hj2) hag.1 hag.2.1 hag.2.2) X_o0 F_o0_heads F_o0_capacities F_o0_nextOut F_o0_firstOut F_o0_nodes A_ah A_ac A_an A_af A_o3 A_o4 A_o5 kp W
                    · refine g_lload K W d13_121 rfl (pc' := 123) rfl ?_
                      refine g_lstore K W d13_123 (Ls' := #[.val (.ref o0), .val (.int (Int32.ofNat sr)), .val (.int (Int32.ofNat sk)), .val (.ref o3), .val (.ref o4), .val (.ref o5), .val (.int (Int32.ofNat i)), .val (.int (Int32.ofNat u)), .val (.long fm), .second, .val (.long fm), .second, .val (.int (Int32.ofNat j))]) rfl (pc' := 125) rfl ?_
                      refine g_goto K W d13_125 (pt := 9) rfl ?_
                      refine g_lload K W d13_9 rfl (pc' := 11) rfl ?_
                      refine g_lconst K W (v := (0 : Int64)) d13_11 rfl (pc' := 12) rfl ?_
                      refine g_lcmp_ne K W d13_12 (pc1 := 13) rfl d13_13 (pt := 245) rfl (pf := 16) rfl (fun hc12 => absurd hc12 (fun z => by rw [z] at hf0; exact absurd hf0 (by decide))) (fun hc12 => ?_)
                      refine g_lload K W d13_245 rfl (pc' := 247) rfl ?_
                      have hje : j = i := by have := (not_congr (own_lt (i := j) (n := i) (by omega) (by omega))).mp hc80; omega
                      exact g_retL K W d13_247 (by decide) (by decide) ⟨fm, Cg, cu, Pf, b, rfl, kp, A_ac, A_o4, A_o5, by omega, hfI, (show AG nn kk H C0 (Ci Cf) (Ci Cg) sr sk F fm.toInt Pn nd i i by rw [hje] at ag; exact ag).done (hnu.trans hus), hb, fun _ => hf0⟩
                exact loop3 i 0 Cf T h rfl (Nat.zero_le _) (AG.start fi pt.1) X_o0 F_o0_heads F_o0_capacities F_o0_nextOut F_o0_firstOut F_o0_nodes A_ah A_ac A_an A_af A_o3 A_o4 A_o5 kp W
          exact loop2 d 0 _ T rfl (Nat.zero_le _) (by decide) (by decide) (fun j hj => absurd hj (Nat.not_lt_zero _)) W
        · refine g_aload K W d13_128 rfl rfl (pc' := 130) rfl ?_
          refine g_iload K W d13_130 rfl (pc' := 132) rfl ?_
          refine g_iaload K W A_o4 (k := u) (own_ofNat (by omega)) hun (v := (cu u)) rfl d13_132 (pc' := 133) rfl ?_
          refine g_istore K W d13_133 (Ls' := #[.val (.ref o0), .val (.int (Int32.ofNat sr)), .val (.int (Int32.ofNat sk)), .val (.ref o3), .val (.ref o4), .val (.ref o5), .val (.int (Int32.ofNat d)), .val (.int (Int32.ofNat u)), .val (.long (0 : Int64)), .second, .val (.int (cu u)), .unset, .unset]) (by rcases hs_s10 with rfl | ⟨z, rfl⟩ <;> rfl) (pc' := 135) rfl ?_
          have loop4 : ∀ (my : Nat) (b1 : Nat) (x10 : Int32) (T : State), b1 = my → b1 ≤ b u → x10.toInt = prv H u b1 → (∀ e', E e' → tl H e' = u → e' < b1) → Wd p l e rm_c_push s m args below meth c n0 T h 0 0 → Go p e below s n0 (Q_c_push Z n0 h0 o0 (Int32.ofNat sr) (Int32.ofNat sk) o3 o4 o5 ah ac an af nn kk M H Hf Cf Nf Ff sr sk Lf cu Pf C0 F b E) 0 0 T (mkF m 135 #[.val (.ref o0), .val (.int (Int32.ofNat sr)), .val (.int (Int32.ofNat sk)), .val (.ref o3), .val (.ref o4), .val (.ref o5), .val (.int (Int32.ofNat d)), .val (.int (Int32.ofNat u)), .val (.long (0 : Int64)), .second, .val (.int x10), .unset, .unset] []) := by
            intro my
            induction my using Nat.strongRecOn with
            | ind my ih =>
              intro b1 x10 T hmy hb1u hx10 hE1  W
              refine g_iload K W d13_135 rfl (pc' := 137) rfl ?_
              refine g_if_lt K W d13_137 (pt := 165) rfl (pf := 140) rfl (fun hc137 => ?_) (fun hc137 => ?_)
              · refine g_aload K W d13_165 rfl rfl (pc' := 167) rfl ?_
                refine g_iload K W d13_167 rfl (pc' := 169) rfl ?_
                refine g_iload K W d13_169 rfl (pc' := 171) rfl ?_
                refine g_iastore K W A_o4 (k := u) (own_ofNat (by omega)) hun ge_o4 d13_171 (pc' := 172) rfl (fun T h W w A_o4 => ?_)
                have kp := kp.wr w (Or.inl (List.mem_of_getElem? (i := 1) rfl))
                have X_o0 := X_o0.wr w
                have F_o0_heads := F_o0_heads.other w (Or.inl ne_o0_o4)
                have F_o0_capacities := F_o0_capacities.other w (Or.inl ne_o0_o4)
                have F_o0_nextOut := F_o0_nextOut.other w (Or.inl ne_o0_o4)
                have F_o0_firstOut := F_o0_firstOut.other w (Or.inl ne_o0_o4)
                have F_o0_nodes := F_o0_nodes.other w (Or.inl ne_o0_o4)
                have A_ah := A_ah.other w ne_ah_o4
                have A_ac := A_ac.other w ne_ac_o4
                have A_an := A_an.other w ne_an_o4
                have A_af := A_af.other w ne_af_o4
                have A_o3 := A_o3.other w ne_o3_o4
                have A_o5 := A_o5.other w ne_o5_o4
                refine g_iload K W d13_172 rfl (pc' := 174) rfl ?_
                refine g_if_lt K W d13_174 (pt := 199) rfl (pf := 177) rfl (fun hc174 => ?_) (fun hc174 => absurd hc137 hc174)
                refine g_iload K W d13_199 rfl (pc' := 201) rfl ?_
                refine g_if_le K W d13_201 (pt := 239) rfl (pf := 204) rfl (fun hc201 => ?_) (fun hc201 => ?_)
                · have hd0 : 0 < d := (own_pos d (by omega)).mp hc201
                  obtain ⟨p1, p2, p3, p4, p5⟩ := pt.2.1 (d - 1) (by omega)
                  have hnd1 := (pt.2.2 (d - 1) (by omega)).1
                  have hp6 := fl_lt p1
                  have hne1 : nd (d - 1) ≠ u := by rw [← hnu]; exact pt.ne (by omega) (Nat.le_refl _) (by omega)
                  refine g_iinc K W d13_204 rfl (Ls' := #[.val (.ref o0), .val (.int (Int32.ofNat sr)), .val (.int (Int32.ofNat sk)), .val (.ref o3), .val (.ref o4), .val (.ref o5), .val (.int ((Int32.ofNat d) + (-1 : Int32))), .val (.int (Int32.ofNat u)), .val (.long (0 : Int64)), .second, .val (.int x10), .unset, .unset]) rfl (pc' := 207) rfl ?_
                  rw [own_m1 hd0]
                  refine g_aloadN K W d13_207 rfl rfl (pc' := 208) rfl ?_
                  refine g_getF K W (host := "") (Or.inl (hw _ (List.mem_of_getElem? (i := 10) rfl))) Via.refl F_o0_heads d13_208 (pc' := 211) rfl (fun T W => ?_)
                  refine g_aload K W d13_211 rfl rfl (pc' := 213) rfl ?_
                  refine g_iload K W d13_213 rfl (pc' := 215) rfl ?_
                  refine g_iaload K W A_o5 (k := (d - 1)) (own_ofNat (by omega)) (by omega) (v := (Int32.ofNat (Pn (d - 1)))) (hP (d - 1) (by omega)) d13_215 (pc' := 216) rfl ?_
                  refine g_iconst K W (v := (1 : Int32)) d13_216 rfl (pc' := 217) rfl ?_
                  refine g_ixor K W d13_217 (pc' := 218) rfl ?_
                  rw [own_xor1 (by omega)]
                  refine g_iaload K W A_ah (k := (fl (Pn (d - 1)))) (own_ofNat (by omega)) (by omega) (v := (Int32.ofNat (nd (d - 1)))) (by rw [hHf _ hp6, ← p2]; rfl) d13_218 (pc' := 219) rfl ?_
                  refine g_istore K W d13_219 (Ls' := #[.val (.ref o0), .val (.int (Int32.ofNat sr)), .val (.int (Int32.ofNat sk)), .val (.ref o3), .val (.ref o4), .val (.ref o5), .val (.int (Int32.ofNat (d - 1))), .val (.int (Int32.ofNat (nd (d - 1)))), .val (.long (0 : Int64)), .second, .val (.int x10), .unset, .unset]) rfl (pc' := 221) rfl ?_
                  refine g_aload K W d13_221 rfl rfl (pc' := 223) rfl ?_
                  refine g_iload K W d13_223 rfl (pc' := 225) rfl ?_
                  refine g_aloadN K W d13_225 rfl rfl (pc' := 226) rfl ?_
                  refine g_getF K W (host := "") (Or.inl (hw _ (List.mem_of_getElem? (i := 15) rfl))) Via.refl F_o0_nextOut d13_226 (pc' := 229) rfl (fun T W => ?_)
                  refine g_aload K W d13_229 rfl rfl (pc' := 231) rfl ?_
                  refine g_iload K W d13_231 rfl (pc' := 233) rfl ?_
                  refine g_iaload K W A_o4 (k := (nd (d - 1))) (own_ofNat (by omega)) hnd1 (v := (Int32.ofNat (Pn (d - 1)))) (by rw [upd_ne _ _ hne1]; exact own_toI ((hb _ hnd1).2.trans p5)) d13_233 (pc' := 234) rfl ?_
                  refine g_iaload K W A_an (k := (Pn (d - 1))) (own_ofNat (by omega)) (by omega) (v := (Nf (Pn (d - 1)))) rfl d13_234 (pc' := 235) rfl ?_
                  refine g_iastore K W A_o4 (k := (nd (d - 1))) (own_ofNat (by omega)) hnd1 ge_o4 d13_235 (pc' := 236) rfl (fun T h W w A_o4 => ?_)
                  have kp := kp.wr w (Or.inl (List.mem_of_getElem? (i := 1) rfl))
                  have X_o0 := X_o0.wr w
                  have F_o0_heads := F_o0_heads.other w (Or.inl ne_o0_o4)
                  have F_o0_capacities := F_o0_capacities.other w (Or.inl ne_o0_o4)
                  have F_o0_nextOut := F_o0_nextOut.other w (Or.inl ne_o0_o4)
                  have F_o0_firstOut := F_o0_firstOut.other w (Or.inl ne_o0_o4)
                  have F_o0_nodes := F_o0_nodes.other w (Or.inl ne_o0_o4)
                  have A_ah := A_ah.other w ne_ah_o4
                  have A_ac := A_ac.other w ne_ac_o4
                  have A_an := A_an.other w ne_an_o4
                  have A_af := A_af.other w ne_af_o4
                  have A_o3 := A_o3.other w ne_o3_o4
                  have A_o5 := A_o5.other w ne_o5_o4
                  refine g_goto K W d13_236 (pt := 242) rfl ?_
                  refine g_goto K W d13_242 (pt := 9) rfl ?_
                  have pt1 := pt.low b1
                  rw [hnu] at pt1
                  have hb1 : ∀ v, v < nn → upd b u b1 v ≤ 2 * kk ∧ (upd cu u x10 v).toInt = prv H v (upd b u b1 v) := (fun v hv => by
                    by_cases z : v = u
                    · rw [z, upd_same, upd_same]; exact ⟨by have := (hb u hun).1; omega, hx10⟩
                    · rw [upd_ne _ _ z, upd_ne _ _ z]; exact hb v hv)
                  have hEE : ∀ e', E e' → e' < upd b u b1 (tl H e') := (fun e' he' => by
                    by_cases z : tl H e' = u
                    · rw [z, upd_same]; exact hE1 e' he' z
                    · rw [upd_ne _ _ z]; exact hE e' he')
                  have hsb := sb_upd (b := b) (u := u) (x := b1) nn hun
                  have hsb2 := sb_upd (b := upd b u b1) (u := nd (d - 1)) (x := Pn (d - 1)) nn hnd1
                  rw [upd_ne b _ hne1] at hsb2
                  have pt2 := (show PT nn kk H (Ci Cf) (Li Lf) sr (upd b u b1) Pn nd ((d - 1) + 1) by rw [Nat.sub_add_cancel hd0]; exact pt1).drop.low (Pn (d - 1))
                  have hno : ¬ E (Pn (d - 1)) := fun z => by
                    rcases (pi _ z).2.2 with y | ⟨e', y1, y2⟩
                    · exact hc32 (by rw [← y, p3, Nat.sub_add_cancel hd0, hnu])
                    · have y3 : tl H e' = u := by rw [y2, p3, Nat.sub_add_cancel hd0, hnu]
                      exact prv_no (by rw [← hx10]; exact (own_neg _).mp hc137) (hE1 e' y1 y3) y3
                  have hlo : Pn (d - 1) < b (nd (d - 1)) := by have z := prv_lt H (nd (d - 1)) (b (nd (d - 1))); rw [p5] at z; omega
                  exact ih0 (2 * sb (upd (upd b u b1) (nd (d - 1)) (Pn (d - 1))) nn + (nn + 1 - (d - 1))) (by omega) (d - 1) (nd (d - 1)) (upd (upd b u b1) (nd (d - 1)) (Pn (d - 1))) (upd (upd cu u x10) (nd (d - 1)) (Nf (Pn (d - 1)))) Pf Pn nd _ T h rfl pt2 rfl (fun i hi => hP i (by omega)) (fun v hv => by
                    by_cases z : v = nd (d - 1)
                    · rw [z, upd_same, upd_same]; exact ⟨by omega, by rw [hNf _ p1, p2]⟩
                    · rw [upd_ne _ _ z, upd_ne _ _ z]; exact hb1 v hv) (fun e' he' => by
                    by_cases z : tl H e' = nd (d - 1)
                    · rw [z, upd_same]
                      have y := hE e' he'
                      rw [z] at y
                      have y2 := prv_lo p5 z y
                      have y3 : e' ≠ Pn (d - 1) := fun y4 => hno (y4 ▸ he')
                      omega
                    · rw [upd_ne _ _ z]; exact hEE e' he') (Or.inr ⟨_, rfl⟩) X_o0 F_o0_heads F_o0_capacities F_o0_nextOut F_o0_firstOut F_o0_nodes A_ah A_ac A_an A_af A_o3 A_o4 A_o5 kp W
                · have hd0 : d = 0 := by have := (not_congr (own_pos d (by omega))).mp hc201; omega
                  have hus : u = sr := by rw [← hnu, hd0]; exact pt.1
                  refine g_iloadN K W d13_239 rfl (pc' := 240) rfl ?_
                  refine g_istore K W d13_240 (Ls' := #[.val (.ref o0), .val (.int (Int32.ofNat sr)), .val (.int (Int32.ofNat sk)), .val (.ref o3), .val (.ref o4), .val (.ref o5), .val (.int (Int32.ofNat d)), .val (.int (Int32.ofNat sr)), .val (.long (0 : Int64)), .second, .val (.int x10), .unset, .unset]) rfl (pc' := 242) rfl ?_
                  refine g_goto K W d13_242 (pt := 9) rfl ?_
                  refine g_lload K W d13_9 rfl (pc' := 11) rfl ?_
                  refine g_lconst K W (v := (0 : Int64)) d13_11 rfl (pc' := 12) rfl ?_
                  refine g_lcmp_ne K W d13_12 (pc1 := 13) rfl d13_13 (pt := 245) rfl (pf := 16) rfl (fun hc12 => ?_) (fun hc12 => absurd rfl hc12)
                  refine g_iload K W d13_16 rfl (pc' := 18) rfl ?_
                  refine g_iloadN K W d13_18 rfl (pc' := 19) rfl ?_
                  refine g_icmp_ne K W d13_19 (pt := 29) rfl (pf := 22) rfl (fun hc19 => ?_) (fun hc19 => absurd rfl hc19)
                  refine g_aload K W d13_22 rfl rfl (pc' := 24) rfl ?_
                  refine g_iloadN K W d13_24 rfl (pc' := 25) rfl ?_
                  refine g_iaload K W A_o4 (k := sr) (own_ofNat (by omega)) hs (v := x10) (by rw [← hus]; exact upd_same _ _ _) d13_25 (pc' := 26) rfl ?_
                  refine g_if_lt K W d13_26 (pt := 245) rfl (pf := 29) rfl (fun hc26 => ?_) (fun hc26 => absurd hc137 hc26)
                  refine g_lload K W d13_245 rfl (pc' := 247) rfl ?_
                  have hns : ∀ e', E e' → tl H e' ≠ sr := fun e' y1 y2 => by
                    have y3 : tl H e' = u := y2.trans hus.symm
                    exact prv_no (by rw [← hx10]; exact (own_neg _).mp hc137) (hE1 e' y1 y3) y3
                  have hb1 : ∀ v, v < nn → upd b u b1 v ≤ 2 * kk ∧ (upd cu u x10 v).toInt = prv H v (upd b u b1 v) := (fun v hv => by
                    by_cases z : v = u
                    · rw [z, upd_same, upd_same]; exact ⟨by have := (hb u hun).1; omega, hx10⟩
                    · rw [upd_ne _ _ z, upd_ne _ _ z]; exact hb v hv)
                  exact g_retL K W d13_247 (by decide) (by decide) ⟨0, Cf, _, Pf, upd b u b1, rfl, kp, A_ac, A_o4, A_o5, by decide, by decide, by rw [show (0 : Int64).toInt = 0 from rfl, Int.add_zero]; exact fi, hb1, fun ⟨e', y1, y2⟩ => absurd y2 (hns e' y1)⟩
              · have hx : ¬ prv H u b1 < 0 := by rw [← hx10]; exact fun z => hc137 ((own_neg _).mpr z)
                obtain ⟨ed, h1, h2, h3⟩ := prv_at hx
                have hxe : x10.toInt = (ed : Int) := hx10.trans h2
                have hed : ed < 2 * kk := by have := (hb u hun).1; omega
                refine g_aloadN K W d13_140 rfl rfl (pc' := 141) rfl ?_
                refine g_iload K W d13_141 rfl (pc' := 143) rfl ?_
                refine g_iload K W d13_143 rfl (pc' := 145) rfl ?_
                refine g_iloadN K W d13_145 rfl (pc' := 146) rfl ?_
                refine g_aloadN K W d13_146 rfl rfl (pc' := 147) rfl ?_
                refine g_callP (c_adm l Z a0 hw n0 _ W.sz o0 x10 (Int32.ofNat u) (Int32.ofNat sk) o3 ah ac an af nn kk M H Hf Cf Nf Ff sr sk Lf ed u X_o0 F_o0_heads F_o0_capacities F_o0_nextOut F_o0_firstOut F_o0_nodes A_ah A_ac A_an A_af A_o3 hxe hed rfl h3 hun rfl ht lvb ⟨hn5, hk16, hkM, hM32, hH, hHf, hNf, hFf⟩) K W X_o0.cell (hw _ (List.mem_of_getElem? (i := 77) rfl)) (hw _ (List.mem_of_getElem? (i := 78) rfl)) (hw _ (List.mem_of_getElem? (i := 1) rfl)) (hw _ (List.mem_of_getElem? (i := 79) rfl)) (hw _ (List.mem_of_getElem? (i := 2) rfl)) (hw _ (List.mem_of_getElem? (i := 80) rfl)) (by decide) (lenOf pd_2 rfl) d13_147 (pc' := 150) rfl (argsL := [(.int x10), (.int (Int32.ofNat u)), (.int (Int32.ofNat sk)), (.ref o3)]) (rest := []) rfl rfl (by decide) (wt := 0) rfl (by decide) (by decide) (by decide) ?_
                rintro T _ _ W (⟨rfl, rfl, hA⟩ | ⟨rfl, rfl, hA⟩)
                · show Go p e below s n0 (Q_c_push Z n0 h0 o0 (Int32.ofNat sr) (Int32.ofNat sk) o3 o4 o5 ah ac an af nn kk M H Hf Cf Nf Ff sr sk Lf cu Pf C0 F b E) 0 0 T (mkF m 150 #[.val (.ref o0), .val (.int (Int32.ofNat sr)), .val (.int (Int32.ofNat sk)), .val (.ref o3), .val (.ref o4), .val (.ref o5), .val (.int (Int32.ofNat d)), .val (.int (Int32.ofNat u)), .val (.long (0 : Int64)), .second, .val (.int x10), .unset, .unset] [(.int (1 : Int32))])
                  refine g_if_ne K W d13_150 (pt := 165) rfl (pf := 153) rfl (fun hc150 => absurd hc150 (by decide)) (fun hc150 => ?_)
                  refine g_aload K W d13_165 rfl rfl (pc' := 167) rfl ?_
                  refine g_iload K W d13_167 rfl (pc' := 169) rfl ?_
                  refine g_iload K W d13_169 rfl (pc' := 171) rfl ?_
                  refine g_iastore K W A_o4 (k := u) (own_ofNat (by omega)) hun ge_o4 d13_171 (pc' := 172) rfl (fun T h W w A_o4 => ?_)
                  have kp := kp.wr w (Or.inl (List.mem_of_getElem? (i := 1) rfl))
                  have X_o0 := X_o0.wr w
                  have F_o0_heads := F_o0_heads.other w (Or.inl ne_o0_o4)
                  have F_o0_capacities := F_o0_capacities.other w (Or.inl ne_o0_o4)
                  have F_o0_nextOut := F_o0_nextOut.other w (Or.inl ne_o0_o4)
                  have F_o0_firstOut := F_o0_firstOut.other w (Or.inl ne_o0_o4)
                  have F_o0_nodes := F_o0_nodes.other w (Or.inl ne_o0_o4)
                  have A_ah := A_ah.other w ne_ah_o4
                  have A_ac := A_ac.other w ne_ac_o4
                  have A_an := A_an.other w ne_an_o4
                  have A_af := A_af.other w ne_af_o4
                  have A_o3 := A_o3.other w ne_o3_o4
                  have A_o5 := A_o5.other w ne_o5_o4
                  refine g_iload K W d13_172 rfl (pc' := 174) rfl ?_
                  refine g_if_lt K W d13_174 (pt := 199) rfl (pf := 177) rfl (fun hc174 => absurd hc174 hc137) (fun hc174 => ?_)
                  refine g_aload K W d13_177 rfl rfl (pc' := 179) rfl ?_
                  refine g_iload K W d13_179 rfl (pc' := 181) rfl ?_
                  refine g_iinc K W d13_181 rfl (Ls' := #[.val (.ref o0), .val (.int (Int32.ofNat sr)), .val (.int (Int32.ofNat sk)), .val (.ref o3), .val (.ref o4), .val (.ref o5), .val (.int ((Int32.ofNat d) + (1 : Int32))), .val (.int (Int32.ofNat u)), .val (.long (0 : Int64)), .second, .val (.int x10), .unset, .unset]) rfl (pc' := 184) rfl ?_
                  refine g_iload K W d13_184 rfl (pc' := 186) rfl ?_
                  refine g_iastore K W A_o5 (k := d) (own_ofNat (by omega)) hdn ge_o5 d13_186 (pc' := 187) rfl (fun T h W w A_o5 => ?_)
                  have kp := kp.wr w (Or.inl (List.mem_of_getElem? (i := 2) rfl))
                  have X_o0 := X_o0.wr w
                  have F_o0_heads := F_o0_heads.other w (Or.inl ne_o0_o5)
                  have F_o0_capacities := F_o0_capacities.other w (Or.inl ne_o0_o5)
                  have F_o0_nextOut := F_o0_nextOut.other w (Or.inl ne_o0_o5)
                  have F_o0_firstOut := F_o0_firstOut.other w (Or.inl ne_o0_o5)
                  have F_o0_nodes := F_o0_nodes.other w (Or.inl ne_o0_o5)
                  have A_ah := A_ah.other w ne_ah_o5
                  have A_ac := A_ac.other w ne_ac_o5
                  have A_an := A_an.other w ne_an_o5
                  have A_af := A_af.other w ne_af_o5
                  have A_o3 := A_o3.other w ne_o3_o5
                  have A_o4 := A_o4.other w ne_o4_o5
                  refine g_aloadN K W d13_187 rfl rfl (pc' := 188) rfl ?_
                  refine g_getF K W (host := "") (Or.inl (hw _ (List.mem_of_getElem? (i := 10) rfl))) Via.refl F_o0_heads d13_188 (pc' := 191) rfl (fun T W => ?_)
                  refine g_iload K W d13_191 rfl (pc' := 193) rfl ?_
                  refine g_iaload K W A_ah (k := ed) hxe (by omega) (v := (Int32.ofNat (H ed))) (hHf ed hed) d13_193 (pc' := 194) rfl ?_
                  refine g_istore K W d13_194 (Ls' := #[.val (.ref o0), .val (.int (Int32.ofNat sr)), .val (.int (Int32.ofNat sk)), .val (.ref o3), .val (.ref o4), .val (.ref o5), .val (.int ((Int32.ofNat d) + (1 : Int32))), .val (.int (Int32.ofNat (H ed))), .val (.long (0 : Int64)), .second, .val (.int x10), .unset, .unset]) rfl (pc' := 196) rfl ?_
                  refine g_goto K W d13_196 (pt := 242) rfl ?_
                  refine g_goto K W d13_242 (pt := 9) rfl ?_
                  have pt1 := pt.low b1
                  rw [hnu] at pt1
                  have hb1 : ∀ v, v < nn → upd b u b1 v ≤ 2 * kk ∧ (upd cu u x10 v).toInt = prv H v (upd b u b1 v) := (fun v hv => by
                    by_cases z : v = u
                    · rw [z, upd_same, upd_same]; exact ⟨by have := (hb u hun).1; omega, hx10⟩
                    · rw [upd_ne _ _ z, upd_ne _ _ z]; exact hb v hv)
                  have hEE : ∀ e', E e' → e' < upd b u b1 (tl H e') := (fun e' he' => by
                    by_cases z : tl H e' = u
                    · rw [z, upd_same]; exact hE1 e' he' z
                    · rw [upd_ne _ _ z]; exact hE e' he')
                  have hsb := sb_upd (b := b) (u := u) (x := b1) nn hun
                  rw [own_one]
                  have pt2 := pt1.adv hH hed (by rw [hnu, upd_same]; exact h2) (h3.trans hnu.symm) hA
                  exact ih0 (2 * sb (upd b u b1) nn + (nn + 1 - (d + 1))) (by omega) (d + 1) (H ed) (upd b u b1) (upd cu u x10) (upd Pf d x10) (upd Pn d ed) (upd nd (d + 1) (H ed)) _ T h rfl pt2 (upd_same _ _ _) (fun i hi => by
                    by_cases z : i = d
                    · rw [z, upd_same, upd_same]; exact own_toI hxe
                    · rw [upd_ne _ _ z, upd_ne _ _ z]; exact hP i (by omega)) hb1 hEE (Or.inr ⟨_, rfl⟩) X_o0 F_o0_heads F_o0_capacities F_o0_nextOut F_o0_firstOut F_o0_nodes A_ah A_ac A_an A_af A_o3 A_o4 A_o5 kp W
                · show Go p e below s n0 (Q_c_push Z n0 h0 o0 (Int32.ofNat sr) (Int32.ofNat sk) o3 o4 o5 ah ac an af nn kk M H Hf Cf Nf Ff sr sk Lf cu Pf C0 F b E) 0 0 T (mkF m 150 #[.val (.ref o0), .val (.int (Int32.ofNat sr)), .val (.int (Int32.ofNat sk)), .val (.ref o3), .val (.ref o4), .val (.ref o5), .val (.int (Int32.ofNat d)), .val (.int (Int32.ofNat u)), .val (.long (0 : Int64)), .second, .val (.int x10), .unset, .unset] [(.int (0 : Int32))])
                  refine g_if_ne K W d13_150 (pt := 165) rfl (pf := 153) rfl (fun hc150 => ?_) (fun hc150 => absurd rfl hc150)
                  refine g_aloadN K W d13_153 rfl rfl (pc' := 154) rfl ?_
                  refine g_getF K W (host := "") (Or.inl (hw _ (List.mem_of_getElem? (i := 15) rfl))) Via.refl F_o0_nextOut d13_154 (pc' := 157) rfl (fun T W => ?_)
                  refine g_iload K W d13_157 rfl (pc' := 159) rfl ?_
                  refine g_iaload K W A_an (k := ed) hxe (by omega) (v := (Nf ed)) rfl d13_159 (pc' := 160) rfl ?_
                  refine g_istore K W d13_160 (Ls' := #[.val (.ref o0), .val (.int (Int32.ofNat sr)), .val (.int (Int32.ofNat sk)), .val (.ref o3), .val (.ref o4), .val (.ref o5), .val (.int (Int32.ofNat d)), .val (.int (Int32.ofNat u)), .val (.long (0 : Int64)), .second, .val (.int (Nf ed)), .unset, .unset]) rfl (pc' := 162) rfl ?_
                  refine g_goto K W d13_162 (pt := 135) rfl ?_
                  exact ih ed (by omega) ed _ T rfl (by omega) (by rw [hNf ed hed, h3]) (fun e' y1 y2 => by
                    have y3 := prv_lo h2 y2 (hE1 e' y1 y2)
                    have y4 : e' ≠ ed := fun z => hA (z ▸ (pi e' y1).2.1)
                    omega) W
          exact loop4 (b u) (b u) _ T rfl (Nat.le_refl _) (hb u hun).2 (fun e' y1 y2 => by have y3 := hE e' y1; rw [y2] at y3; exact y3) W
      refine g_iload K W d13_16 rfl (pc' := 18) rfl ?_
      refine g_iloadN K W d13_18 rfl (pc' := 19) rfl ?_
      refine g_icmp_ne K W d13_19 (pt := 29) rfl (pf := 22) rfl (fun hc19 => ?_) (fun hc19 => ?_)
      · refine g_aload K W d13_22 rfl rfl (pc' := 24) rfl ?_
        refine g_iloadN K W d13_24 rfl (pc' := 25) rfl ?_
        refine g_iaload K W A_o4 (k := sr) (own_ofNat (by omega)) hs (v := (cu sr)) rfl d13_25 (pc' := 26) rfl ?_
        refine g_if_lt K W d13_26 (pt := 245) rfl (pf := 29) rfl (fun hc26 => ?_) (fun hc26 => ?_)
        · refine g_lload K W d13_245 rfl (pc' := 247) rfl ?_
          have hns : ∀ e', E e' → tl H e' ≠ sr := fun e' y1 y2 => by
            have y3 := hE e' y1
            rw [y2] at y3
            exact prv_no (by rw [← (hb sr hs).2]; exact (own_neg _).mp hc26) y3 y2
          exact g_retL K W d13_247 (by decide) (by decide) ⟨0, Cf, cu, Pf, b, rfl, kp, A_ac, A_o4, A_o5, by decide, by decide, by rw [show (0 : Int64).toInt = 0 from rfl, Int.add_zero]; exact fi, hb, fun ⟨e', y1, y2⟩ => absurd y2 (hns e' y1)⟩
        · exact hJ29  _ (W.mono (by decide) (by decide))
      · exact hJ29  _ (W.mono (by decide) (by decide))
  exact loop1 _ 0 sr b cu Pf (fun _ => 0) (fun _ => sr) _ T h0 rfl (PT.start hs lv0 b _) rfl (fun i hi => absurd hi (Nat.not_lt_zero _)) hb hE (Or.inl rfl) X_o0 F_o0_heads F_o0_capacities F_o0_nextOut F_o0_firstOut F_o0_nodes A_ah A_ac A_an A_af A_o3 A_o4 A_o5 kp W
/-- a MinCut of nn nodes and kk edges, its cuts, and the places that are none of its own -/
def MC (Z : State) (n0 : Nat) (h : Heap) (o : Addr) (nn kk : Nat) (Kc : (Nat → Bool) → Int) (Fs : List Addr) : Prop := Exa Z h o "com/example/ichnos/ichnos/planning/ils/MinCut" ∧ n0 ≤ o ∧ ∃ (ah ac an af : Addr) (M : Nat) (H : Nat → Nat) (Hf : Nat → Int32) (Cf : Nat → Int64) (Nf Ff : Nat → Int32), n0 ≤ ah ∧ n0 ≤ ac ∧ n0 ≤ an ∧ n0 ≤ af ∧ o ≠ ah ∧ o ≠ ac ∧ o ≠ an ∧ o ≠ af ∧ ah ≠ ac ∧ ah ≠ an ∧ ah ≠ af ∧ ac ≠ an ∧ ac ≠ af ∧ an ≠ af ∧ Fld Z h o "com/example/ichnos/ichnos/planning/ils/MinCut" "heads" "[I" (.ref ah) ∧ Fld Z h o "com/example/ichnos/ichnos/planning/ils/MinCut" "capacities" "[J" (.ref ac) ∧ Fld Z h o "com/example/ichnos/ichnos/planning/ils/MinCut" "nextOut" "[I" (.ref an) ∧ Fld Z h o "com/example/ichnos/ichnos/planning/ils/MinCut" "firstOut" "[I" (.ref af) ∧ Fld Z h o "com/example/ichnos/ichnos/planning/ils/MinCut" "nodes" "I" (.int (Int32.ofNat nn)) ∧ Fld Z h o "com/example/ichnos/ichnos/planning/ils/MinCut" "edges" "I" (.int (Int32.ofNat (2 * kk))) ∧ AyI Z h ah .int M Hf ∧ AyJ Z h ac M Cf ∧ AyI Z h an .int M Nf ∧ AyI Z h af .int nn Ff ∧ GP nn kk M H Hf Nf Ff ∧ (M = 16 ∨ M = 32) ∧ CAP kk Cf ∧ (∀ S, Kc S = cut H kk (Ci Cf) S) ∧ ∀ x ∈ Fs, x < h.size ∧ x ≠ o ∧ x ≠ ah ∧ x ≠ ac ∧ x ≠ an ∧ x ≠ af
/-- the places Fs hold what they held -/
def Sm (h0 h : Heap) (Fs : List Addr) : Prop := ∀ x ∈ Fs, ∀ c : Cell, h0[x]? = some c → h[x]? = some c
theorem AyI.sm {Z : State} {h0 h : Heap} {Fs : List Addr} {a : Addr} {ty : FieldType} {n : Nat} {f : Nat → Int32} (A : AyI Z h0 a ty n f) (X : Sm h0 h Fs) (q : a ∈ Fs) : AyI Z h a ty n f := by obtain ⟨cl, x, r⟩ := A; exact ⟨cl, ⟨X a q cl x.1, x.2⟩, r⟩
theorem AyJ.sm {Z : State} {h0 h : Heap} {Fs : List Addr} {a : Addr} {n : Nat} {f : Nat → Int64} (A : AyJ Z h0 a n f) (X : Sm h0 h Fs) (q : a ∈ Fs) : AyJ Z h a n f := by obtain ⟨cl, x, r⟩ := A; exact ⟨cl, ⟨X a q cl x.1, x.2⟩, r⟩

theorem MC.grow {Z : State} {n0 : Nat} {h h' : Heap} {o : Addr} {nn kk : Nat} {Kc : (Nat → Bool) → Int} (P : MC Z n0 h o nn kk Kc []) (E : Ext h h') {x : Addr} (hx : x = h.size) (hx' : x < h'.size) : MC Z n0 h' o nn kk Kc [x] := by
  obtain ⟨X, g0, ah, ac, an, af, M, H, Hf, Cf, Nf, Ff, g1, g2, g3, g4, d1, d2, d3, d4, d5, d6, d7, d8, d9, d10, f1, f2, f3, f4, f5, f6, A1, A2, A3, A4, gp, hM, cap, hK, fs⟩ := P
  refine ⟨X.ext E, g0, ah, ac, an, af, M, H, Hf, Cf, Nf, Ff, g1, g2, g3, g4, d1, d2, d3, d4, d5, d6, d7, d8, d9, d10, f1.ext E, f2.ext E, f3.ext E, f4.ext E, f5.ext E, f6.ext E, A1.ext E, A2.ext E, A3.ext E, A4.ext E, gp, hM, cap, hK, ?_⟩
  have l0 := X.lt; have l1 := A1.lt; have l2 := A2.lt; have l3 := A3.lt; have l4 := A4.lt
  have ne : ∀ {y : Addr}, y < h.size → x ≠ y := fun {y} l q => Nat.lt_irrefl _ (by rw [← q, hx] at l; exact l)
  exact allS ⟨hx', ne l0, ne l1, ne l2, ne l3, ne l4⟩ all0
def Q_c_side (Z : State) (n0 : Nat) (h0 : Heap) (o0 : Addr) (xs : Int32) (xt : Int32) (nn : Nat) (kk : Nat) (sr : Nat) (sk : Nat) (Kc : (Nat → Bool) → Int) (Fs : List Addr) : Option Value → Heap → Prop := fun v h => (v = some .null ∧ Sm h0 h Fs ∧ ∀ S : Nat → Bool, S sr = true → S sk = false → 2305843009213693951 ≤ Kc S) ∨ ∃ (a : Addr) (g : Nat → Int32) (S : Nat → Bool) (F : Int), v = some (.ref a) ∧ Sm h0 h Fs ∧ AyI Z h a .boolean nn g ∧ F < 2305843009213693951 ∧ SideK nn Kc sr sk S F ∧ ∀ v, v < nn → g v = if S v = true then 1 else 0
abbrev rm_c_side : Room := { frames := 2, cells := 5, slots := 25, locals := 41 }
set_option maxHeartbeats 40000000 in
theorem c_side (l : Launch) (Z : State) (a0 : Array Value) (hw : ∀ d ∈ tables_1, d.before a0 Z = true) (n0 : Nat) (h0 : Heap) (hn : n0 ≤ h0.size) (o0 : Addr) (xs : Int32) (xt : Int32) (nn : Nat) (kk : Nat) (sr : Nat) (sk : Nat) (Kc : (Nat → Bool) → Int) (Fs : List Addr) (P : MC Z n0 h0 o0 nn kk Kc Fs) (exs : xs = Int32.ofNat sr) (ext : xt = Int32.ofNat sk) (hs : sr < nn) (ht : sk < nn) (hst : sk ≠ sr) :
    Mt l Z (⟨"com/example/ichnos/ichnos/planning/ils/MinCut", "sourceSide", "(II)[Z"⟩ : MethodName) prog_66_method_4_code 11 (some (.array .boolean)) rm_c_side n0 #[(.ref o0), (.int xs), (.int xt)] h0 (Q_c_side Z n0 h0 o0 xs xt nn kk sr sk Kc Fs) := by
  refine met_of (plainFor_of_name pn_1) (Ls := #[.val (.ref o0), .val (.int xs), .val (.int xt), .unset, .unset, .unset, .unset, .unset, .unset, .unset, .unset]) (fun m => by first | (simp [entryFrame, mkF, argsToLocals, Value.category]; done) | rfl) hn ?_
  intro p e s m below meth c T K W
  replace K : Cx p s m meth c Z "com/example/ichnos/ichnos/planning/ils/MinCut" "sourceSide" prog_66_method_4_code 11 (some (.array .boolean)) := K
  generalize eA : (#[(.ref o0), (.int xs), (.int xt)] : Array Value) = args at W
  show Go p e below s n0 (Q_c_side Z n0 h0 o0 xs xt nn kk sr sk Kc Fs) 5 25 T (mkF m 0 #[.val (.ref o0), .val (.int xs), .val (.int xt), .unset, .unset, .unset, .unset, .unset, .unset, .unset, .unset] [])
  subst exs ext
  show Go p e below s n0 (Q_c_side Z n0 h0 o0 (Int32.ofNat sr) (Int32.ofNat sk) nn kk sr sk Kc Fs) 5 25 T (mkF m 0 #[.val (.ref o0), .val (.int (Int32.ofNat sr)), .val (.int (Int32.ofNat sk)), .unset, .unset, .unset, .unset, .unset, .unset, .unset, .unset] [])
  obtain ⟨X_o0, ge_o0, ah, ac, an, af, M, H, Hf, Cf, Nf, Ff, ge_ah, ge_ac, ge_an, ge_af, ne_o0_ah, ne_o0_ac, ne_o0_an, ne_o0_af, ne_ah_ac, ne_ah_an, ne_ah_af, ne_ac_an, ne_ac_af, ne_an_af, F_o0_heads, F_o0_capacities, F_o0_nextOut, F_o0_firstOut, F_o0_nodes, F_o0_edges, A_ah, A_ac, A_an, A_af, gp, hM, cap, hK, fs⟩ := P
  have ne_ah_o0 := Ne.symm ne_o0_ah
  have ne_ac_o0 := Ne.symm ne_o0_ac
  have ne_an_o0 := Ne.symm ne_o0_an
  have ne_af_o0 := Ne.symm ne_o0_af
  have ne_ac_ah := Ne.symm ne_ah_ac
  have ne_an_ah := Ne.symm ne_ah_an
  have ne_af_ah := Ne.symm ne_ah_af
  have ne_an_ac := Ne.symm ne_ac_an
  have ne_af_ac := Ne.symm ne_ac_af
  have ne_af_an := Ne.symm ne_an_af
  have kp := Keep.refl h0 [o0, ah, ac, an, af]
  have gp0 := gp
  obtain ⟨hn5, hk16, hkM, hM32, hH, hHf, hNf, hFf⟩ := gp
  have fi0 : FI nn kk H (Ci Cf) (Ci Cf) sr sk 0 := FI.start (fun e he => (cap e he).1)
  have hC0 : ∀ e, e < 2 * kk → Ci Cf e + Ci Cf (fl e) ≤ 2305843009213693951 := fun e he => (cap e he).2
  have hsm : ∀ h, Keep h0 h [o0, ah, ac, an, af] → Sm h0 h Fs := fun h kp x hx c hc => kp.2.1 x c hc (by have z := fs x hx; simp [z.2.1, z.2.2.1, z.2.2.2.1, z.2.2.2.2.1, z.2.2.2.2.2])
  refine g_aloadN K W d11_0 rfl rfl (pc' := 1) rfl ?_
  refine g_getF K W (host := "") (Or.inl (hw _ (List.mem_of_getElem? (i := 17) rfl))) Via.refl F_o0_nodes d11_1 (pc' := 4) rfl (fun T W => ?_)
  refine g_newI K W (ty := .int) (n := nn) (cap := 5) (hw _ (List.mem_of_getElem? (i := 9) rfl)) rfl rfl (own_ofNat (by omega)) hn5 d11_4 (pc' := 6) rfl (by decide) (by decide) (by decide) (fun T h a4 W E ha_a4 ge_a4 A_a4 => ?_)
  have ne_o0_a4 : o0 ≠ a4 := fun q => by have r := X_o0.lt; rw [q, ha_a4] at r; exact Nat.lt_irrefl _ r
  have ne_a4_o0 : a4 ≠ o0 := Ne.symm ne_o0_a4
  have ne_ah_a4 : ah ≠ a4 := fun q => by have r := A_ah.lt; rw [q, ha_a4] at r; exact Nat.lt_irrefl _ r
  have ne_a4_ah : a4 ≠ ah := Ne.symm ne_ah_a4
  have ne_ac_a4 : ac ≠ a4 := fun q => by have r := A_ac.lt; rw [q, ha_a4] at r; exact Nat.lt_irrefl _ r
  have ne_a4_ac : a4 ≠ ac := Ne.symm ne_ac_a4
  have ne_an_a4 : an ≠ a4 := fun q => by have r := A_an.lt; rw [q, ha_a4] at r; exact Nat.lt_irrefl _ r
  have ne_a4_an : a4 ≠ an := Ne.symm ne_an_a4
  have ne_af_a4 : af ≠ a4 := fun q => by have r := A_af.lt; rw [q, ha_a4] at r; exact Nat.lt_irrefl _ r
  have ne_a4_af : a4 ≠ af := Ne.symm ne_af_a4
  have sz_a4 : h0.size ≤ a4 := by rw [ha_a4]; exact kp.1
  have kp := kp.ext E
  have X_o0 := X_o0.ext E
  have F_o0_heads := F_o0_heads.ext E
  have F_o0_capacities := F_o0_capacities.ext E
  have F_o0_nextOut := F_o0_nextOut.ext E
  have F_o0_firstOut := F_o0_firstOut.ext E
  have F_o0_nodes := F_o0_nodes.ext E
  have F_o0_edges := F_o0_edges.ext E
  have A_ah := A_ah.ext E
  have A_ac := A_ac.ext E
  have A_an := A_an.ext E
  have A_af := A_af.ext E
  refine g_astoreN K W d11_6 rfl (Ls' := #[.val (.ref o0), .val (.int (Int32.ofNat sr)), .val (.int (Int32.ofNat sk)), .val (.ref a4), .unset, .unset, .unset, .unset, .unset, .unset, .unset]) rfl (pc' := 7) rfl ?_
  refine g_aloadN K W d11_7 rfl rfl (pc' := 8) rfl ?_
  refine g_getF K W (host := "") (Or.inl (hw _ (List.mem_of_getElem? (i := 17) rfl))) Via.refl F_o0_nodes d11_8 (pc' := 11) rfl (fun T W => ?_)
  refine g_newI K W (ty := .int) (n := nn) (cap := 5) (hw _ (List.mem_of_getElem? (i := 9) rfl)) rfl rfl (own_ofNat (by omega)) hn5 d11_11 (pc' := 13) rfl (by decide) (by decide) (by decide) (fun T h a11 W E ha_a11 ge_a11 A_a11 => ?_)
  have ne_o0_a11 : o0 ≠ a11 := fun q => by have r := X_o0.lt; rw [q, ha_a11] at r; exact Nat.lt_irrefl _ r
  have ne_a11_o0 : a11 ≠ o0 := Ne.symm ne_o0_a11
  have ne_ah_a11 : ah ≠ a11 := fun q => by have r := A_ah.lt; rw [q, ha_a11] at r; exact Nat.lt_irrefl _ r
  have ne_a11_ah : a11 ≠ ah := Ne.symm ne_ah_a11
  have ne_ac_a11 : ac ≠ a11 := fun q => by have r := A_ac.lt; rw [q, ha_a11] at r; exact Nat.lt_irrefl _ r
  have ne_a11_ac : a11 ≠ ac := Ne.symm ne_ac_a11
  have ne_an_a11 : an ≠ a11 := fun q => by have r := A_an.lt; rw [q, ha_a11] at r; exact Nat.lt_irrefl _ r
  have ne_a11_an : a11 ≠ an := Ne.symm ne_an_a11
  have ne_af_a11 : af ≠ a11 := fun q => by have r := A_af.lt; rw [q, ha_a11] at r; exact Nat.lt_irrefl _ r
  have ne_a11_af : a11 ≠ af := Ne.symm ne_af_a11
  have ne_a4_a11 : a4 ≠ a11 := fun q => by have r := A_a4.lt; rw [q, ha_a11] at r; exact Nat.lt_irrefl _ r
  have ne_a11_a4 : a11 ≠ a4 := Ne.symm ne_a4_a11
  have sz_a11 : h0.size ≤ a11 := by rw [ha_a11]; exact kp.1
  have kp := kp.ext E
  have X_o0 := X_o0.ext E
  have F_o0_heads := F_o0_heads.ext E
  have F_o0_capacities := F_o0_capacities.ext E
  have F_o0_nextOut := F_o0_nextOut.ext E
  have F_o0_firstOut := F_o0_firstOut.ext E
  have F_o0_nodes := F_o0_nodes.ext E
  have F_o0_edges := F_o0_edges.ext E
  have A_ah := A_ah.ext E
  have A_ac := A_ac.ext E
  have A_an := A_an.ext E
  have A_af := A_af.ext E
  have A_a4 := A_a4.ext E
  refine g_astore K W d11_13 rfl (Ls' := #[.val (.ref o0), .val (.int (Int32.ofNat sr)), .val (.int (Int32.ofNat sk)), .val (.ref a4), .val (.ref a11), .unset, .unset, .unset, .unset, .unset, .unset]) rfl (pc' := 15) rfl ?_
  refine g_aloadN K W d11_15 rfl rfl (pc' := 16) rfl ?_
  refine g_getF K W (host := "") (Or.inl (hw _ (List.mem_of_getElem? (i := 17) rfl))) Via.refl F_o0_nodes d11_16 (pc' := 19) rfl (fun T W => ?_)
  refine g_newI K W (ty := .int) (n := nn) (cap := 5) (hw _ (List.mem_of_getElem? (i := 9) rfl)) rfl rfl (own_ofNat (by omega)) hn5 d11_19 (pc' := 21) rfl (by decide) (by decide) (by decide) (fun T h a19 W E ha_a19 ge_a19 A_a19 => ?_)
  have ne_o0_a19 : o0 ≠ a19 := fun q => by have r := X_o0.lt; rw [q, ha_a19] at r; exact Nat.lt_irrefl _ r
  have ne_a19_o0 : a19 ≠ o0 := Ne.symm ne_o0_a19
  have ne_ah_a19 : ah ≠ a19 := fun q => by have r := A_ah.lt; rw [q, ha_a19] at r; exact Nat.lt_irrefl _ r
  have ne_a19_ah : a19 ≠ ah := Ne.symm ne_ah_a19
  have ne_ac_a19 : ac ≠ a19 := fun q => by have r := A_ac.lt; rw [q, ha_a19] at r; exact Nat.lt_irrefl _ r
  have ne_a19_ac : a19 ≠ ac := Ne.symm ne_ac_a19
  have ne_an_a19 : an ≠ a19 := fun q => by have r := A_an.lt; rw [q, ha_a19] at r; exact Nat.lt_irrefl _ r
  have ne_a19_an : a19 ≠ an := Ne.symm ne_an_a19
  have ne_af_a19 : af ≠ a19 := fun q => by have r := A_af.lt; rw [q, ha_a19] at r; exact Nat.lt_irrefl _ r
  have ne_a19_af : a19 ≠ af := Ne.symm ne_af_a19
  have ne_a4_a19 : a4 ≠ a19 := fun q => by have r := A_a4.lt; rw [q, ha_a19] at r; exact Nat.lt_irrefl _ r
  have ne_a19_a4 : a19 ≠ a4 := Ne.symm ne_a4_a19
  have ne_a11_a19 : a11 ≠ a19 := fun q => by have r := A_a11.lt; rw [q, ha_a19] at r; exact Nat.lt_irrefl _ r
  have ne_a19_a11 : a19 ≠ a11 := Ne.symm ne_a11_a19
  have sz_a19 : h0.size ≤ a19 := by rw [ha_a19]; exact kp.1
  have kp := kp.ext E
  have X_o0 := X_o0.ext E
  have F_o0_heads := F_o0_heads.ext E
  have F_o0_capacities := F_o0_capacities.ext E
  have F_o0_nextOut := F_o0_nextOut.ext E
  have F_o0_firstOut := F_o0_firstOut.ext E
  have F_o0_nodes := F_o0_nodes.ext E
  have F_o0_edges := F_o0_edges.ext E
  have A_ah := A_ah.ext E
  have A_ac := A_ac.ext E
  have A_an := A_an.ext E
  have A_af := A_af.ext E
  have A_a4 := A_a4.ext E
  have A_a11 := A_a11.ext E
  refine g_astore K W d11_21 rfl (Ls' := #[.val (.ref o0), .val (.int (Int32.ofNat sr)), .val (.int (Int32.ofNat sk)), .val (.ref a4), .val (.ref a11), .val (.ref a19), .unset, .unset, .unset, .unset, .unset]) rfl (pc' := 23) rfl ?_
  refine g_aloadN K W d11_23 rfl rfl (pc' := 24) rfl ?_
  refine g_getF K W (host := "") (Or.inl (hw _ (List.mem_of_getElem? (i := 17) rfl))) Via.refl F_o0_nodes d11_24 (pc' := 27) rfl (fun T W => ?_)
  refine g_newI K W (ty := .int) (n := nn) (cap := 5) (hw _ (List.mem_of_getElem? (i := 9) rfl)) rfl rfl (own_ofNat (by omega)) hn5 d11_27 (pc' := 29) rfl (by decide) (by decide) (by decide) (fun T h a27 W E ha_a27 ge_a27 A_a27 => ?_)
  have ne_o0_a27 : o0 ≠ a27 := fun q => by have r := X_o0.lt; rw [q, ha_a27] at r; exact Nat.lt_irrefl _ r
  have ne_a27_o0 : a27 ≠ o0 := Ne.symm ne_o0_a27
  have ne_ah_a27 : ah ≠ a27 := fun q => by have r := A_ah.lt; rw [q, ha_a27] at r; exact Nat.lt_irrefl _ r
  have ne_a27_ah : a27 ≠ ah := Ne.symm ne_ah_a27
  have ne_ac_a27 : ac ≠ a27 := fun q => by have r := A_ac.lt; rw [q, ha_a27] at r; exact Nat.lt_irrefl _ r
  have ne_a27_ac : a27 ≠ ac := Ne.symm ne_ac_a27
  have ne_an_a27 : an ≠ a27 := fun q => by have r := A_an.lt; rw [q, ha_a27] at r; exact Nat.lt_irrefl _ r
  have ne_a27_an : a27 ≠ an := Ne.symm ne_an_a27
  have ne_af_a27 : af ≠ a27 := fun q => by have r := A_af.lt; rw [q, ha_a27] at r; exact Nat.lt_irrefl _ r
  have ne_a27_af : a27 ≠ af := Ne.symm ne_af_a27
  have ne_a4_a27 : a4 ≠ a27 := fun q => by have r := A_a4.lt; rw [q, ha_a27] at r; exact Nat.lt_irrefl _ r
  have ne_a27_a4 : a27 ≠ a4 := Ne.symm ne_a4_a27
  have ne_a11_a27 : a11 ≠ a27 := fun q => by have r := A_a11.lt; rw [q, ha_a27] at r; exact Nat.lt_irrefl _ r
  have ne_a27_a11 : a27 ≠ a11 := Ne.symm ne_a11_a27
  have ne_a19_a27 : a19 ≠ a27 := fun q => by have r := A_a19.lt; rw [q, ha_a27] at r; exact Nat.lt_irrefl _ r
  have ne_a27_a19 : a27 ≠ a19 := Ne.symm ne_a19_a27
  have sz_a27 : h0.size ≤ a27 := by rw [ha_a27]; exact kp.1
  have kp := kp.ext E
  have X_o0 := X_o0.ext E
  have F_o0_heads := F_o0_heads.ext E
  have F_o0_capacities := F_o0_capacities.ext E
  have F_o0_nextOut := F_o0_nextOut.ext E
  have F_o0_firstOut := F_o0_firstOut.ext E
  have F_o0_nodes := F_o0_nodes.ext E
  have F_o0_edges := F_o0_edges.ext E
  have A_ah := A_ah.ext E
  have A_ac := A_ac.ext E
  have A_an := A_an.ext E
  have A_af := A_af.ext E
  have A_a4 := A_a4.ext E
  have A_a11 := A_a11.ext E
  have A_a19 := A_a19.ext E
  refine g_astore K W d11_29 rfl (Ls' := #[.val (.ref o0), .val (.int (Int32.ofNat sr)), .val (.int (Int32.ofNat sk)), .val (.ref a4), .val (.ref a11), .val (.ref a19), .val (.ref a27), .unset, .unset, .unset, .unset]) rfl (pc' := 31) rfl ?_
  refine g_lconst K W (v := (0 : Int64)) d11_31 rfl (pc' := 32) rfl ?_
  refine g_lstore K W d11_32 (Ls' := #[.val (.ref o0), .val (.int (Int32.ofNat sr)), .val (.int (Int32.ofNat sk)), .val (.ref a4), .val (.ref a11), .val (.ref a19), .val (.ref a27), .val (.long (0 : Int64)), .second, .unset, .unset]) rfl (pc' := 34) rfl ?_
  have loop1 : ∀ (mz : Nat) (x7 : Int64) (Cg : Nat → Int64) (L0 : Nat → Int32) (cu : Nat → Int32) (Q0 : Nat → Int32) (Pf : Nat → Int32) (s9 : Slot) (s10 : Slot) (T : State) (h : Heap), (2305843009213693951 - x7.toInt).toNat = mz → 0 ≤ x7.toInt → x7.toInt < 2305843009213693951 → FI nn kk H (Ci Cf) (Ci Cg) sr sk x7.toInt → ((s9 = .unset ∧ s10 = .unset) ∨ ∃ z : Int64, s9 = .val (.long z) ∧ s10 = .second) → Exa Z h o0 "com/example/ichnos/ichnos/planning/ils/MinCut" → Fld Z h o0 "com/example/ichnos/ichnos/planning/ils/MinCut" "heads" "[I" (.ref ah) → Fld Z h o0 "com/example/ichnos/ichnos/planning/ils/MinCut" "capacities" "[J" (.ref ac) → Fld Z h o0 "com/example/ichnos/ichnos/planning/ils/MinCut" "nextOut" "[I" (.ref an) → Fld Z h o0 "com/example/ichnos/ichnos/planning/ils/MinCut" "firstOut" "[I" (.ref af) → Fld Z h o0 "com/example/ichnos/ichnos/planning/ils/MinCut" "nodes" "I" (.int (Int32.ofNat nn)) → Fld Z h o0 "com/example/ichnos/ichnos/planning/ils/MinCut" "edges" "I" (.int (Int32.ofNat (2 * kk))) → AyI Z h ah .int M Hf → AyJ Z h ac M Cg → AyI Z h an .int M Nf → AyI Z h af .int nn Ff → AyI Z h a4 .int nn L0 → AyI Z h a11 .int nn cu → AyI Z h a19 .int nn Q0 → AyI Z h a27 .int nn Pf → Keep h0 h [o0, ah, ac, an, af] → Wd p l e rm_c_side s m args below meth c n0 T h 4 20 → Go p e below s n0 (Q_c_side Z n0 h0 o0 (Int32.ofNat sr) (Int32.ofNat sk) nn kk sr sk Kc Fs) 5 25 T (mkF m 34 #[.val (.ref o0), .val (.int (Int32.ofNat sr)), .val (.int (Int32.ofNat sk)), .val (.ref a4), .val (.ref a11), .val (.ref a19), .val (.ref a27), .val (.long x7), .second, s9, s10] []) := by
    intro mz
    induction mz using Nat.strongRecOn with
    | ind mz ih =>
      intro x7 Cg L0 cu Q0 Pf s9 s10 T h hm h70 h7I fi hs_s9 X_o0 F_o0_heads F_o0_capacities F_o0_nextOut F_o0_firstOut F_o0_nodes F_o0_edges A_ah A_ac A_an A_af A_a4 A_a11 A_a19 A_a27 kp W
      have ih0 := ih
      refine g_aloadN K W d11_34 rfl rfl (pc' := 35) rfl ?_
      refine g_iloadN K W d11_35 rfl (pc' := 36) rfl ?_
      refine g_iloadN K W d11_36 rfl (pc' := 37) rfl ?_
      refine g_aloadN K W d11_37 rfl rfl (pc' := 38) rfl ?_
      refine g_aload K W d11_38 rfl rfl (pc' := 40) rfl ?_
      refine g_callP (c_level l Z a0 hw n0 _ W.sz o0 (Int32.ofNat sr) (Int32.ofNat sk) a4 a19 ah ac an af nn kk M H Hf Cg Nf Ff sr sk L0 Q0 X_o0 F_o0_heads F_o0_capacities F_o0_nextOut F_o0_firstOut F_o0_nodes A_ah A_ac A_an A_af A_a4 A_a19 ge_a4 ge_a19 ne_o0_a4 ne_o0_a19 ne_ah_a4 ne_ah_a19 ne_ac_a4 ne_ac_a19 ne_an_a4 ne_an_a19 ne_af_a4 ne_af_a19 ne_a4_a19 ne_a19_a4 rfl rfl hs ht gp0) K W X_o0.cell (hw _ (List.mem_of_getElem? (i := 67) rfl)) (hw _ (List.mem_of_getElem? (i := 68) rfl)) (hw _ (List.mem_of_getElem? (i := 1) rfl)) (hw _ (List.mem_of_getElem? (i := 69) rfl)) (hw _ (List.mem_of_getElem? (i := 2) rfl)) (hw _ (List.mem_of_getElem? (i := 70) rfl)) (by decide) (lenOf pd_3 rfl) d11_40 (pc' := 43) rfl (argsL := [(.int (Int32.ofNat sr)), (.int (Int32.ofNat sk)), (.ref a4), (.ref a19)]) (rest := []) rfl rfl (by decide) (wt := 0) rfl (by decide) (by decide) (by decide) ?_
      rintro T h _ W (⟨rfl, Lf, Qf, A_a4, A_a19, kq, lv, hsk⟩ | ⟨rfl, Lf, Qf, A_a4, A_a19, kq, lv, hsk⟩)
      · show Go p e below s n0 (Q_c_side Z n0 h0 o0 (Int32.ofNat sr) (Int32.ofNat sk) nn kk sr sk Kc Fs) 5 25 T (mkF m 43 #[.val (.ref o0), .val (.int (Int32.ofNat sr)), .val (.int (Int32.ofNat sk)), .val (.ref a4), .val (.ref a11), .val (.ref a19), .val (.ref a27), .val (.long x7), .second, s9, s10] [(.int (1 : Int32))])
        have kp := kp.trans kq (allS (Or.inr sz_a4) (allS (Or.inr sz_a19) all0))
        have X_o0 := X_o0.keep kq
        have F_o0_heads := F_o0_heads.keep kq (ninS ne_o0_a4 (ninS ne_o0_a19 nin0))
        have F_o0_capacities := F_o0_capacities.keep kq (ninS ne_o0_a4 (ninS ne_o0_a19 nin0))
        have F_o0_nextOut := F_o0_nextOut.keep kq (ninS ne_o0_a4 (ninS ne_o0_a19 nin0))
        have F_o0_firstOut := F_o0_firstOut.keep kq (ninS ne_o0_a4 (ninS ne_o0_a19 nin0))
        have F_o0_nodes := F_o0_nodes.keep kq (ninS ne_o0_a4 (ninS ne_o0_a19 nin0))
        have F_o0_edges := F_o0_edges.keep kq (ninS ne_o0_a4 (ninS ne_o0_a19 nin0))
        have A_ah := A_ah.keep kq (ninS ne_ah_a4 (ninS ne_ah_a19 nin0))
        have A_ac := A_ac.keep kq (ninS ne_ac_a4 (ninS ne_ac_a19 nin0))
        have A_an := A_an.keep kq (ninS ne_an_a4 (ninS ne_an_a19 nin0))
        have A_af := A_af.keep kq (ninS ne_af_a4 (ninS ne_af_a19 nin0))
        have A_a11 := A_a11.keep kq (ninS ne_a11_a4 (ninS ne_a11_a19 nin0))
        have A_a27 := A_a27.keep kq (ninS ne_a27_a4 (ninS ne_a27_a19 nin0))
        refine g_if_eq K W d11_43 (pt := 118) rfl (pf := 46) rfl (fun hc43 => absurd hc43 (by decide)) (fun hc43 => ?_)
        refine g_aloadN K W d11_46 rfl rfl (pc' := 47) rfl ?_
        refine g_getF K W (host := "") (Or.inl (hw _ (List.mem_of_getElem? (i := 19) rfl))) Via.refl F_o0_firstOut d11_47 (pc' := 50) rfl (fun T W => ?_)
        refine g_iconst K W (v := (0 : Int32)) d11_50 rfl (pc' := 51) rfl ?_
        refine g_aload K W d11_51 rfl rfl (pc' := 53) rfl ?_
        refine g_iconst K W (v := (0 : Int32)) d11_53 rfl (pc' := 54) rfl ?_
        refine g_aloadN K W d11_54 rfl rfl (pc' := 55) rfl ?_
        refine g_getF K W (host := "") (Or.inl (hw _ (List.mem_of_getElem? (i := 17) rfl))) Via.refl F_o0_nodes d11_55 (pc' := 58) rfl (fun T W => ?_)
        refine g_cpI K W (hw _ (List.mem_of_getElem? (i := 72) rfl)) (hw _ (List.mem_of_getElem? (i := 58) rfl)) (hw _ (List.mem_of_getElem? (i := 56) rfl)) (hw _ (List.mem_of_getElem? (i := 57) rfl)) A_af A_a11 (by omega) (by omega) (len := nn) (own_ofNat (by omega)) (Nat.le_refl _) (Nat.le_refl _) ge_a11 rfl d11_58 (pc' := 61) rfl (by decide) (wt := 0) rfl (by decide) (fun T h W kq N_A_a11 => ?_)
        have kp := kp.trans kq (allS (Or.inr sz_a11) all0)
        have X_o0 := X_o0.keep kq
        have F_o0_heads := F_o0_heads.keep kq (ninS ne_o0_a11 nin0)
        have F_o0_capacities := F_o0_capacities.keep kq (ninS ne_o0_a11 nin0)
        have F_o0_nextOut := F_o0_nextOut.keep kq (ninS ne_o0_a11 nin0)
        have F_o0_firstOut := F_o0_firstOut.keep kq (ninS ne_o0_a11 nin0)
        have F_o0_nodes := F_o0_nodes.keep kq (ninS ne_o0_a11 nin0)
        have F_o0_edges := F_o0_edges.keep kq (ninS ne_o0_a11 nin0)
        have A_ah := A_ah.keep kq (ninS ne_ah_a11 nin0)
        have A_ac := A_ac.keep kq (ninS ne_ac_a11 nin0)
        have A_an := A_an.keep kq (ninS ne_an_a11 nin0)
        have A_af := A_af.keep kq (ninS ne_af_a11 nin0)
        have A_a4 := A_a4.keep kq (ninS ne_a4_a11 nin0)
        have A_a19 := A_a19.keep kq (ninS ne_a19_a11 nin0)
        have A_a27 := A_a27.keep kq (ninS ne_a27_a11 nin0)
        have A_a11 := N_A_a11
        refine g_aloadN K W d11_61 rfl rfl (pc' := 62) rfl ?_
        refine g_iloadN K W d11_62 rfl (pc' := 63) rfl ?_
        refine g_iloadN K W d11_63 rfl (pc' := 64) rfl ?_
        refine g_aloadN K W d11_64 rfl rfl (pc' := 65) rfl ?_
        refine g_aload K W d11_65 rfl rfl (pc' := 67) rfl ?_
        refine g_aload K W d11_67 rfl rfl (pc' := 69) rfl ?_
        obtain ⟨E, pi, hE0⟩ := lv.road hH ht (by omega) hst
        refine g_callP (c_push l Z a0 hw n0 _ W.sz o0 (Int32.ofNat sr) (Int32.ofNat sk) a4 a11 a27 ah ac an af nn kk M H Hf Cg Nf Ff sr sk Lf (fun j => if j < nn then Ff j else cu j) Pf (Ci Cf) x7.toInt (fun _ => 2 * kk) E X_o0 F_o0_heads F_o0_capacities F_o0_nextOut F_o0_firstOut F_o0_nodes A_ah A_ac A_an A_af A_a4 A_a11 A_a27 ge_ac ge_a11 ge_a27 ne_o0_ac ne_o0_a11 ne_o0_a27 ne_ah_ac ne_ah_a11 ne_ah_a27 ne_ac_a11 ne_ac_a27 ne_an_ac ne_an_a11 ne_an_a27 ne_af_ac ne_af_a11 ne_af_a27 ne_a4_ac ne_a4_a11 ne_a4_a27 ne_a11_ac ne_a11_a27 ne_a27_ac ne_a27_a11 rfl rfl hs ht gp0 lv.1 lv.2.1 fi hC0 (fun v hv => ⟨Nat.le_refl _, by show (if v < nn then Ff v else cu v).toInt = _; rw [if_pos hv]; exact hFf v hv⟩) pi (fun e he => (pi e he).1)) K W X_o0.cell (hw _ (List.mem_of_getElem? (i := 73) rfl)) (hw _ (List.mem_of_getElem? (i := 74) rfl)) (hw _ (List.mem_of_getElem? (i := 1) rfl)) (hw _ (List.mem_of_getElem? (i := 75) rfl)) (hw _ (List.mem_of_getElem? (i := 2) rfl)) (hw _ (List.mem_of_getElem? (i := 76) rfl)) (by decide) (lenOf pd_4 rfl) d11_69 (pc' := 72) rfl (argsL := [(.int (Int32.ofNat sr)), (.int (Int32.ofNat sk)), (.ref a4), (.ref a11), (.ref a27)]) (rest := []) rfl rfl (by decide) (wt := 0) rfl (by decide) (by decide) (by decide) ?_
        rintro T h _ W ⟨x9, Cg, cu, Pf, b, rfl, kq, A_ac, A_a11, A_a27, hp0, hpI, fi, hb, hpp⟩
        show Go p e below s n0 (Q_c_side Z n0 h0 o0 (Int32.ofNat sr) (Int32.ofNat sk) nn kk sr sk Kc Fs) 5 25 T (mkF m 72 #[.val (.ref o0), .val (.int (Int32.ofNat sr)), .val (.int (Int32.ofNat sk)), .val (.ref a4), .val (.ref a11), .val (.ref a19), .val (.ref a27), .val (.long x7), .second, s9, s10] [(.long x9)])
        have kp := kp.trans kq (allS (Or.inl (List.mem_of_getElem? (i := 2) rfl)) (allS (Or.inr sz_a11) (allS (Or.inr sz_a27) all0)))
        have X_o0 := X_o0.keep kq
        have F_o0_heads := F_o0_heads.keep kq (ninS ne_o0_ac (ninS ne_o0_a11 (ninS ne_o0_a27 nin0)))
        have F_o0_capacities := F_o0_capacities.keep kq (ninS ne_o0_ac (ninS ne_o0_a11 (ninS ne_o0_a27 nin0)))
        have F_o0_nextOut := F_o0_nextOut.keep kq (ninS ne_o0_ac (ninS ne_o0_a11 (ninS ne_o0_a27 nin0)))
        have F_o0_firstOut := F_o0_firstOut.keep kq (ninS ne_o0_ac (ninS ne_o0_a11 (ninS ne_o0_a27 nin0)))
        have F_o0_nodes := F_o0_nodes.keep kq (ninS ne_o0_ac (ninS ne_o0_a11 (ninS ne_o0_a27 nin0)))
        have F_o0_edges := F_o0_edges.keep kq (ninS ne_o0_ac (ninS ne_o0_a11 (ninS ne_o0_a27 nin0)))
        have A_ah := A_ah.keep kq (ninS ne_ah_ac (ninS ne_ah_a11 (ninS ne_ah_a27 nin0)))
        have A_an := A_an.keep kq (ninS ne_an_ac (ninS ne_an_a11 (ninS ne_an_a27 nin0)))
        have A_af := A_af.keep kq (ninS ne_af_ac (ninS ne_af_a11 (ninS ne_af_a27 nin0)))
        have A_a4 := A_a4.keep kq (ninS ne_a4_ac (ninS ne_a4_a11 (ninS ne_a4_a27 nin0)))
        have A_a19 := A_a19.keep kq (ninS ne_a19_ac (ninS ne_a19_a11 (ninS ne_a19_a27 nin0)))
        refine g_lstore K W d11_72 (Ls' := #[.val (.ref o0), .val (.int (Int32.ofNat sr)), .val (.int (Int32.ofNat sk)), .val (.ref a4), .val (.ref a11), .val (.ref a19), .val (.ref a27), .val (.long x7), .second, .val (.long x9), .second]) (by rcases hs_s9 with ⟨rfl, rfl⟩ | ⟨z, rfl, rfl⟩ <;> rfl) (pc' := 74) rfl ?_
        have loop2 : ∀ (my : Nat) (x7b : Int64) (x9 : Int64) (Cg : Nat → Int64) (cu : Nat → Int32) (Pf : Nat → Int32) (b : Nat → Nat) (T : State) (h : Heap), (2305843009213693951 - x7b.toInt).toNat = my → 0 ≤ x7b.toInt → x7b.toInt < 2305843009213693951 → 0 ≤ x9.toInt → x9.toInt ≤ 2305843009213693951 → x7.toInt ≤ x7b.toInt → x7.toInt < x7b.toInt + x9.toInt → FI nn kk H (Ci Cf) (Ci Cg) sr sk (x7b.toInt + x9.toInt) → (∀ v, v < nn → b v ≤ 2 * kk ∧ (cu v).toInt = prv H v (b v)) → Exa Z h o0 "com/example/ichnos/ichnos/planning/ils/MinCut" → Fld Z h o0 "com/example/ichnos/ichnos/planning/ils/MinCut" "heads" "[I" (.ref ah) → Fld Z h o0 "com/example/ichnos/ichnos/planning/ils/MinCut" "capacities" "[J" (.ref ac) → Fld Z h o0 "com/example/ichnos/ichnos/planning/ils/MinCut" "nextOut" "[I" (.ref an) → Fld Z h o0 "com/example/ichnos/ichnos/planning/ils/MinCut" "firstOut" "[I" (.ref af) → Fld Z h o0 "com/example/ichnos/ichnos/planning/ils/MinCut" "nodes" "I" (.int (Int32.ofNat nn)) → Fld Z h o0 "com/example/ichnos/ichnos/planning/ils/MinCut" "edges" "I" (.int (Int32.ofNat (2 * kk))) → AyI Z h ah .int M Hf → AyJ Z h ac M Cg → AyI Z h an .int M Nf → AyI Z h af .int nn Ff → AyI Z h a4 .int nn Lf → AyI Z h a11 .int nn cu → AyI Z h a19 .int nn Qf → AyI Z h a27 .int nn Pf → Keep h0 h [o0, ah, ac, an, af] → Wd p l e rm_c_side s m args below meth c n0 T h 4 20 → Go p e below s n0 (Q_c_side Z n0 h0 o0 (Int32.ofNat sr) (Int32.ofNat sk) nn kk sr sk Kc Fs) 5 25 T (mkF m 74 #[.val (.ref o0), .val (.int (Int32.ofNat sr)), .val (.int (Int32.ofNat sk)), .val (.ref a4), .val (.ref a11), .val (.ref a19), .val (.ref a27), .val (.long x7b), .second, .val (.long x9), .second] []) := by
          intro my
          induction my using Nat.strongRecOn with
          | ind my ih =>
            intro x7b x9 Cg cu Pf b T h hmy h7b0 h7bI h90 h9I hle hlt fi hb X_o0 F_o0_heads F_o0_capacities F_o0_nextOut F_o0_firstOut F_o0_nodes F_o0_edges A_ah A_ac A_an A_af A_a4 A_a11 A_a19 A_a27 kp W
            refine g_lload K W d11_74 rfl (pc' := 76) rfl ?_
            refine g_lconst K W (v := (0 : Int64)) d11_76 rfl (pc' := 77) rfl ?_
            refine g_lcmp_le K W d11_77 (pc1 := 78) rfl d11_78 (pt := 115) rfl (pf := 81) rfl (fun hc77 => ?_) (fun hc77 => ?_)
            · have h9p := (own_lpos x9).mp hc77
              have hadd : (x7b + x9).toInt = x7b.toInt + x9.toInt := own_ladd h7b0 h90 (by omega)
              refine g_lload K W d11_81 rfl (pc' := 83) rfl ?_
              refine g_lload K W d11_83 rfl (pc' := 85) rfl ?_
              refine g_ladd K W d11_85 (pc' := 86) rfl ?_
              refine g_lstore K W d11_86 (Ls' := #[.val (.ref o0), .val (.int (Int32.ofNat sr)), .val (.int (Int32.ofNat sk)), .val (.ref a4), .val (.ref a11), .val (.ref a19), .val (.ref a27), .val (.long (x7b + x9)), .second, .val (.long x9), .second]) rfl (pc' := 88) rfl ?_
              refine g_lload K W d11_88 rfl (pc' := 90) rfl ?_
              refine g_ldc2 K W (v := (2305843009213693951 : Int64)) (hw _ (List.mem_of_getElem? (i := 38) rfl)) d11_90 (pc' := 93) rfl ?_
              refine g_lcmp_lt K W d11_93 (pc1 := 94) rfl d11_94 (pt := 99) rfl (pf := 97) rfl (fun hc93 => ?_) (fun hc93 => ?_)
              · have h7n : (x7b + x9).toInt < 2305843009213693951 := Int64.lt_iff_toInt_lt.mp hc93
                refine g_aloadN K W d11_99 rfl rfl (pc' := 100) rfl ?_
                refine g_iloadN K W d11_100 rfl (pc' := 101) rfl ?_
                refine g_iloadN K W d11_101 rfl (pc' := 102) rfl ?_
                refine g_aloadN K W d11_102 rfl rfl (pc' := 103) rfl ?_
                refine g_aload K W d11_103 rfl rfl (pc' := 105) rfl ?_
                refine g_aload K W d11_105 rfl rfl (pc' := 107) rfl ?_
                refine g_callP (c_push l Z a0 hw n0 _ W.sz o0 (Int32.ofNat sr) (Int32.ofNat sk) a4 a11 a27 ah ac an af nn kk M H Hf Cg Nf Ff sr sk Lf cu Pf (Ci Cf) (x7b.toInt + x9.toInt) b (fun _ => False) X_o0 F_o0_heads F_o0_capacities F_o0_nextOut F_o0_firstOut F_o0_nodes A_ah A_ac A_an A_af A_a4 A_a11 A_a27 ge_ac ge_a11 ge_a27 ne_o0_ac ne_o0_a11 ne_o0_a27 ne_ah_ac ne_ah_a11 ne_ah_a27 ne_ac_a11 ne_ac_a27 ne_an_ac ne_an_a11 ne_an_a27 ne_af_ac ne_af_a11 ne_af_a27 ne_a4_ac ne_a4_a11 ne_a4_a27 ne_a11_ac ne_a11_a27 ne_a27_ac ne_a27_a11 rfl rfl hs ht gp0 lv.1 lv.2.1 fi hC0 hb (PiC.none _ _ _ _ _) (fun _ z => z.elim)) K W X_o0.cell (hw _ (List.mem_of_getElem? (i := 73) rfl)) (hw _ (List.mem_of_getElem? (i := 74) rfl)) (hw _ (List.mem_of_getElem? (i := 1) rfl)) (hw _ (List.mem_of_getElem? (i := 75) rfl)) (hw _ (List.mem_of_getElem? (i := 2) rfl)) (hw _ (List.mem_of_getElem? (i := 76) rfl)) (by decide) (lenOf pd_4 rfl) d11_107 (pc' := 110) rfl (argsL := [(.int (Int32.ofNat sr)), (.int (Int32.ofNat sk)), (.ref a4), (.ref a11), (.ref a27)]) (rest := []) rfl rfl (by decide) (wt := 0) rfl (by decide) (by decide) (by decide) ?_
                rintro T h _ W ⟨x9n, Cg, cu, Pf, b, rfl, kq, A_ac, A_a11, A_a27, hp0, hpI, fi, hb, hpp⟩
                show Go p e below s n0 (Q_c_side Z n0 h0 o0 (Int32.ofNat sr) (Int32.ofNat sk) nn kk sr sk Kc Fs) 5 25 T (mkF m 110 #[.val (.ref o0), .val (.int (Int32.ofNat sr)), .val (.int (Int32.ofNat sk)), .val (.ref a4), .val (.ref a11), .val (.ref a19), .val (.ref a27), .val (.long (x7b + x9)), .second, .val (.long x9), .second] [(.long x9n)])
                have kp := kp.trans kq (allS (Or.inl (List.mem_of_getElem? (i := 2) rfl)) (allS (Or.inr sz_a11) (allS (Or.inr sz_a27) all0)))
                have X_o0 := X_o0.keep kq
                have F_o0_heads := F_o0_heads.keep kq (ninS ne_o0_ac (ninS ne_o0_a11 (ninS ne_o0_a27 nin0)))
                have F_o0_capacities := F_o0_capacities.keep kq (ninS ne_o0_ac (ninS ne_o0_a11 (ninS ne_o0_a27 nin0)))
                have F_o0_nextOut := F_o0_nextOut.keep kq (ninS ne_o0_ac (ninS ne_o0_a11 (ninS ne_o0_a27 nin0)))
                have F_o0_firstOut := F_o0_firstOut.keep kq (ninS ne_o0_ac (ninS ne_o0_a11 (ninS ne_o0_a27 nin0)))
                have F_o0_nodes := F_o0_nodes.keep kq (ninS ne_o0_ac (ninS ne_o0_a11 (ninS ne_o0_a27 nin0)))
                have F_o0_edges := F_o0_edges.keep kq (ninS ne_o0_ac (ninS ne_o0_a11 (ninS ne_o0_a27 nin0)))
                have A_ah := A_ah.keep kq (ninS ne_ah_ac (ninS ne_ah_a11 (ninS ne_ah_a27 nin0)))
                have A_an := A_an.keep kq (ninS ne_an_ac (ninS ne_an_a11 (ninS ne_an_a27 nin0)))
                have A_af := A_af.keep kq (ninS ne_af_ac (ninS ne_af_a11 (ninS ne_af_a27 nin0)))
                have A_a4 := A_a4.keep kq (ninS ne_a4_ac (ninS ne_a4_a11 (ninS ne_a4_a27 nin0)))
                have A_a19 := A_a19.keep kq (ninS ne_a19_ac (ninS ne_a19_a11 (ninS ne_a19_a27 nin0)))
                refine g_lstore K W d11_110 (Ls' := #[.val (.ref o0), .val (.int (Int32.ofNat sr)), .val (.int (Int32.ofNat sk)), .val (.ref a4), .val (.ref a11), .val (.ref a19), .val (.ref a27), .val (.long (x7b + x9)), .second, .val (.long x9n), .second]) rfl (pc' := 112) rfl ?_
                refine g_goto K W d11_112 (pt := 74) rfl ?_
                exact ih (2305843009213693951 - (x7b + x9).toInt).toNat (by omega) (x7b + x9) x9n Cg cu Pf b T h rfl (by omega) h7n hp0 hpI (by omega) (by omega) (by rw [hadd]; exact fi) hb X_o0 F_o0_heads F_o0_capacities F_o0_nextOut F_o0_firstOut F_o0_nodes F_o0_edges A_ah A_ac A_an A_af A_a4 A_a11 A_a19 A_a27 kp W
              · have h7n : ¬ (x7b + x9).toInt < 2305843009213693951 := fun z => hc93 (Int64.lt_iff_toInt_lt.mpr z)
                refine g_null K W d11_97 (pc' := 98) rfl ?_
                exact g_retA K W rfl rfl rfl d11_98 (by decide) (by decide) (Or.inl ⟨rfl, hsm _ kp, fun S h1 h2 => by have z := fi.le hH hs ht h1 h2; rw [hK S]; omega⟩)
            · refine g_goto K W d11_115 (pt := 34) rfl ?_
              have hx90 : x9.toInt = 0 := by have := (not_congr (own_lpos x9)).mp hc77; omega
              rw [hx90, Int.add_zero] at fi
              exact ih0 (2305843009213693951 - x7b.toInt).toNat (by omega) x7b Cg Lf cu Qf Pf _ _ T h rfl (by omega) (by omega) fi (Or.inr ⟨_, rfl, rfl⟩) X_o0 F_o0_heads F_o0_capacities F_o0_nextOut F_o0_firstOut F_o0_nodes F_o0_edges A_ah A_ac A_an A_af A_a4 A_a11 A_a19 A_a27 kp W
        have hp1 := hpp hE0
        exact loop2 _ x7 x9 Cg cu Pf b T h rfl h70 h7I hp0 hpI (Int.le_refl _) (by omega) fi hb X_o0 F_o0_heads F_o0_capacities F_o0_nextOut F_o0_firstOut F_o0_nodes F_o0_edges A_ah A_ac A_an A_af A_a4 A_a11 A_a19 A_a27 kp W
      · show Go p e below s n0 (Q_c_side Z n0 h0 o0 (Int32.ofNat sr) (Int32.ofNat sk) nn kk sr sk Kc Fs) 5 25 T (mkF m 43 #[.val (.ref o0), .val (.int (Int32.ofNat sr)), .val (.int (Int32.ofNat sk)), .val (.ref a4), .val (.ref a11), .val (.ref a19), .val (.ref a27), .val (.long x7), .second, s9, s10] [(.int (0 : Int32))])
        have kp := kp.trans kq (allS (Or.inr sz_a4) (allS (Or.inr sz_a19) all0))
        have X_o0 := X_o0.keep kq
        have F_o0_heads := F_o0_heads.keep kq (ninS ne_o0_a4 (ninS ne_o0_a19 nin0))
        have F_o0_capacities := F_o0_capacities.keep kq (ninS ne_o0_a4 (ninS ne_o0_a19 nin0))
        have F_o0_nextOut := F_o0_nextOut.keep kq (ninS ne_o0_a4 (ninS ne_o0_a19 nin0))
        have F_o0_firstOut := F_o0_firstOut.keep kq (ninS ne_o0_a4 (ninS ne_o0_a19 nin0))
        have F_o0_nodes := F_o0_nodes.keep kq (ninS ne_o0_a4 (ninS ne_o0_a19 nin0))
        have F_o0_edges := F_o0_edges.keep kq (ninS ne_o0_a4 (ninS ne_o0_a19 nin0))
        have A_ah := A_ah.keep kq (ninS ne_ah_a4 (ninS ne_ah_a19 nin0))
        have A_ac := A_ac.keep kq (ninS ne_ac_a4 (ninS ne_ac_a19 nin0))
        have A_an := A_an.keep kq (ninS ne_an_a4 (ninS ne_an_a19 nin0))
        have A_af := A_af.keep kq (ninS ne_af_a4 (ninS ne_af_a19 nin0))
        have A_a11 := A_a11.keep kq (ninS ne_a11_a4 (ninS ne_a11_a19 nin0))
        have A_a27 := A_a27.keep kq (ninS ne_a27_a4 (ninS ne_a27_a19 nin0))
        refine g_if_eq K W d11_43 (pt := 118) rfl (pf := 46) rfl (fun hc43 => ?_) (fun hc43 => absurd rfl hc43)
        refine g_aloadN K W d11_118 rfl rfl (pc' := 119) rfl ?_
        refine g_getF K W (host := "") (Or.inl (hw _ (List.mem_of_getElem? (i := 17) rfl))) Via.refl F_o0_nodes d11_119 (pc' := 122) rfl (fun T W => ?_)
        refine g_newI K W (ty := .boolean) (n := nn) (cap := 5) (hw _ (List.mem_of_getElem? (i := 71) rfl)) rfl rfl (own_ofNat (by omega)) hn5 d11_122 (pc' := 124) rfl (by decide) (by decide) (by decide) (fun T h a122 W E ha_a122 ge_a122 A_a122 => ?_)
        have ne_o0_a122 : o0 ≠ a122 := fun q => by have r := X_o0.lt; rw [q, ha_a122] at r; exact Nat.lt_irrefl _ r
        have ne_a122_o0 : a122 ≠ o0 := Ne.symm ne_o0_a122
        have ne_ah_a122 : ah ≠ a122 := fun q => by have r := A_ah.lt; rw [q, ha_a122] at r; exact Nat.lt_irrefl _ r
        have ne_a122_ah : a122 ≠ ah := Ne.symm ne_ah_a122
        have ne_ac_a122 : ac ≠ a122 := fun q => by have r := A_ac.lt; rw [q, ha_a122] at r; exact Nat.lt_irrefl _ r
        have ne_a122_ac : a122 ≠ ac := Ne.symm ne_ac_a122
        have ne_an_a122 : an ≠ a122 := fun q => by have r := A_an.lt; rw [q, ha_a122] at r; exact Nat.lt_irrefl _ r
        have ne_a122_an : a122 ≠ an := Ne.symm ne_an_a122
        have ne_af_a122 : af ≠ a122 := fun q => by have r := A_af.lt; rw [q, ha_a122] at r; exact Nat.lt_irrefl _ r
        have ne_a122_af : a122 ≠ af := Ne.symm ne_af_a122
        have ne_a4_a122 : a4 ≠ a122 := fun q => by have r := A_a4.lt; rw [q, ha_a122] at r; exact Nat.lt_irrefl _ r
        have ne_a122_a4 : a122 ≠ a4 := Ne.symm ne_a4_a122
        have ne_a11_a122 : a11 ≠ a122 := fun q => by have r := A_a11.lt; rw [q, ha_a122] at r; exact Nat.lt_irrefl _ r
        have ne_a122_a11 : a122 ≠ a11 := Ne.symm ne_a11_a122
        have ne_a19_a122 : a19 ≠ a122 := fun q => by have r := A_a19.lt; rw [q, ha_a122] at r; exact Nat.lt_irrefl _ r
        have ne_a122_a19 : a122 ≠ a19 := Ne.symm ne_a19_a122
        have ne_a27_a122 : a27 ≠ a122 := fun q => by have r := A_a27.lt; rw [q, ha_a122] at r; exact Nat.lt_irrefl _ r
        have ne_a122_a27 : a122 ≠ a27 := Ne.symm ne_a27_a122
        have sz_a122 : h0.size ≤ a122 := by rw [ha_a122]; exact kp.1
        have kp := kp.ext E
        have X_o0 := X_o0.ext E
        have F_o0_heads := F_o0_heads.ext E
        have F_o0_capacities := F_o0_capacities.ext E
        have F_o0_nextOut := F_o0_nextOut.ext E
        have F_o0_firstOut := F_o0_firstOut.ext E
        have F_o0_nodes := F_o0_nodes.ext E
        have F_o0_edges := F_o0_edges.ext E
        have A_ah := A_ah.ext E
        have A_ac := A_ac.ext E
        have A_an := A_an.ext E
        have A_af := A_af.ext E
        have A_a4 := A_a4.ext E
        have A_a11 := A_a11.ext E
        have A_a19 := A_a19.ext E
        have A_a27 := A_a27.ext E
        refine g_astore K W d11_124 rfl (Ls' := #[.val (.ref o0), .val (.int (Int32.ofNat sr)), .val (.int (Int32.ofNat sk)), .val (.ref a4), .val (.ref a11), .val (.ref a19), .val (.ref a27), .val (.long x7), .second, .val (.ref a122), .unset]) (by rcases hs_s9 with ⟨rfl, rfl⟩ | ⟨z, rfl, rfl⟩ <;> rfl) (pc' := 126) rfl ?_
        refine g_iconst K W (v := (0 : Int32)) d11_126 rfl (pc' := 127) rfl ?_
        refine g_istore K W d11_127 (Ls' := #[.val (.ref o0), .val (.int (Int32.ofNat sr)), .val (.int (Int32.ofNat sk)), .val (.ref a4), .val (.ref a11), .val (.ref a19), .val (.ref a27), .val (.long x7), .second, .val (.ref a122), .val (.int (0 : Int32))]) rfl (pc' := 129) rfl ?_
        have loop3 : ∀ (my : Nat) (i : Nat) (g : Nat → Int32) (T : State) (h : Heap), nn - i = my → i ≤ nn → (∀ j, j < i → g j = if decide (0 ≤ Li Lf j) = true then 1 else 0) → Exa Z h o0 "com/example/ichnos/ichnos/planning/ils/MinCut" → Fld Z h o0 "com/example/ichnos/ichnos/planning/ils/MinCut" "heads" "[I" (.ref ah) → Fld Z h o0 "com/example/ichnos/ichnos/planning/ils/MinCut" "capacities" "[J" (.ref ac) → Fld Z h o0 "com/example/ichnos/ichnos/planning/ils/MinCut" "nextOut" "[I" (.ref an) → Fld Z h o0 "com/example/ichnos/ichnos/planning/ils/MinCut" "firstOut" "[I" (.ref af) → Fld Z h o0 "com/example/ichnos/ichnos/planning/ils/MinCut" "nodes" "I" (.int (Int32.ofNat nn)) → Fld Z h o0 "com/example/ichnos/ichnos/planning/ils/MinCut" "edges" "I" (.int (Int32.ofNat (2 * kk))) → AyI Z h ah .int M Hf → AyJ Z h ac M Cg → AyI Z h an .int M Nf → AyI Z h af .int nn Ff → AyI Z h a4 .int nn Lf → AyI Z h a11 .int nn cu → AyI Z h a19 .int nn Qf → AyI Z h a27 .int nn Pf → AyI Z h a122 .boolean nn g → Keep h0 h [o0, ah, ac, an, af] → Wd p l e rm_c_side s m args below meth c n0 T h 5 25 → Go p e below s n0 (Q_c_side Z n0 h0 o0 (Int32.ofNat sr) (Int32.ofNat sk) nn kk sr sk Kc Fs) 5 25 T (mkF m 129 #[.val (.ref o0), .val (.int (Int32.ofNat sr)), .val (.int (Int32.ofNat sk)), .val (.ref a4), .val (.ref a11), .val (.ref a19), .val (.ref a27), .val (.long x7), .second, .val (.ref a122), .val (.int (Int32.ofNat i))] []) := by
          intro my
          induction my using Nat.strongRecOn with
          | ind my ih =>
            intro i g T h hmy hi hg X_o0 F_o0_heads F_o0_capacities F_o0_nextOut F_o0_firstOut F_o0_nodes F_o0_edges A_ah A_ac A_an A_af A_a4 A_a11 A_a19 A_a27 A_a122 kp W
            refine g_iload K W d11_129 rfl (pc' := 131) rfl ?_
            refine g_aloadN K W d11_131 rfl rfl (pc' := 132) rfl ?_
            refine g_getF K W (host := "") (Or.inl (hw _ (List.mem_of_getElem? (i := 17) rfl))) Via.refl F_o0_nodes d11_132 (pc' := 135) rfl (fun T W => ?_)
            refine g_icmp_ge K W d11_135 (pt := 161) rfl (pf := 138) rfl (fun hc135 => ?_) (fun hc135 => ?_)
            · have hi2 : i < nn := (own_lt (by omega) (by omega)).mp hc135
              refine g_aload K W d11_138 rfl rfl (pc' := 140) rfl ?_
              refine g_iload K W d11_140 rfl (pc' := 142) rfl ?_
              refine g_aloadN K W d11_142 rfl rfl (pc' := 143) rfl ?_
              refine g_iload K W d11_143 rfl (pc' := 145) rfl ?_
              refine g_iaload K W A_a4 (k := i) (own_ofNat (by omega)) hi2 (v := (Lf i)) rfl d11_145 (pc' := 146) rfl ?_
              refine g_if_lt K W d11_146 (pt := 153) rfl (pf := 149) rfl (fun hc146 => ?_) (fun hc146 => ?_)
              · refine g_iconst K W (v := (0 : Int32)) d11_153 rfl (pc' := 154) rfl ?_
                refine g_zastore K W A_a122 (k := i) (own_ofNat (by omega)) hi2 ge_a122 d11_154 (pc' := 155) rfl (fun T h W w A_a122 => ?_)
                have kp := kp.wr w (Or.inr sz_a122)
                have X_o0 := X_o0.wr w
                have F_o0_heads := F_o0_heads.other w (Or.inl ne_o0_a122)
                have F_o0_capacities := F_o0_capacities.other w (Or.inl ne_o0_a122)
                have F_o0_nextOut := F_o0_nextOut.other w (Or.inl ne_o0_a122)
                have F_o0_firstOut := F_o0_firstOut.other w (Or.inl ne_o0_a122)
                have F_o0_nodes := F_o0_nodes.other w (Or.inl ne_o0_a122)
                have F_o0_edges := F_o0_edges.other w (Or.inl ne_o0_a122)
                have A_ah := A_ah.other w ne_ah_a122
                have A_ac := A_ac.other w ne_ac_a122
                have A_an := A_an.other w ne_an_a122
                have A_af := A_af.other w ne_af_a122
                have A_a4 := A_a4.other w ne_a4_a122
                have A_a11 := A_a11.other w ne_a11_a122
                have A_a19 := A_a19.other w ne_a19_a122
                have A_a27 := A_a27.other w ne_a27_a122
                refine g_iinc K W d11_155 rfl (Ls' := #[.val (.ref o0), .val (.int (Int32.ofNat sr)), .val (.int (Int32.ofNat sk)), .val (.ref a4), .val (.ref a11), .val (.ref a19), .val (.ref a27), .val (.long x7), .second, .val (.ref a122), .val (.int ((Int32.ofNat i) + (1 : Int32)))]) rfl (pc' := 158) rfl ?_
                refine g_goto K W d11_158 (pt := 129) rfl ?_
                rw [own_one]
                exact ih (nn - (i + 1)) (by omega) (i + 1) _ T h rfl (by omega) (fun j hj => by
                  by_cases z : j = i
                  · rw [z, upd_same, if_neg (fun y => by have y1 := of_decide_eq_true y; have y2 : Li Lf i < 0 := (own_neg _).mp hc146; omega)]; rfl
                  · rw [upd_ne _ _ z]; exact hg j (by omega)) X_o0 F_o0_heads F_o0_capacities F_o0_nextOut F_o0_firstOut F_o0_nodes F_o0_edges A_ah A_ac A_an A_af A_a4 A_a11 A_a19 A_a27 A_a122 kp W
              · refine g_iconst K W (v := (1 : Int32)) d11_149 rfl (pc' := 150) rfl ?_
                refine g_goto K W d11_150 (pt := 154) rfl ?_
                refine g_zastore K W A_a122 (k := i) (own_ofNat (by omega)) hi2 ge_a122 d11_154 (pc' := 155) rfl (fun T h W w A_a122 => ?_)
                have kp := kp.wr w (Or.inr sz_a122)
                have X_o0 := X_o0.wr w
                have F_o0_heads := F_o0_heads.other w (Or.inl ne_o0_a122)
                have F_o0_capacities := F_o0_capacities.other w (Or.inl ne_o0_a122)
                have F_o0_nextOut := F_o0_nextOut.other w (Or.inl ne_o0_a122)
                have F_o0_firstOut := F_o0_firstOut.other w (Or.inl ne_o0_a122)
                have F_o0_nodes := F_o0_nodes.other w (Or.inl ne_o0_a122)
                have F_o0_edges := F_o0_edges.other w (Or.inl ne_o0_a122)
                have A_ah := A_ah.other w ne_ah_a122
                have A_ac := A_ac.other w ne_ac_a122
                have A_an := A_an.other w ne_an_a122
                have A_af := A_af.other w ne_af_a122
                have A_a4 := A_a4.other w ne_a4_a122
                have A_a11 := A_a11.other w ne_a11_a122
                have A_a19 := A_a19.other w ne_a19_a122
                have A_a27 := A_a27.other w ne_a27_a122
                refine g_iinc K W d11_155 rfl (Ls' := #[.val (.ref o0), .val (.int (Int32.ofNat sr)), .val (.int (Int32.ofNat sk)), .val (.ref a4), .val (.ref a11), .val (.ref a19), .val (.ref a27), .val (.long x7), .second, .val (.ref a122), .val (.int ((Int32.ofNat i) + (1 : Int32)))]) rfl (pc' := 158) rfl ?_
                refine g_goto K W d11_158 (pt := 129) rfl ?_
                rw [own_one]
                exact ih (nn - (i + 1)) (by omega) (i + 1) _ T h rfl (by omega) (fun j hj => by
                  by_cases z : j = i
                  · rw [z, upd_same, if_pos (decide_eq_true (show 0 ≤ Li Lf i from Int.not_lt.mp (fun y => hc146 ((own_neg _).mpr y))))]; rfl
                  · rw [upd_ne _ _ z]; exact hg j (by omega)) X_o0 F_o0_heads F_o0_capacities F_o0_nextOut F_o0_firstOut F_o0_nodes F_o0_edges A_ah A_ac A_an A_af A_a4 A_a11 A_a19 A_a27 A_a122 kp W
            · refine g_aload K W d11_161 rfl rfl (pc' := 163) rfl ?_
              have hni : ¬ i < nn := (not_congr (own_lt (by omega) (by omega))).mp hc135
              exact g_retA K W rfl rfl rfl d11_163 (by decide) (by decide) (Or.inr ⟨a122, g, fun v => decide (0 ≤ Li Lf v), x7.toInt, rfl, hsm _ kp, A_a122, h7I, (Side.of fi hH hs ht lv hsk).k hK, fun v hv => hg v (by omega)⟩)
        exact loop3 nn 0 _ T h rfl (Nat.zero_le _) (fun j hj => absurd hj (Nat.not_lt_zero _)) X_o0 F_o0_heads F_o0_capacities F_o0_nextOut F_o0_firstOut F_o0_nodes F_o0_edges A_ah A_ac A_an A_af A_a4 A_a11 A_a19 A_a27 A_a122 kp W
  exact loop1 _ 0 Cf _ _ _ _ _ _ T h rfl (by decide) (by decide) fi0 (Or.inl ⟨rfl, rfl⟩) X_o0 F_o0_heads F_o0_capacities F_o0_nextOut F_o0_firstOut F_o0_nodes F_o0_edges A_ah A_ac A_an A_af A_a4 A_a11 A_a19 A_a27 kp W
def Q_c_init (Z : State) (n0 : Nat) (h0 : Heap) (o0 : Addr) (x1 : Int32) (nn : Nat) (Fs : List Addr) : Option Value → Heap → Prop := fun v h => v = none ∧ Sm h0 h Fs ∧ MC Z n0 h o0 nn 0 (fun _ => 0) Fs
abbrev rm_c_init : Room := { frames := 1, cells := 4, slots := 53, locals := 15 }
set_option maxHeartbeats 40000000 in
theorem c_init (l : Launch) (Z : State) (a0 : Array Value) (hw : ∀ d ∈ tables_1, d.before a0 Z = true) (n0 : Nat) (h0 : Heap) (hn : n0 ≤ h0.size) (o0 : Addr) (x1 : Int32) (nn : Nat) (Fs : List Addr) (X_o0 : Exa Z h0 o0 "com/example/ichnos/ichnos/planning/ils/MinCut") (F_o0_heads : Fld Z h0 o0 "com/example/ichnos/ichnos/planning/ils/MinCut" "heads" "[I" .null) (F_o0_capacities : Fld Z h0 o0 "com/example/ichnos/ichnos/planning/ils/MinCut" "capacities" "[J" .null) (F_o0_nextOut : Fld Z h0 o0 "com/example/ichnos/ichnos/planning/ils/MinCut" "nextOut" "[I" .null) (F_o0_firstOut : Fld Z h0 o0 "com/example/ichnos/ichnos/planning/ils/MinCut" "firstOut" "[I" .null) (F_o0_nodes : Fld Z h0 o0 "com/example/ichnos/ichnos/planning/ils/MinCut" "nodes" "I" (.int (0 : Int32))) (F_o0_edges : Fld Z h0 o0 "com/example/ichnos/ichnos/planning/ils/MinCut" "edges" "I" (.int (0 : Int32))) (ge_o0 : n0 ≤ o0) (ex1 : x1 = Int32.ofNat nn) (hn5 : nn ≤ 5) (fs : ∀ x ∈ Fs, x < h0.size ∧ x ≠ o0) :
    Mt l Z (⟨"com/example/ichnos/ichnos/planning/ils/MinCut", "<init>", "(I)V"⟩ : MethodName) prog_66_method_1_code 2 none rm_c_init n0 #[(.ref o0), (.int x1)] h0 (Q_c_init Z n0 h0 o0 x1 nn Fs) := by
  refine met_of (plainFor_of_name pn_1) (Ls := #[.val (.ref o0), .val (.int x1)]) (fun m => by first | (simp [entryFrame, mkF, argsToLocals, Value.category]; done) | rfl) hn ?_
  intro p e s m below meth c T K W
  replace K : Cx p s m meth c Z "com/example/ichnos/ichnos/planning/ils/MinCut" "<init>" prog_66_method_1_code 2 none := K
  generalize eA : (#[(.ref o0), (.int x1)] : Array Value) = args at W
  show Go p e below s n0 (Q_c_init Z n0 h0 o0 x1 nn Fs) 4 53 T (mkF m 0 #[.val (.ref o0), .val (.int x1)] [])
  have kp := Keep.refl h0 [o0]
  subst ex1
  show Go p e below s n0 (Q_c_init Z n0 h0 o0 (Int32.ofNat nn) nn Fs) 4 53 T (mkF m 0 #[.val (.ref o0), .val (.int (Int32.ofNat nn))] [])
  have lt_o0 := X_o0.lt
  refine g_aloadN K W d1_0 rfl rfl (pc' := 1) rfl ?_
  refine g_initO K W (hw _ (List.mem_of_getElem? (i := 6) rfl)) (hw _ (List.mem_of_getElem? (i := 7) rfl)) (hw _ (List.mem_of_getElem? (i := 8) rfl)) rfl d1_1 (pc' := 4) rfl (by decide) (wt := 0) rfl (by decide) (fun T W => ?_)
  refine g_aloadN K W d1_4 rfl rfl (pc' := 5) rfl ?_
  refine g_bipush K W (v := (16 : Int32)) d1_5 rfl (pc' := 7) rfl ?_
  refine g_newI K W (ty := .int) (n := 16) (cap := 16) (hw _ (List.mem_of_getElem? (i := 9) rfl)) rfl rfl rfl (Nat.le_refl _) d1_7 (pc' := 9) rfl (by decide) (by decide) (by decide) (fun T h a7 W E ha_a7 ge_a7 A_a7 => ?_)
  have ne_o0_a7 : o0 ≠ a7 := fun q => by have r := X_o0.lt; rw [q, ha_a7] at r; exact Nat.lt_irrefl _ r
  have ne_a7_o0 : a7 ≠ o0 := Ne.symm ne_o0_a7
  have sz_a7 : h0.size ≤ a7 := by rw [ha_a7]; exact kp.1
  have kp := kp.ext E
  have X_o0 := X_o0.ext E
  have F_o0_heads := F_o0_heads.ext E
  have F_o0_capacities := F_o0_capacities.ext E
  have F_o0_nextOut := F_o0_nextOut.ext E
  have F_o0_firstOut := F_o0_firstOut.ext E
  have F_o0_nodes := F_o0_nodes.ext E
  have F_o0_edges := F_o0_edges.ext E
  refine g_putF K W (host := "") (Or.inl (hw _ (List.mem_of_getElem? (i := 10) rfl))) Via.refl F_o0_heads X_o0 (Or.inl (hw _ (List.mem_of_getElem? (i := 11) rfl))) (hw _ (List.mem_of_getElem? (i := 1) rfl)) (ty := (.array .int)) (by decide) rfl rfl ge_o0 d1_9 (pc' := 12) rfl (fun T h W w => ?_)
  have kp := kp.wr w (Or.inl (List.mem_of_getElem? (i := 0) rfl))
  have X_o0 := X_o0.wr w
  have F_o0_capacities := F_o0_capacities.other w (Or.inr (slot_ne (a0 := a0) (C := "com/example/ichnos/ichnos/planning/ils/MinCut") (Or.inl (hw _ (List.mem_of_getElem? (i := 14) rfl))) (Or.inl (hw _ (List.mem_of_getElem? (i := 11) rfl))) (by decide) (t := (.array .long)) (t' := (.array .int)) (by decide) (by decide)))
  have F_o0_nextOut := F_o0_nextOut.other w (Or.inr (slot_ne (a0 := a0) (C := "com/example/ichnos/ichnos/planning/ils/MinCut") (Or.inl (hw _ (List.mem_of_getElem? (i := 16) rfl))) (Or.inl (hw _ (List.mem_of_getElem? (i := 11) rfl))) (by decide) (t := (.array .int)) (t' := (.array .int)) (by decide) (by decide)))
  have F_o0_firstOut := F_o0_firstOut.other w (Or.inr (slot_ne (a0 := a0) (C := "com/example/ichnos/ichnos/planning/ils/MinCut") (Or.inr (hw _ (List.mem_of_getElem? (i := 20) rfl))) (Or.inl (hw _ (List.mem_of_getElem? (i := 11) rfl))) (by decide) (t := (.array .int)) (t' := (.array .int)) (by decide) (by decide)))
  have F_o0_nodes := F_o0_nodes.other w (Or.inr (slot_ne (a0 := a0) (C := "com/example/ichnos/ichnos/planning/ils/MinCut") (Or.inr (hw _ (List.mem_of_getElem? (i := 18) rfl))) (Or.inl (hw _ (List.mem_of_getElem? (i := 11) rfl))) (by decide) (t := .int) (t' := (.array .int)) (by decide) (by decide)))
  have F_o0_edges := F_o0_edges.other w (Or.inr (slot_ne (a0 := a0) (C := "com/example/ichnos/ichnos/planning/ils/MinCut") (Or.inl (hw _ (List.mem_of_getElem? (i := 37) rfl))) (Or.inl (hw _ (List.mem_of_getElem? (i := 11) rfl))) (by decide) (t := .int) (t' := (.array .int)) (by decide) (by decide)))
  have A_a7 := A_a7.other w ne_a7_o0
  have F_o0_heads := F_o0_heads.same w
  refine g_aloadN K W d1_12 rfl rfl (pc' := 13) rfl ?_
  refine g_bipush K W (v := (16 : Int32)) d1_13 rfl (pc' := 15) rfl ?_
  refine g_newJ K W (n := 16) (cap := 16) (hw _ (List.mem_of_getElem? (i := 12) rfl)) rfl (Nat.le_refl _) d1_15 (pc' := 17) rfl (by decide) (by decide) (by decide) (fun T h a15 W E ha_a15 ge_a15 A_a15 => ?_)
  have ne_o0_a15 : o0 ≠ a15 := fun q => by have r := X_o0.lt; rw [q, ha_a15] at r; exact Nat.lt_irrefl _ r
  have ne_a15_o0 : a15 ≠ o0 := Ne.symm ne_o0_a15
  have ne_a7_a15 : a7 ≠ a15 := fun q => by have r := A_a7.lt; rw [q, ha_a15] at r; exact Nat.lt_irrefl _ r
  have ne_a15_a7 : a15 ≠ a7 := Ne.symm ne_a7_a15
  have sz_a15 : h0.size ≤ a15 := by rw [ha_a15]; exact kp.1
  have kp := kp.ext E
  have X_o0 := X_o0.ext E
  have F_o0_heads := F_o0_heads.ext E
  have F_o0_capacities := F_o0_capacities.ext E
  have F_o0_nextOut := F_o0_nextOut.ext E
  have F_o0_firstOut := F_o0_firstOut.ext E
  have F_o0_nodes := F_o0_nodes.ext E
  have F_o0_edges := F_o0_edges.ext E
  have A_a7 := A_a7.ext E
  refine g_putF K W (host := "") (Or.inl (hw _ (List.mem_of_getElem? (i := 13) rfl))) Via.refl F_o0_capacities X_o0 (Or.inl (hw _ (List.mem_of_getElem? (i := 14) rfl))) (hw _ (List.mem_of_getElem? (i := 1) rfl)) (ty := (.array .long)) (by decide) rfl rfl ge_o0 d1_17 (pc' := 20) rfl (fun T h W w => ?_)
  have kp := kp.wr w (Or.inl (List.mem_of_getElem? (i := 0) rfl))
  have X_o0 := X_o0.wr w
  have F_o0_heads := F_o0_heads.other w (Or.inr (slot_ne (a0 := a0) (C := "com/example/ichnos/ichnos/planning/ils/MinCut") (Or.inl (hw _ (List.mem_of_getElem? (i := 11) rfl))) (Or.inl (hw _ (List.mem_of_getElem? (i := 14) rfl))) (by decide) (t := (.array .int)) (t' := (.array .long)) (by decide) (by decide)))
  have F_o0_nextOut := F_o0_nextOut.other w (Or.inr (slot_ne (a0 := a0) (C := "com/example/ichnos/ichnos/planning/ils/MinCut") (Or.inl (hw _ (List.mem_of_getElem? (i := 16) rfl))) (Or.inl (hw _ (List.mem_of_getElem? (i := 14) rfl))) (by decide) (t := (.array .int)) (t' := (.array .long)) (by decide) (by decide)))
  have F_o0_firstOut := F_o0_firstOut.other w (Or.inr (slot_ne (a0 := a0) (C := "com/example/ichnos/ichnos/planning/ils/MinCut") (Or.inr (hw _ (List.mem_of_getElem? (i := 20) rfl))) (Or.inl (hw _ (List.mem_of_getElem? (i := 14) rfl))) (by decide) (t := (.array .int)) (t' := (.array .long)) (by decide) (by decide)))
  have F_o0_nodes := F_o0_nodes.other w (Or.inr (slot_ne (a0 := a0) (C := "com/example/ichnos/ichnos/planning/ils/MinCut") (Or.inr (hw _ (List.mem_of_getElem? (i := 18) rfl))) (Or.inl (hw _ (List.mem_of_getElem? (i := 14) rfl))) (by decide) (t := .int) (t' := (.array .long)) (by decide) (by decide)))
  have F_o0_edges := F_o0_edges.other w (Or.inr (slot_ne (a0 := a0) (C := "com/example/ichnos/ichnos/planning/ils/MinCut") (Or.inl (hw _ (List.mem_of_getElem? (i := 37) rfl))) (Or.inl (hw _ (List.mem_of_getElem? (i := 14) rfl))) (by decide) (t := .int) (t' := (.array .long)) (by decide) (by decide)))
  have A_a7 := A_a7.other w ne_a7_o0
  have A_a15 := A_a15.other w ne_a15_o0
  have F_o0_capacities := F_o0_capacities.same w
  refine g_aloadN K W d1_20 rfl rfl (pc' := 21) rfl ?_
  refine g_bipush K W (v := (16 : Int32)) d1_21 rfl (pc' := 23) rfl ?_
  refine g_newI K W (ty := .int) (n := 16) (cap := 16) (hw _ (List.mem_of_getElem? (i := 9) rfl)) rfl rfl rfl (Nat.le_refl _) d1_23 (pc' := 25) rfl (by decide) (by decide) (by decide) (fun T h a23 W E ha_a23 ge_a23 A_a23 => ?_)
  have ne_o0_a23 : o0 ≠ a23 := fun q => by have r := X_o0.lt; rw [q, ha_a23] at r; exact Nat.lt_irrefl _ r
  have ne_a23_o0 : a23 ≠ o0 := Ne.symm ne_o0_a23
  have ne_a7_a23 : a7 ≠ a23 := fun q => by have r := A_a7.lt; rw [q, ha_a23] at r; exact Nat.lt_irrefl _ r
  have ne_a23_a7 : a23 ≠ a7 := Ne.symm ne_a7_a23
  have ne_a15_a23 : a15 ≠ a23 := fun q => by have r := A_a15.lt; rw [q, ha_a23] at r; exact Nat.lt_irrefl _ r
  have ne_a23_a15 : a23 ≠ a15 := Ne.symm ne_a15_a23
  have sz_a23 : h0.size ≤ a23 := by rw [ha_a23]; exact kp.1
  have kp := kp.ext E
  have X_o0 := X_o0.ext E
  have F_o0_heads := F_o0_heads.ext E
  have F_o0_capacities := F_o0_capacities.ext E
  have F_o0_nextOut := F_o0_nextOut.ext E
  have F_o0_firstOut := F_o0_firstOut.ext E
  have F_o0_nodes := F_o0_nodes.ext E
  have F_o0_edges := F_o0_edges.ext E
  have A_a7 := A_a7.ext E
  have A_a15 := A_a15.ext E
  refine g_putF K W (host := "") (Or.inl (hw _ (List.mem_of_getElem? (i := 15) rfl))) Via.refl F_o0_nextOut X_o0 (Or.inl (hw _ (List.mem_of_getElem? (i := 16) rfl))) (hw _ (List.mem_of_getElem? (i := 1) rfl)) (ty := (.array .int)) (by decide) rfl rfl ge_o0 d1_25 (pc' := 28) rfl (fun T h W w => ?_)
  have kp := kp.wr w (Or.inl (List.mem_of_getElem? (i := 0) rfl))
  have X_o0 := X_o0.wr w
  have F_o0_heads := F_o0_heads.other w (Or.inr (slot_ne (a0 := a0) (C := "com/example/ichnos/ichnos/planning/ils/MinCut") (Or.inl (hw _ (List.mem_of_getElem? (i := 11) rfl))) (Or.inl (hw _ (List.mem_of_getElem? (i := 16) rfl))) (by decide) (t := (.array .int)) (t' := (.array .int)) (by decide) (by decide)))
  have F_o0_capacities := F_o0_capacities.other w (Or.inr (slot_ne (a0 := a0) (C := "com/example/ichnos/ichnos/planning/ils/MinCut") (Or.inl (hw _ (List.mem_of_getElem? (i := 14) rfl))) (Or.inl (hw _ (List.mem_of_getElem? (i := 16) rfl))) (by decide) (t := (.array .long)) (t' := (.array .int)) (by decide) (by decide)))
  have F_o0_firstOut := F_o0_firstOut.other w (Or.inr (slot_ne (a0 := a0) (C := "com/example/ichnos/ichnos/planning/ils/MinCut") (Or.inr (hw _ (List.mem_of_getElem? (i := 20) rfl))) (Or.inl (hw _ (List.mem_of_getElem? (i := 16) rfl))) (by decide) (t := (.array .int)) (t' := (.array .int)) (by decide) (by decide)))
  have F_o0_nodes := F_o0_nodes.other w (Or.inr (slot_ne (a0 := a0) (C := "com/example/ichnos/ichnos/planning/ils/MinCut") (Or.inr (hw _ (List.mem_of_getElem? (i := 18) rfl))) (Or.inl (hw _ (List.mem_of_getElem? (i := 16) rfl))) (by decide) (t := .int) (t' := (.array .int)) (by decide) (by decide)))
  have F_o0_edges := F_o0_edges.other w (Or.inr (slot_ne (a0 := a0) (C := "com/example/ichnos/ichnos/planning/ils/MinCut") (Or.inl (hw _ (List.mem_of_getElem? (i := 37) rfl))) (Or.inl (hw _ (List.mem_of_getElem? (i := 16) rfl))) (by decide) (t := .int) (t' := (.array .int)) (by decide) (by decide)))
  have A_a7 := A_a7.other w ne_a7_o0
  have A_a15 := A_a15.other w ne_a15_o0
  have A_a23 := A_a23.other w ne_a23_o0
  have F_o0_nextOut := F_o0_nextOut.same w
  refine g_aloadN K W d1_28 rfl rfl (pc' := 29) rfl ?_
  refine g_iloadN K W d1_29 rfl (pc' := 30) rfl ?_
  refine g_putF K W (host := "") (Or.inl (hw _ (List.mem_of_getElem? (i := 17) rfl))) Via.refl F_o0_nodes X_o0 (Or.inr ⟨(hw _ (List.mem_of_getElem? (i := 18) rfl)), rfl, rfl⟩) (hw _ (List.mem_of_getElem? (i := 1) rfl)) (ty := .int) (by decide) rfl rfl ge_o0 d1_30 (pc' := 33) rfl (fun T h W w => ?_)
  have kp := kp.wr w (Or.inl (List.mem_of_getElem? (i := 0) rfl))
  have X_o0 := X_o0.wr w
  have F_o0_heads := F_o0_heads.other w (Or.inr (slot_ne (a0 := a0) (C := "com/example/ichnos/ichnos/planning/ils/MinCut") (Or.inl (hw _ (List.mem_of_getElem? (i := 11) rfl))) (Or.inr (hw _ (List.mem_of_getElem? (i := 18) rfl))) (by decide) (t := (.array .int)) (t' := .int) (by decide) (by decide)))
  have F_o0_capacities := F_o0_capacities.other w (Or.inr (slot_ne (a0 := a0) (C := "com/example/ichnos/ichnos/planning/ils/MinCut") (Or.inl (hw _ (List.mem_of_getElem? (i := 14) rfl))) (Or.inr (hw _ (List.mem_of_getElem? (i := 18) rfl))) (by decide) (t := (.array .long)) (t' := .int) (by decide) (by decide)))
  have F_o0_nextOut := F_o0_nextOut.other w (Or.inr (slot_ne (a0 := a0) (C := "com/example/ichnos/ichnos/planning/ils/MinCut") (Or.inl (hw _ (List.mem_of_getElem? (i := 16) rfl))) (Or.inr (hw _ (List.mem_of_getElem? (i := 18) rfl))) (by decide) (t := (.array .int)) (t' := .int) (by decide) (by decide)))
  have F_o0_firstOut := F_o0_firstOut.other w (Or.inr (slot_ne (a0 := a0) (C := "com/example/ichnos/ichnos/planning/ils/MinCut") (Or.inr (hw _ (List.mem_of_getElem? (i := 20) rfl))) (Or.inr (hw _ (List.mem_of_getElem? (i := 18) rfl))) (by decide) (t := (.array .int)) (t' := .int) (by decide) (by decide)))
  have F_o0_edges := F_o0_edges.other w (Or.inr (slot_ne (a0 := a0) (C := "com/example/ichnos/ichnos/planning/ils/MinCut") (Or.inl (hw _ (List.mem_of_getElem? (i := 37) rfl))) (Or.inr (hw _ (List.mem_of_getElem? (i := 18) rfl))) (by decide) (t := .int) (t' := .int) (by decide) (by decide)))
  have A_a7 := A_a7.other w ne_a7_o0
  have A_a15 := A_a15.other w ne_a15_o0
  have A_a23 := A_a23.other w ne_a23_o0
  have F_o0_nodes := F_o0_nodes.same w
  refine g_aloadN K W d1_33 rfl rfl (pc' := 34) rfl ?_
  refine g_iloadN K W d1_34 rfl (pc' := 35) rfl ?_
  refine g_newI K W (ty := .int) (n := nn) (cap := 5) (hw _ (List.mem_of_getElem? (i := 9) rfl)) rfl rfl (own_ofNat (by omega)) hn5 d1_35 (pc' := 37) rfl (by decide) (by decide) (by decide) (fun T h a35 W E ha_a35 ge_a35 A_a35 => ?_)
  have ne_o0_a35 : o0 ≠ a35 := fun q => by have r := X_o0.lt; rw [q, ha_a35] at r; exact Nat.lt_irrefl _ r
  have ne_a35_o0 : a35 ≠ o0 := Ne.symm ne_o0_a35
  have ne_a7_a35 : a7 ≠ a35 := fun q => by have r := A_a7.lt; rw [q, ha_a35] at r; exact Nat.lt_irrefl _ r
  have ne_a35_a7 : a35 ≠ a7 := Ne.symm ne_a7_a35
  have ne_a15_a35 : a15 ≠ a35 := fun q => by have r := A_a15.lt; rw [q, ha_a35] at r; exact Nat.lt_irrefl _ r
  have ne_a35_a15 : a35 ≠ a15 := Ne.symm ne_a15_a35
  have ne_a23_a35 : a23 ≠ a35 := fun q => by have r := A_a23.lt; rw [q, ha_a35] at r; exact Nat.lt_irrefl _ r
  have ne_a35_a23 : a35 ≠ a23 := Ne.symm ne_a23_a35
  have sz_a35 : h0.size ≤ a35 := by rw [ha_a35]; exact kp.1
  have kp := kp.ext E
  have X_o0 := X_o0.ext E
  have F_o0_heads := F_o0_heads.ext E
  have F_o0_capacities := F_o0_capacities.ext E
  have F_o0_nextOut := F_o0_nextOut.ext E
  have F_o0_firstOut := F_o0_firstOut.ext E
  have F_o0_nodes := F_o0_nodes.ext E
  have F_o0_edges := F_o0_edges.ext E
  have A_a7 := A_a7.ext E
  have A_a15 := A_a15.ext E
  have A_a23 := A_a23.ext E
  refine g_putF K W (host := "") (Or.inl (hw _ (List.mem_of_getElem? (i := 19) rfl))) Via.refl F_o0_firstOut X_o0 (Or.inr ⟨(hw _ (List.mem_of_getElem? (i := 20) rfl)), rfl, rfl⟩) (hw _ (List.mem_of_getElem? (i := 1) rfl)) (ty := (.array .int)) (by decide) rfl rfl ge_o0 d1_37 (pc' := 40) rfl (fun T h W w => ?_)
  have kp := kp.wr w (Or.inl (List.mem_of_getElem? (i := 0) rfl))
  have X_o0 := X_o0.wr w
  have F_o0_heads := F_o0_heads.other w (Or.inr (slot_ne (a0 := a0) (C := "com/example/ichnos/ichnos/planning/ils/MinCut") (Or.inl (hw _ (List.mem_of_getElem? (i := 11) rfl))) (Or.inr (hw _ (List.mem_of_getElem? (i := 20) rfl))) (by decide) (t := (.array .int)) (t' := (.array .int)) (by decide) (by decide)))
  have F_o0_capacities := F_o0_capacities.other w (Or.inr (slot_ne (a0 := a0) (C := "com/example/ichnos/ichnos/planning/ils/MinCut") (Or.inl (hw _ (List.mem_of_getElem? (i := 14) rfl))) (Or.inr (hw _ (List.mem_of_getElem? (i := 20) rfl))) (by decide) (t := (.array .long)) (t' := (.array .int)) (by decide) (by decide)))
  have F_o0_nextOut := F_o0_nextOut.other w (Or.inr (slot_ne (a0 := a0) (C := "com/example/ichnos/ichnos/planning/ils/MinCut") (Or.inl (hw _ (List.mem_of_getElem? (i := 16) rfl))) (Or.inr (hw _ (List.mem_of_getElem? (i := 20) rfl))) (by decide) (t := (.array .int)) (t' := (.array .int)) (by decide) (by decide)))
  have F_o0_nodes := F_o0_nodes.other w (Or.inr (slot_ne (a0 := a0) (C := "com/example/ichnos/ichnos/planning/ils/MinCut") (Or.inr (hw _ (List.mem_of_getElem? (i := 18) rfl))) (Or.inr (hw _ (List.mem_of_getElem? (i := 20) rfl))) (by decide) (t := .int) (t' := (.array .int)) (by decide) (by decide)))
  have F_o0_edges := F_o0_edges.other w (Or.inr (slot_ne (a0 := a0) (C := "com/example/ichnos/ichnos/planning/ils/MinCut") (Or.inl (hw _ (List.mem_of_getElem? (i := 37) rfl))) (Or.inr (hw _ (List.mem_of_getElem? (i := 20) rfl))) (by decide) (t := .int) (t' := (.array .int)) (by decide) (by decide)))
  have A_a7 := A_a7.other w ne_a7_o0
  have A_a15 := A_a15.other w ne_a15_o0
  have A_a23 := A_a23.other w ne_a23_o0
  have A_a35 := A_a35.other w ne_a35_o0
  have F_o0_firstOut := F_o0_firstOut.same w
  refine g_aloadN K W d1_40 rfl rfl (pc' := 41) rfl ?_
  refine g_getF K W (host := "") (Or.inl (hw _ (List.mem_of_getElem? (i := 19) rfl))) Via.refl F_o0_firstOut d1_41 (pc' := 44) rfl (fun T W => ?_)
  refine g_iconst K W (v := (-1 : Int32)) d1_44 rfl (pc' := 45) rfl ?_
  refine g_callS (c_fill l Z a0 hw n0 _ W.sz a35 (-1 : Int32) nn _ A_a35 ge_a35 hn5) K W (hw _ (List.mem_of_getElem? (i := 21) rfl)) (hw _ (List.mem_of_getElem? (i := 22) rfl)) (hw _ (List.mem_of_getElem? (i := 23) rfl)) (hw _ (List.mem_of_getElem? (i := 24) rfl)) (by decide) (lenOf pd_0 rfl) d1_45 (pc' := 48) rfl (argsL := [(.ref a35), (.int (-1 : Int32))]) (rest := []) rfl rfl (by decide) (wt := 0) rfl (by decide) (by decide) (by decide) ?_
  rintro T h _ W ⟨rfl, kq, g, A_a35, hg⟩
  show Go p e below s n0 (Q_c_init Z n0 h0 o0 (Int32.ofNat nn) nn Fs) 4 53 T (mkF m 48 #[.val (.ref o0), .val (.int (Int32.ofNat nn))] [])
  have kp := kp.trans kq (allS (Or.inr sz_a35) all0)
  have X_o0 := X_o0.keep kq
  have F_o0_heads := F_o0_heads.keep kq (ninS ne_o0_a35 nin0)
  have F_o0_capacities := F_o0_capacities.keep kq (ninS ne_o0_a35 nin0)
  have F_o0_nextOut := F_o0_nextOut.keep kq (ninS ne_o0_a35 nin0)
  have F_o0_firstOut := F_o0_firstOut.keep kq (ninS ne_o0_a35 nin0)
  have F_o0_nodes := F_o0_nodes.keep kq (ninS ne_o0_a35 nin0)
  have F_o0_edges := F_o0_edges.keep kq (ninS ne_o0_a35 nin0)
  have A_a7 := A_a7.keep kq (ninS ne_a7_a35 nin0)
  have A_a15 := A_a15.keep kq (ninS ne_a15_a35 nin0)
  have A_a23 := A_a23.keep kq (ninS ne_a23_a35 nin0)
  exact g_ret0 K W d1_48 (by decide) (by decide) ⟨rfl, fun x hx c hc => kp.2.1 x c hc (by simp [(fs x hx).2]), X_o0, ge_o0, a7, a15, a23, a35, 16, fun _ => 0, _, _, _, g, ge_a7, ge_a15, ge_a23, ge_a35, ne_o0_a7, ne_o0_a15, ne_o0_a23, ne_o0_a35, ne_a7_a15, ne_a7_a23, ne_a7_a35, ne_a15_a23, ne_a15_a35, ne_a23_a35, F_o0_heads, F_o0_capacities, F_o0_nextOut, F_o0_firstOut, F_o0_nodes, F_o0_edges, A_a7, A_a15, A_a23, A_a35, GP.start hn5 hg, Or.inl rfl, fun e he => by omega, fun S => rfl, fun x hx => ⟨Nat.lt_of_lt_of_le (fs x hx).1 kp.1, (fs x hx).2, Nat.ne_of_lt (Nat.lt_of_lt_of_le (fs x hx).1 sz_a7), Nat.ne_of_lt (Nat.lt_of_lt_of_le (fs x hx).1 sz_a15), Nat.ne_of_lt (Nat.lt_of_lt_of_le (fs x hx).1 sz_a23), Nat.ne_of_lt (Nat.lt_of_lt_of_le (fs x hx).1 sz_a35)⟩⟩
def Q_c_link (Z : State) (n0 : Nat) (h0 : Heap) (o0 : Addr) (x1 : Int32) (x2 : Int32) (y3 : Int64) (ah : Addr) (ac : Addr) (an : Addr) (af : Addr) (nn : Nat) (M : Nat) (Hf : Nat → Int32) (Cf : Nat → Int64) (Nf : Nat → Int32) (Ff : Nat → Int32) (mm : Nat) (u : Nat) : Option Value → Heap → Prop := fun v h => v = none ∧ Keep h0 h [o0, ah, ac, an, af] ∧ Fld Z h o0 "com/example/ichnos/ichnos/planning/ils/MinCut" "heads" "[I" (.ref ah) ∧ Fld Z h o0 "com/example/ichnos/ichnos/planning/ils/MinCut" "capacities" "[J" (.ref ac) ∧ Fld Z h o0 "com/example/ichnos/ichnos/planning/ils/MinCut" "nextOut" "[I" (.ref an) ∧ Fld Z h o0 "com/example/ichnos/ichnos/planning/ils/MinCut" "firstOut" "[I" (.ref af) ∧ Fld Z h o0 "com/example/ichnos/ichnos/planning/ils/MinCut" "nodes" "I" (.int (Int32.ofNat nn)) ∧ Fld Z h o0 "com/example/ichnos/ichnos/planning/ils/MinCut" "edges" "I" (.int (Int32.ofNat (mm + 1))) ∧ AyI Z h ah .int M (upd Hf mm x2) ∧ AyJ Z h ac M (upd Cf mm y3) ∧ AyI Z h an .int M (upd Nf mm (Ff u)) ∧ AyI Z h af .int nn (upd Ff u (Int32.ofNat mm))
abbrev rm_c_link : Room := { frames := 0, cells := 0, slots := 0, locals := 0 }
set_option maxHeartbeats 40000000 in
theorem c_link (l : Launch) (Z : State) (a0 : Array Value) (hw : ∀ d ∈ tables_1, d.before a0 Z = true) (n0 : Nat) (h0 : Heap) (hn : n0 ≤ h0.size) (o0 : Addr) (x1 : Int32) (x2 : Int32) (y3 : Int64) (ah : Addr) (ac : Addr) (an : Addr) (af : Addr) (nn : Nat) (M : Nat) (Hf : Nat → Int32) (Cf : Nat → Int64) (Nf : Nat → Int32) (Ff : Nat → Int32) (mm : Nat) (u : Nat) (X_o0 : Exa Z h0 o0 "com/example/ichnos/ichnos/planning/ils/MinCut") (F_o0_heads : Fld Z h0 o0 "com/example/ichnos/ichnos/planning/ils/MinCut" "heads" "[I" (.ref ah)) (F_o0_capacities : Fld Z h0 o0 "com/example/ichnos/ichnos/planning/ils/MinCut" "capacities" "[J" (.ref ac)) (F_o0_nextOut : Fld Z h0 o0 "com/example/ichnos/ichnos/planning/ils/MinCut" "nextOut" "[I" (.ref an)) (F_o0_firstOut : Fld Z h0 o0 "com/example/ichnos/ichnos/planning/ils/MinCut" "firstOut" "[I" (.ref af)) (F_o0_nodes : Fld Z h0 o0 "com/example/ichnos/ichnos/planning/ils/MinCut" "nodes" "I" (.int (Int32.ofNat nn))) (F_o0_edges : Fld Z h0 o0 "com/example/ichnos/ichnos/planning/ils/MinCut" "edges" "I" (.int (Int32.ofNat mm))) (A_ah : AyI Z h0 ah .int M Hf) (A_ac : AyJ Z h0 ac M Cf) (A_an : AyI Z h0 an .int M Nf) (A_af : AyI Z h0 af .int nn Ff) (ge_o0 : n0 ≤ o0) (ge_ah : n0 ≤ ah) (ge_ac : n0 ≤ ac) (ge_an : n0 ≤ an) (ge_af : n0 ≤ af) (ne_o0_ah : o0 ≠ ah) (ne_o0_ac : o0 ≠ ac) (ne_o0_an : o0 ≠ an) (ne_o0_af : o0 ≠ af) (ne_ah_o0 : ah ≠ o0) (ne_ah_ac : ah ≠ ac) (ne_ah_an : ah ≠ an) (ne_ah_af : ah ≠ af) (ne_ac_o0 : ac ≠ o0) (ne_ac_ah : ac ≠ ah) (ne_ac_an : ac ≠ an) (ne_ac_af : ac ≠ af) (ne_an_o0 : an ≠ o0) (ne_an_ah : an ≠ ah) (ne_an_ac : an ≠ ac) (ne_an_af : an ≠ af) (ne_af_o0 : af ≠ o0) (ne_af_ah : af ≠ ah) (ne_af_ac : af ≠ ac) (ne_af_an : af ≠ an) (ex1 : x1 = Int32.ofNat u) (hu : u < nn) (hn5 : nn ≤ 5) (hmM : mm < M) (hM32 : M ≤ 32) :
    Mt l Z (⟨"com/example/ichnos/ichnos/planning/ils/MinCut", "link", "(IIJ)V"⟩ : MethodName) prog_66_method_3_code 5 none rm_c_link n0 #[(.ref o0), (.int x1), (.int x2), (.long y3)] h0 (Q_c_link Z n0 h0 o0 x1 x2 y3 ah ac an af nn M Hf Cf Nf Ff mm u) := by
  refine met_of (plainFor_of_name pn_1) (Ls := #[.val (.ref o0), .val (.int x1), .val (.int x2), .val (.long y3), .second]) (fun m => by first | (simp [entryFrame, mkF, argsToLocals, Value.category]; done) | rfl) hn ?_
  intro p e s m below meth c T K W
  replace K : Cx p s m meth c Z "com/example/ichnos/ichnos/planning/ils/MinCut" "link" prog_66_method_3_code 5 none := K
  generalize eA : (#[(.ref o0), (.int x1), (.int x2), (.long y3)] : Array Value) = args at W
  show Go p e below s n0 (Q_c_link Z n0 h0 o0 x1 x2 y3 ah ac an af nn M Hf Cf Nf Ff mm u) 0 0 T (mkF m 0 #[.val (.ref o0), .val (.int x1), .val (.int x2), .val (.long y3), .second] [])
  have kp := Keep.refl h0 [o0, ah, ac, an, af]
  subst ex1
  show Go p e below s n0 (Q_c_link Z n0 h0 o0 (Int32.ofNat u) x2 y3 ah ac an af nn M Hf Cf Nf Ff mm u) 0 0 T (mkF m 0 #[.val (.ref o0), .val (.int (Int32.ofNat u)), .val (.int x2), .val (.long y3), .second] [])
  refine g_aloadN K W d7_0 rfl rfl (pc' := 1) rfl ?_
  refine g_getF K W (host := "") (Or.inl (hw _ (List.mem_of_getElem? (i := 10) rfl))) Via.refl F_o0_heads d7_1 (pc' := 4) rfl (fun T W => ?_)
  refine g_aloadN K W d7_4 rfl rfl (pc' := 5) rfl ?_
  refine g_getF K W (host := "") (Or.inl (hw _ (List.mem_of_getElem? (i := 36) rfl))) Via.refl F_o0_edges d7_5 (pc' := 8) rfl (fun T W => ?_)
  refine g_iloadN K W d7_8 rfl (pc' := 9) rfl ?_
  refine g_iastore K W A_ah (k := mm) (own_ofNat (by omega)) hmM ge_ah d7_9 (pc' := 10) rfl (fun T h W w A_ah => ?_)
  have kp := kp.wr w (Or.inl (List.mem_of_getElem? (i := 1) rfl))
  have X_o0 := X_o0.wr w
  have F_o0_heads := F_o0_heads.other w (Or.inl ne_o0_ah)
  have F_o0_capacities := F_o0_capacities.other w (Or.inl ne_o0_ah)
  have F_o0_nextOut := F_o0_nextOut.other w (Or.inl ne_o0_ah)
  have F_o0_firstOut := F_o0_firstOut.other w (Or.inl ne_o0_ah)
  have F_o0_nodes := F_o0_nodes.other w (Or.inl ne_o0_ah)
  have F_o0_edges := F_o0_edges.other w (Or.inl ne_o0_ah)
  have A_ac := A_ac.other w ne_ac_ah
  have A_an := A_an.other w ne_an_ah
  have A_af := A_af.other w ne_af_ah
  refine g_aloadN K W d7_10 rfl rfl (pc' := 11) rfl ?_
  refine g_getF K W (host := "") (Or.inl (hw _ (List.mem_of_getElem? (i := 13) rfl))) Via.refl F_o0_capacities d7_11 (pc' := 14) rfl (fun T W => ?_)
  refine g_aloadN K W d7_14 rfl rfl (pc' := 15) rfl ?_
  refine g_getF K W (host := "") (Or.inl (hw _ (List.mem_of_getElem? (i := 36) rfl))) Via.refl F_o0_edges d7_15 (pc' := 18) rfl (fun T W => ?_)
  refine g_lloadN K W d7_18 rfl (pc' := 19) rfl ?_
  refine g_lastore K W A_ac (k := mm) (own_ofNat (by omega)) hmM ge_ac d7_19 (pc' := 20) rfl (fun T h W w A_ac => ?_)
  have kp := kp.wr w (Or.inl (List.mem_of_getElem? (i := 2) rfl))
  have X_o0 := X_o0.wr w
  have F_o0_heads := F_o0_heads.other w (Or.inl ne_o0_ac)
  have F_o0_capacities := F_o0_capacities.other w (Or.inl ne_o0_ac)
  have F_o0_nextOut := F_o0_nextOut.other w (Or.inl ne_o0_ac)
  have F_o0_firstOut := F_o0_firstOut.other w (Or.inl ne_o0_ac)
  have F_o0_nodes := F_o0_nodes.other w (Or.inl ne_o0_ac)
  have F_o0_edges := F_o0_edges.other w (Or.inl ne_o0_ac)
  have A_ah := A_ah.other w ne_ah_ac
  have A_an := A_an.other w ne_an_ac
  have A_af := A_af.other w ne_af_ac
  refine g_aloadN K W d7_20 rfl rfl (pc' := 21) rfl ?_
  refine g_getF K W (host := "") (Or.inl (hw _ (List.mem_of_getElem? (i := 15) rfl))) Via.refl F_o0_nextOut d7_21 (pc' := 24) rfl (fun T W => ?_)
  refine g_aloadN K W d7_24 rfl rfl (pc' := 25) rfl ?_
  refine g_getF K W (host := "") (Or.inl (hw _ (List.mem_of_getElem? (i := 36) rfl))) Via.refl F_o0_edges d7_25 (pc' := 28) rfl (fun T W => ?_)
  refine g_aloadN K W d7_28 rfl rfl (pc' := 29) rfl ?_
  refine g_getF K W (host := "") (Or.inl (hw _ (List.mem_of_getElem? (i := 19) rfl))) Via.refl F_o0_firstOut d7_29 (pc' := 32) rfl (fun T W => ?_)
  refine g_iloadN K W d7_32 rfl (pc' := 33) rfl ?_
  refine g_iaload K W A_af (k := u) (own_ofNat (by omega)) hu (v := (Ff u)) rfl d7_33 (pc' := 34) rfl ?_
  refine g_iastore K W A_an (k := mm) (own_ofNat (by omega)) hmM ge_an d7_34 (pc' := 35) rfl (fun T h W w A_an => ?_)
  have kp := kp.wr w (Or.inl (List.mem_of_getElem? (i := 3) rfl))
  have X_o0 := X_o0.wr w
  have F_o0_heads := F_o0_heads.other w (Or.inl ne_o0_an)
  have F_o0_capacities := F_o0_capacities.other w (Or.inl ne_o0_an)
  have F_o0_nextOut := F_o0_nextOut.other w (Or.inl ne_o0_an)
  have F_o0_firstOut := F_o0_firstOut.other w (Or.inl ne_o0_an)
  have F_o0_nodes := F_o0_nodes.other w (Or.inl ne_o0_an)
  have F_o0_edges := F_o0_edges.other w (Or.inl ne_o0_an)
  have A_ah := A_ah.other w ne_ah_an
  have A_ac := A_ac.other w ne_ac_an
  have A_af := A_af.other w ne_af_an
  refine g_aloadN K W d7_35 rfl rfl (pc' := 36) rfl ?_
  refine g_getF K W (host := "") (Or.inl (hw _ (List.mem_of_getElem? (i := 19) rfl))) Via.refl F_o0_firstOut d7_36 (pc' := 39) rfl (fun T W => ?_)
  refine g_iloadN K W d7_39 rfl (pc' := 40) rfl ?_
  refine g_aloadN K W d7_40 rfl rfl (pc' := 41) rfl ?_
  refine g_getF K W (host := "") (Or.inl (hw _ (List.mem_of_getElem? (i := 36) rfl))) Via.refl F_o0_edges d7_41 (pc' := 44) rfl (fun T W => ?_)
  refine g_iastore K W A_af (k := u) (own_ofNat (by omega)) hu ge_af d7_44 (pc' := 45) rfl (fun T h W w A_af => ?_)
  have kp := kp.wr w (Or.inl (List.mem_of_getElem? (i := 4) rfl))
  have X_o0 := X_o0.wr w
  have F_o0_heads := F_o0_heads.other w (Or.inl ne_o0_af)
  have F_o0_capacities := F_o0_capacities.other w (Or.inl ne_o0_af)
  have F_o0_nextOut := F_o0_nextOut.other w (Or.inl ne_o0_af)
  have F_o0_firstOut := F_o0_firstOut.other w (Or.inl ne_o0_af)
  have F_o0_nodes := F_o0_nodes.other w (Or.inl ne_o0_af)
  have F_o0_edges := F_o0_edges.other w (Or.inl ne_o0_af)
  have A_ah := A_ah.other w ne_ah_af
  have A_ac := A_ac.other w ne_ac_af
  have A_an := A_an.other w ne_an_af
  refine g_aloadN K W d7_45 rfl rfl (pc' := 46) rfl ?_
  refine g_dup K W d7_46 rfl (pc' := 47) rfl ?_
  refine g_getF K W (host := "") (Or.inl (hw _ (List.mem_of_getElem? (i := 36) rfl))) Via.refl F_o0_edges d7_47 (pc' := 50) rfl (fun T W => ?_)
  refine g_iconst K W (v := (1 : Int32)) d7_50 rfl (pc' := 51) rfl ?_
  refine g_iadd K W d7_51 (pc' := 52) rfl ?_
  rw [own_one]
  refine g_putF K W (host := "") (Or.inl (hw _ (List.mem_of_getElem? (i := 36) rfl))) Via.refl F_o0_edges X_o0 (Or.inl (hw _ (List.mem_of_getElem? (i := 37) rfl))) (hw _ (List.mem_of_getElem? (i := 1) rfl)) (ty := .int) (by decide) rfl rfl ge_o0 d7_52 (pc' := 55) rfl (fun T h W w => ?_)
  have kp := kp.wr w (Or.inl (List.mem_of_getElem? (i := 0) rfl))
  have X_o0 := X_o0.wr w
  have F_o0_heads := F_o0_heads.other w (Or.inr (slot_ne (a0 := a0) (C := "com/example/ichnos/ichnos/planning/ils/MinCut") (Or.inl (hw _ (List.mem_of_getElem? (i := 11) rfl))) (Or.inl (hw _ (List.mem_of_getElem? (i := 37) rfl))) (by decide) (t := (.array .int)) (t' := .int) (by decide) (by decide)))
  have F_o0_capacities := F_o0_capacities.other w (Or.inr (slot_ne (a0 := a0) (C := "com/example/ichnos/ichnos/planning/ils/MinCut") (Or.inl (hw _ (List.mem_of_getElem? (i := 14) rfl))) (Or.inl (hw _ (List.mem_of_getElem? (i := 37) rfl))) (by decide) (t := (.array .long)) (t' := .int) (by decide) (by decide)))
  have F_o0_nextOut := F_o0_nextOut.other w (Or.inr (slot_ne (a0 := a0) (C := "com/example/ichnos/ichnos/planning/ils/MinCut") (Or.inl (hw _ (List.mem_of_getElem? (i := 16) rfl))) (Or.inl (hw _ (List.mem_of_getElem? (i := 37) rfl))) (by decide) (t := (.array .int)) (t' := .int) (by decide) (by decide)))
  have F_o0_firstOut := F_o0_firstOut.other w (Or.inr (slot_ne (a0 := a0) (C := "com/example/ichnos/ichnos/planning/ils/MinCut") (Or.inr (hw _ (List.mem_of_getElem? (i := 20) rfl))) (Or.inl (hw _ (List.mem_of_getElem? (i := 37) rfl))) (by decide) (t := (.array .int)) (t' := .int) (by decide) (by decide)))
  have F_o0_nodes := F_o0_nodes.other w (Or.inr (slot_ne (a0 := a0) (C := "com/example/ichnos/ichnos/planning/ils/MinCut") (Or.inr (hw _ (List.mem_of_getElem? (i := 18) rfl))) (Or.inl (hw _ (List.mem_of_getElem? (i := 37) rfl))) (by decide) (t := .int) (t' := .int) (by decide) (by decide)))
  have A_ah := A_ah.other w ne_ah_o0
  have A_ac := A_ac.other w ne_ac_o0
  have A_an := A_an.other w ne_an_o0
  have A_af := A_af.other w ne_af_o0
  have F_o0_edges := F_o0_edges.same w
  exact g_ret0 K W d7_55 (by decide) (by decide) ⟨rfl, kp, F_o0_heads, F_o0_capacities, F_o0_nextOut, F_o0_firstOut, F_o0_nodes, F_o0_edges, A_ah, A_ac, A_an, A_af⟩
def Q_c_minI (Z : State) (n0 : Nat) (h0 : Heap) (x0 : Int32) (x1 : Int32) : Option Value → Heap → Prop := fun v h => v = some (.int (own_minI x0 x1)) ∧ h0 = h
abbrev rm_c_minI : Room := { frames := 0, cells := 0, slots := 0, locals := 0 }
set_option maxHeartbeats 40000000 in
theorem c_minI (l : Launch) (Z : State) (a0 : Array Value) (hw : ∀ d ∈ tables_1, d.before a0 Z = true) (n0 : Nat) (h0 : Heap) (hn : n0 ≤ h0.size) (x0 : Int32) (x1 : Int32) :
    Mt l Z (⟨"java/lang/Math", "min", "(II)I"⟩ : MethodName) jdk_29_method_69_code 2 (some .int) rm_c_minI n0 #[(.int x0), (.int x1)] h0 (Q_c_minI Z n0 h0 x0 x1) := by
  refine met_of (Jvm.Free.JP.mathPlain rfl (by decide +kernel)) (Ls := #[.val (.int x0), .val (.int x1)]) (fun m => by first | (simp [entryFrame, mkF, argsToLocals, Value.category]; done) | rfl) hn ?_
  intro p e s m below meth c T K W
  replace K : Cx p s m meth c Z "java/lang/Math" "min" jdk_29_method_69_code 2 (some .int) := K
  generalize eA : (#[(.int x0), (.int x1)] : Array Value) = args at W
  show Go p e below s n0 (Q_c_minI Z n0 h0 x0 x1) 0 0 T (mkF m 0 #[.val (.int x0), .val (.int x1)] [])
  refine g_iloadN K W d9_0 rfl (pc' := 1) rfl ?_
  refine g_iloadN K W d9_1 rfl (pc' := 2) rfl ?_
  refine g_icmp_gt K W d9_2 (pt := 9) rfl (pf := 5) rfl (fun hc2 => ?_) (fun hc2 => ?_)
  · refine g_iloadN K W d9_9 rfl (pc' := 10) rfl ?_
    exact g_retI K W d9_10 (by decide) (by decide) ⟨by unfold own_minI; rw [if_pos hc2], rfl⟩
  · refine g_iloadN K W d9_5 rfl (pc' := 6) rfl ?_
    refine g_goto K W d9_6 (pt := 10) rfl ?_
    exact g_retI K W d9_10 (by decide) (by decide) ⟨by unfold own_minI; rw [if_neg hc2], rfl⟩
def Q_c_cpI (Z : State) (n0 : Nat) (h0 : Heap) (o0 : Addr) (x1 : Int32) (f : Nat → Int32) : Option Value → Heap → Prop := fun v h => ∃ (a : Addr) (g : Nat → Int32), v = some (.ref a) ∧ n0 ≤ a ∧ h0.size ≤ a ∧ Keep h0 h [] ∧ AyI Z h a .int 32 g ∧ ∀ j, j < 16 → g j = f j
abbrev rm_c_cpI : Room := { frames := 1, cells := 1, slots := 32, locals := 18 }
set_option maxHeartbeats 40000000 in
theorem c_cpI (l : Launch) (Z : State) (a0 : Array Value) (hw : ∀ d ∈ tables_1, d.before a0 Z = true) (n0 : Nat) (h0 : Heap) (hn : n0 ≤ h0.size) (o0 : Addr) (x1 : Int32) (f : Nat → Int32) (A_o0 : AyI Z h0 o0 .int 16 f) (ex1 : x1 = 32) :
    Mt l Z (⟨"java/util/Arrays", "copyOf", "([II)[I"⟩ : MethodName) jdk_65_method_123_code 3 (some (.array .int)) rm_c_cpI n0 #[(.ref o0), (.int x1)] h0 (Q_c_cpI Z n0 h0 o0 x1 f) := by
  refine met_of (plainFor_of_name pn_0) (Ls := #[.val (.ref o0), .val (.int x1), .unset]) (fun m => by first | (simp [entryFrame, mkF, argsToLocals, Value.category]; done) | rfl) hn ?_
  intro p e s m below meth c T K W
  replace K : Cx p s m meth c Z "java/util/Arrays" "copyOf" jdk_65_method_123_code 3 (some (.array .int)) := K
  generalize eA : (#[(.ref o0), (.int x1)] : Array Value) = args at W
  show Go p e below s n0 (Q_c_cpI Z n0 h0 o0 x1 f) 1 32 T (mkF m 0 #[.val (.ref o0), .val (.int x1), .unset] [])
  have kp := Keep.refl h0 []
  subst ex1
  show Go p e below s n0 (Q_c_cpI Z n0 h0 o0 (32 : Int32) f) 1 32 T (mkF m 0 #[.val (.ref o0), .val (.int (32 : Int32)), .unset] [])
  refine g_iloadN K W d8_0 rfl (pc' := 1) rfl ?_
  refine g_aloadN K W d8_1 rfl rfl (pc' := 2) rfl ?_
  refine g_alenI K W A_o0 (v := (16 : Int32)) rfl d8_2 (pc' := 3) rfl ?_
  refine g_icmp_ne K W d8_3 (pt := 14) rfl (pf := 6) rfl (fun hc3 => absurd hc3 (by decide)) (fun hc3 => ?_)
  refine g_iloadN K W d8_14 rfl (pc' := 15) rfl ?_
  refine g_newI K W (ty := .int) (n := 32) (cap := 32) (hw _ (List.mem_of_getElem? (i := 9) rfl)) rfl rfl rfl (Nat.le_refl _) d8_15 (pc' := 17) rfl (by decide) (by decide) (by decide) (fun T h a15 W E ha_a15 ge_a15 A_a15 => ?_)
  have ne_o0_a15 : o0 ≠ a15 := fun q => by have r := A_o0.lt; rw [q, ha_a15] at r; exact Nat.lt_irrefl _ r
  have ne_a15_o0 : a15 ≠ o0 := Ne.symm ne_o0_a15
  have sz_a15 : h0.size ≤ a15 := by rw [ha_a15]; exact kp.1
  have kp := kp.ext E
  have A_o0 := A_o0.ext E
  refine g_astoreN K W d8_17 rfl (Ls' := #[.val (.ref o0), .val (.int (32 : Int32)), .val (.ref a15)]) rfl (pc' := 18) rfl ?_
  refine g_aloadN K W d8_18 rfl rfl (pc' := 19) rfl ?_
  refine g_iconst K W (v := (0 : Int32)) d8_19 rfl (pc' := 20) rfl ?_
  refine g_aloadN K W d8_20 rfl rfl (pc' := 21) rfl ?_
  refine g_iconst K W (v := (0 : Int32)) d8_21 rfl (pc' := 22) rfl ?_
  refine g_aloadN K W d8_22 rfl rfl (pc' := 23) rfl ?_
  refine g_alenI K W A_o0 (v := (16 : Int32)) rfl d8_23 (pc' := 24) rfl ?_
  refine g_iloadN K W d8_24 rfl (pc' := 25) rfl ?_
  refine g_callS (c_minI l Z a0 hw n0 _ W.sz (16 : Int32) (32 : Int32)) K W (hw _ (List.mem_of_getElem? (i := 52) rfl)) (hw _ (List.mem_of_getElem? (i := 53) rfl)) (hw _ (List.mem_of_getElem? (i := 41) rfl)) (hw _ (List.mem_of_getElem? (i := 54) rfl)) (by decide) (lenOf pd_5 rfl) d8_25 (pc' := 28) rfl (argsL := [(.int (16 : Int32)), (.int (32 : Int32))]) (rest := [(.int (0 : Int32)), (.ref a15), (.int (0 : Int32)), (.ref o0)]) rfl rfl (by decide) (wt := 4) rfl (by decide) (by decide) (by decide) ?_
  rintro T _ _ W ⟨rfl, rfl⟩
  show Go p e below s n0 (Q_c_cpI Z n0 h0 o0 (32 : Int32) f) 1 32 T (mkF m 28 #[.val (.ref o0), .val (.int (32 : Int32)), .val (.ref a15)] [(.int (own_minI (16 : Int32) (32 : Int32))), (.int (0 : Int32)), (.ref a15), (.int (0 : Int32)), (.ref o0)])
  rw [show own_minI (16 : Int32) (32 : Int32) = 16 by decide]
  refine g_cpI K W (hw _ (List.mem_of_getElem? (i := 55) rfl)) (hw _ (List.mem_of_getElem? (i := 58) rfl)) (hw _ (List.mem_of_getElem? (i := 56) rfl)) (hw _ (List.mem_of_getElem? (i := 57) rfl)) A_o0 A_a15 (by decide) (by decide) (len := 16) rfl (by decide) (by decide) ge_a15 rfl d8_28 (pc' := 31) rfl (by decide) (wt := 0) rfl (by decide) (fun T h W kq N_A_a15 => ?_)
  have kp := kp.trans kq (allS (Or.inr sz_a15) all0)
  have A_o0 := A_o0.keep kq (ninS ne_o0_a15 nin0)
  have A_a15 := N_A_a15
  refine g_aloadN K W d8_31 rfl rfl (pc' := 32) rfl ?_
  exact g_retA K W rfl rfl rfl d8_32 (by decide) (by decide) ⟨a15, _, rfl, ge_a15, sz_a15, kp, A_a15, fun j hj => if_pos hj⟩
def Q_c_cpJ (Z : State) (n0 : Nat) (h0 : Heap) (o0 : Addr) (x1 : Int32) (f : Nat → Int64) : Option Value → Heap → Prop := fun v h => ∃ (a : Addr) (g : Nat → Int64), v = some (.ref a) ∧ n0 ≤ a ∧ h0.size ≤ a ∧ Keep h0 h [] ∧ AyJ Z h a 32 g ∧ ∀ j, j < 16 → g j = f j
abbrev rm_c_cpJ : Room := { frames := 1, cells := 1, slots := 32, locals := 18 }
set_option maxHeartbeats 40000000 in
theorem c_cpJ (l : Launch) (Z : State) (a0 : Array Value) (hw : ∀ d ∈ tables_1, d.before a0 Z = true) (n0 : Nat) (h0 : Heap) (hn : n0 ≤ h0.size) (o0 : Addr) (x1 : Int32) (f : Nat → Int64) (A_o0 : AyJ Z h0 o0 16 f) (ex1 : x1 = 32) :
    Mt l Z (⟨"java/util/Arrays", "copyOf", "([JI)[J"⟩ : MethodName) jdk_65_method_124_code 3 (some (.array .long)) rm_c_cpJ n0 #[(.ref o0), (.int x1)] h0 (Q_c_cpJ Z n0 h0 o0 x1 f) := by
  refine met_of (plainFor_of_name pn_0) (Ls := #[.val (.ref o0), .val (.int x1), .unset]) (fun m => by first | (simp [entryFrame, mkF, argsToLocals, Value.category]; done) | rfl) hn ?_
  intro p e s m below meth c T K W
  replace K : Cx p s m meth c Z "java/util/Arrays" "copyOf" jdk_65_method_124_code 3 (some (.array .long)) := K
  generalize eA : (#[(.ref o0), (.int x1)] : Array Value) = args at W
  show Go p e below s n0 (Q_c_cpJ Z n0 h0 o0 x1 f) 1 32 T (mkF m 0 #[.val (.ref o0), .val (.int x1), .unset] [])
  have kp := Keep.refl h0 []
  subst ex1
  show Go p e below s n0 (Q_c_cpJ Z n0 h0 o0 (32 : Int32) f) 1 32 T (mkF m 0 #[.val (.ref o0), .val (.int (32 : Int32)), .unset] [])
  refine g_iloadN K W d10_0 rfl (pc' := 1) rfl ?_
  refine g_aloadN K W d10_1 rfl rfl (pc' := 2) rfl ?_
  refine g_alenJ K W A_o0 (v := (16 : Int32)) rfl d10_2 (pc' := 3) rfl ?_
  refine g_icmp_ne K W d10_3 (pt := 14) rfl (pf := 6) rfl (fun hc3 => absurd hc3 (by decide)) (fun hc3 => ?_)
  refine g_iloadN K W d10_14 rfl (pc' := 15) rfl ?_
  refine g_newJ K W (n := 32) (cap := 32) (hw _ (List.mem_of_getElem? (i := 12) rfl)) rfl (Nat.le_refl _) d10_15 (pc' := 17) rfl (by decide) (by decide) (by decide) (fun T h a15 W E ha_a15 ge_a15 A_a15 => ?_)
  have ne_o0_a15 : o0 ≠ a15 := fun q => by have r := A_o0.lt; rw [q, ha_a15] at r; exact Nat.lt_irrefl _ r
  have ne_a15_o0 : a15 ≠ o0 := Ne.symm ne_o0_a15
  have sz_a15 : h0.size ≤ a15 := by rw [ha_a15]; exact kp.1
  have kp := kp.ext E
  have A_o0 := A_o0.ext E
  refine g_astoreN K W d10_17 rfl (Ls' := #[.val (.ref o0), .val (.int (32 : Int32)), .val (.ref a15)]) rfl (pc' := 18) rfl ?_
  refine g_aloadN K W d10_18 rfl rfl (pc' := 19) rfl ?_
  refine g_iconst K W (v := (0 : Int32)) d10_19 rfl (pc' := 20) rfl ?_
  refine g_aloadN K W d10_20 rfl rfl (pc' := 21) rfl ?_
  refine g_iconst K W (v := (0 : Int32)) d10_21 rfl (pc' := 22) rfl ?_
  refine g_aloadN K W d10_22 rfl rfl (pc' := 23) rfl ?_
  refine g_alenJ K W A_o0 (v := (16 : Int32)) rfl d10_23 (pc' := 24) rfl ?_
  refine g_iloadN K W d10_24 rfl (pc' := 25) rfl ?_
  refine g_callS (c_minI l Z a0 hw n0 _ W.sz (16 : Int32) (32 : Int32)) K W (hw _ (List.mem_of_getElem? (i := 52) rfl)) (hw _ (List.mem_of_getElem? (i := 53) rfl)) (hw _ (List.mem_of_getElem? (i := 41) rfl)) (hw _ (List.mem_of_getElem? (i := 54) rfl)) (by decide) (lenOf pd_5 rfl) d10_25 (pc' := 28) rfl (argsL := [(.int (16 : Int32)), (.int (32 : Int32))]) (rest := [(.int (0 : Int32)), (.ref a15), (.int (0 : Int32)), (.ref o0)]) rfl rfl (by decide) (wt := 4) rfl (by decide) (by decide) (by decide) ?_
  rintro T _ _ W ⟨rfl, rfl⟩
  show Go p e below s n0 (Q_c_cpJ Z n0 h0 o0 (32 : Int32) f) 1 32 T (mkF m 28 #[.val (.ref o0), .val (.int (32 : Int32)), .val (.ref a15)] [(.int (own_minI (16 : Int32) (32 : Int32))), (.int (0 : Int32)), (.ref a15), (.int (0 : Int32)), (.ref o0)])
  rw [show own_minI (16 : Int32) (32 : Int32) = 16 by decide]
  refine g_cpJ K W (hw _ (List.mem_of_getElem? (i := 55) rfl)) (hw _ (List.mem_of_getElem? (i := 58) rfl)) (hw _ (List.mem_of_getElem? (i := 56) rfl)) (hw _ (List.mem_of_getElem? (i := 57) rfl)) A_o0 A_a15 (by decide) (by decide) (len := 16) rfl (by decide) (by decide) ge_a15 rfl d10_28 (pc' := 31) rfl (by decide) (wt := 0) rfl (by decide) (fun T h W kq N_A_a15 => ?_)
  have kp := kp.trans kq (allS (Or.inr sz_a15) all0)
  have A_o0 := A_o0.keep kq (ninS ne_o0_a15 nin0)
  have A_a15 := N_A_a15
  refine g_aloadN K W d10_31 rfl rfl (pc' := 32) rfl ?_
  exact g_retA K W rfl rfl rfl d10_32 (by decide) (by decide) ⟨a15, _, rfl, ge_a15, sz_a15, kp, A_a15, fun j hj => if_pos hj⟩
def Q_c_add (Z : State) (n0 : Nat) (h0 : Heap) (o0 : Addr) (x1 : Int32) (x2 : Int32) (y3 : Int64) (nn : Nat) (kk : Nat) (Kc : (Nat → Bool) → Int) (Fs : List Addr) (u : Nat) (wn : Nat) : Option Value → Heap → Prop := fun v h => v = none ∧ Sm h0 h Fs ∧ MC Z n0 h o0 nn (kk + 1) (fun S => Kc S + if S u = true ∧ S wn = false then min y3.toInt 2305843009213693951 else 0) Fs
abbrev rm_c_add : Room := { frames := 1, cells := 0, slots := 0, locals := 18 }
set_option maxHeartbeats 40000000 in
theorem c_add (l : Launch) (Z : State) (a0 : Array Value) (hw : ∀ d ∈ tables_1, d.before a0 Z = true) (n0 : Nat) (h0 : Heap) (hn : n0 ≤ h0.size) (o0 : Addr) (x1 : Int32) (x2 : Int32) (y3 : Int64) (nn : Nat) (kk : Nat) (Kc : (Nat → Bool) → Int) (Fs : List Addr) (u : Nat) (wn : Nat) (P : MC Z n0 h0 o0 nn kk Kc Fs) (ex1 : x1 = Int32.ofNat u) (hu : u < nn) (ex2 : x2 = Int32.ofNat wn) (hw2 : wn < nn) (hk8 : kk ≤ 7) (hy : 0 ≤ y3.toInt) :
    Mt l Z (⟨"com/example/ichnos/ichnos/planning/ils/MinCut", "add", "(IIJ)V"⟩ : MethodName) prog_66_method_2_code 5 none rm_c_add n0 #[(.ref o0), (.int x1), (.int x2), (.long y3)] h0 (Q_c_add Z n0 h0 o0 x1 x2 y3 nn kk Kc Fs u wn) := by
  refine met_of (plainFor_of_name pn_1) (Ls := #[.val (.ref o0), .val (.int x1), .val (.int x2), .val (.long y3), .second]) (fun m => by first | (simp [entryFrame, mkF, argsToLocals, Value.category]; done) | rfl) hn ?_
  intro p e s m below meth c T K W
  replace K : Cx p s m meth c Z "com/example/ichnos/ichnos/planning/ils/MinCut" "add" prog_66_method_2_code 5 none := K
  generalize eA : (#[(.ref o0), (.int x1), (.int x2), (.long y3)] : Array Value) = args at W
  show Go p e below s n0 (Q_c_add Z n0 h0 o0 x1 x2 y3 nn kk Kc Fs u wn) 0 0 T (mkF m 0 #[.val (.ref o0), .val (.int x1), .val (.int x2), .val (.long y3), .second] [])
  subst ex1 ex2
  show Go p e below s n0 (Q_c_add Z n0 h0 o0 (Int32.ofNat u) (Int32.ofNat wn) y3 nn kk Kc Fs u wn) 0 0 T (mkF m 0 #[.val (.ref o0), .val (.int (Int32.ofNat u)), .val (.int (Int32.ofNat wn)), .val (.long y3), .second] [])
  obtain ⟨X_o0, ge_o0, ah, ac, an, af, M, H, Hf, Cf, Nf, Ff, ge_ah, ge_ac, ge_an, ge_af, ne_o0_ah, ne_o0_ac, ne_o0_an, ne_o0_af, ne_ah_ac, ne_ah_an, ne_ah_af, ne_ac_an, ne_ac_af, ne_an_af, F_o0_heads, F_o0_capacities, F_o0_nextOut, F_o0_firstOut, F_o0_nodes, F_o0_edges, A_ah, A_ac, A_an, A_af, gp, hM, cap, hK, fs⟩ := P
  have ne_ah_o0 := Ne.symm ne_o0_ah
  have ne_ac_o0 := Ne.symm ne_o0_ac
  have ne_an_o0 := Ne.symm ne_o0_an
  have ne_af_o0 := Ne.symm ne_o0_af
  have ne_ac_ah := Ne.symm ne_ah_ac
  have ne_an_ah := Ne.symm ne_ah_an
  have ne_af_ah := Ne.symm ne_ah_af
  have ne_an_ac := Ne.symm ne_ac_an
  have ne_af_ac := Ne.symm ne_ac_af
  have ne_af_an := Ne.symm ne_an_af
  have kp := Keep.refl h0 [o0, ah, ac, an, af]
  have gp0 := gp
  obtain ⟨hn5, hk16, hkM, hM32, hH, hHf, hNf, hFf⟩ := gp
  have hM3 : M ≤ 32 := hM32
  have e2k : Int32.ofNat (2 * kk) + 2 = Int32.ofNat (2 * kk + 2) := (Int32.ofNat_add _ 2).symm
  refine g_aloadN K W d5_0 rfl rfl (pc' := 1) rfl ?_
  refine g_getF K W (host := "") (Or.inl (hw _ (List.mem_of_getElem? (i := 36) rfl))) Via.refl F_o0_edges d5_1 (pc' := 4) rfl (fun T W => ?_)
  refine g_iconst K W (v := (2 : Int32)) d5_4 rfl (pc' := 5) rfl ?_
  refine g_iadd K W d5_5 (pc' := 6) rfl ?_
  rw [e2k]
  refine g_aloadN K W d5_6 rfl rfl (pc' := 7) rfl ?_
  refine g_getF K W (host := "") (Or.inl (hw _ (List.mem_of_getElem? (i := 10) rfl))) Via.refl F_o0_heads d5_7 (pc' := 10) rfl (fun T W => ?_)
  refine g_alenI K W A_ah (v := (Int32.ofNat M)) rfl d5_10 (pc' := 11) rfl ?_
  refine g_icmp_le K W d5_11 (pt := 68) rfl (pf := 14) rfl (fun hc11 => absurd hc11 (fun z => by have := (own_lt (by omega) (by omega)).mp z; omega)) (fun hc11 => ?_)
  refine g_aloadN K W d5_68 rfl rfl (pc' := 69) rfl ?_
  refine g_iloadN K W d5_69 rfl (pc' := 70) rfl ?_
  refine g_iloadN K W d5_70 rfl (pc' := 71) rfl ?_
  refine g_lloadN K W d5_71 rfl (pc' := 72) rfl ?_
  refine g_ldc2 K W (v := (2305843009213693951 : Int64)) (hw _ (List.mem_of_getElem? (i := 38) rfl)) d5_72 (pc' := 75) rfl ?_
  refine g_callS (c_min l Z a0 hw n0 _ W.sz y3 (2305843009213693951 : Int64)) K W (hw _ (List.mem_of_getElem? (i := 39) rfl)) (hw _ (List.mem_of_getElem? (i := 40) rfl)) (hw _ (List.mem_of_getElem? (i := 41) rfl)) (hw _ (List.mem_of_getElem? (i := 42) rfl)) (by decide) (lenOf pd_1 rfl) d5_75 (pc' := 78) rfl (argsL := [(.long y3), (.long (2305843009213693951 : Int64))]) (rest := [(.int (Int32.ofNat wn)), (.int (Int32.ofNat u)), (.ref o0)]) rfl rfl (by decide) (wt := 3) rfl (by decide) (by decide) (by decide) ?_
  rintro T _ _ W ⟨rfl, rfl⟩
  show Go p e below s n0 (Q_c_add Z n0 h0 o0 (Int32.ofNat u) (Int32.ofNat wn) y3 nn kk Kc Fs u wn) 0 0 T (mkF m 78 #[.val (.ref o0), .val (.int (Int32.ofNat u)), .val (.int (Int32.ofNat wn)), .val (.long y3), .second] [(.long (own_minL y3 (2305843009213693951 : Int64))), (.int (Int32.ofNat wn)), (.int (Int32.ofNat u)), (.ref o0)])
  generalize hcc : own_minL y3 (2305843009213693951 : Int64) = cc
  have hcv : cc.toInt = min y3.toInt 2305843009213693951 := by rw [← hcc]; exact own_minL_toInt _ _
  have hMk : 2 * kk + 2 ≤ M := by omega
  refine g_callP (c_link l Z a0 hw n0 _ W.sz o0 (Int32.ofNat u) (Int32.ofNat wn) cc ah ac an af   nn M Hf Cf Nf Ff (2 * kk) u X_o0 F_o0_heads F_o0_capacities F_o0_nextOut F_o0_firstOut F_o0_nodes F_o0_edges A_ah A_ac A_an A_af ge_o0 ge_ah ge_ac ge_an ge_af ne_o0_ah ne_o0_ac ne_o0_an ne_o0_af ne_ah_o0 ne_ah_ac ne_ah_an ne_ah_af ne_ac_o0 ne_ac_ah ne_ac_an ne_ac_af ne_an_o0 ne_an_ah ne_an_ac ne_an_af ne_af_o0 ne_af_ah ne_af_ac ne_af_an rfl hu hn5 (by omega) (by omega)) K W X_o0.cell (hw _ (List.mem_of_getElem? (i := 43) rfl)) (hw _ (List.mem_of_getElem? (i := 44) rfl)) (hw _ (List.mem_of_getElem? (i := 1) rfl)) (hw _ (List.mem_of_getElem? (i := 45) rfl)) (hw _ (List.mem_of_getElem? (i := 2) rfl)) (hw _ (List.mem_of_getElem? (i := 46) rfl)) (by decide) (lenOf pd_6 rfl) d5_78 (pc' := 81) rfl (argsL := [(.int (Int32.ofNat u)), (.int (Int32.ofNat wn)), (.long cc)]) (rest := []) rfl rfl (by decide) (wt := 0) rfl (by decide) (by decide) (by decide) ?_
  rintro T h _ W ⟨rfl, kq, F_o0_heads, F_o0_capacities, F_o0_nextOut, F_o0_firstOut, F_o0_nodes, F_o0_edges, A_ah, A_ac, A_an, A_af⟩
  show Go p e below s n0 (Q_c_add Z n0 h0 o0 (Int32.ofNat u) (Int32.ofNat wn) y3 nn kk Kc Fs u wn) 0 0 T (mkF m 81 #[.val (.ref o0), .val (.int (Int32.ofNat u)), .val (.int (Int32.ofNat wn)), .val (.long y3), .second] [])
  have kp := kp.trans kq (allS (Or.inl (List.mem_of_getElem? (i := 0) rfl)) (allS (Or.inl (List.mem_of_getElem? (i := 1) rfl)) (allS (Or.inl (List.mem_of_getElem? (i := 2) rfl)) (allS (Or.inl (List.mem_of_getElem? (i := 3) rfl)) (allS (Or.inl (List.mem_of_getElem? (i := 4) rfl)) all0)))))
  have X_o0 := X_o0.keep kq
  refine g_aloadN K W d5_81 rfl rfl (pc' := 82) rfl ?_
  refine g_iloadN K W d5_82 rfl (pc' := 83) rfl ?_
  refine g_iloadN K W d5_83 rfl (pc' := 84) rfl ?_
  refine g_lconst K W (v := (0 : Int64)) d5_84 rfl (pc' := 85) rfl ?_
  refine g_callP (c_link l Z a0 hw n0 _ W.sz o0 (Int32.ofNat wn) (Int32.ofNat u) (0 : Int64) ah ac an af   nn M (upd Hf (2 * kk) (Int32.ofNat wn)) (upd Cf (2 * kk) cc) (upd Nf (2 * kk) (Ff u)) (upd Ff u (Int32.ofNat (2 * kk))) (2 * kk + 1) wn X_o0 F_o0_heads F_o0_capacities F_o0_nextOut F_o0_firstOut F_o0_nodes F_o0_edges A_ah A_ac A_an A_af ge_o0 ge_ah ge_ac ge_an ge_af ne_o0_ah ne_o0_ac ne_o0_an ne_o0_af ne_ah_o0 ne_ah_ac ne_ah_an ne_ah_af ne_ac_o0 ne_ac_ah ne_ac_an ne_ac_af ne_an_o0 ne_an_ah ne_an_ac ne_an_af ne_af_o0 ne_af_ah ne_af_ac ne_af_an rfl hw2 hn5 (by omega) (by omega)) K W X_o0.cell (hw _ (List.mem_of_getElem? (i := 43) rfl)) (hw _ (List.mem_of_getElem? (i := 44) rfl)) (hw _ (List.mem_of_getElem? (i := 1) rfl)) (hw _ (List.mem_of_getElem? (i := 45) rfl)) (hw _ (List.mem_of_getElem? (i := 2) rfl)) (hw _ (List.mem_of_getElem? (i := 46) rfl)) (by decide) (lenOf pd_6 rfl) d5_85 (pc' := 88) rfl (argsL := [(.int (Int32.ofNat wn)), (.int (Int32.ofNat u)), (.long (0 : Int64))]) (rest := []) rfl rfl (by decide) (wt := 0) rfl (by decide) (by decide) (by decide) ?_
  rintro T h _ W ⟨rfl, kq, F_o0_heads, F_o0_capacities, F_o0_nextOut, F_o0_firstOut, F_o0_nodes, F_o0_edges, A_ah, A_ac, A_an, A_af⟩
  show Go p e below s n0 (Q_c_add Z n0 h0 o0 (Int32.ofNat u) (Int32.ofNat wn) y3 nn kk Kc Fs u wn) 0 0 T (mkF m 88 #[.val (.ref o0), .val (.int (Int32.ofNat u)), .val (.int (Int32.ofNat wn)), .val (.long y3), .second] [])
  have kp := kp.trans kq (allS (Or.inl (List.mem_of_getElem? (i := 0) rfl)) (allS (Or.inl (List.mem_of_getElem? (i := 1) rfl)) (allS (Or.inl (List.mem_of_getElem? (i := 2) rfl)) (allS (Or.inl (List.mem_of_getElem? (i := 3) rfl)) (allS (Or.inl (List.mem_of_getElem? (i := 4) rfl)) all0)))))
  have X_o0 := X_o0.keep kq
  have hc0 : 0 ≤ cc.toInt := by omega
  have hcI : cc.toInt ≤ 2305843009213693951 := by omega
  have gp1 := gp0
  have cap1 := cap
  exact g_ret0 K W d5_88 (by decide) (by decide) ⟨rfl, fun x hx c hc => kp.2.1 x c hc (by have z := fs x hx; simp [z.2.1, z.2.2.1, z.2.2.2.1, z.2.2.2.2.1, z.2.2.2.2.2]), X_o0, ge_o0, ah, ac, an, af, M, upd (upd H (2 * kk) wn) (2 * kk + 1) u, _, _, _, _, ge_ah, ge_ac, ge_an, ge_af, ne_o0_ah, ne_o0_ac, ne_o0_an, ne_o0_af, ne_ah_ac, ne_ah_an, ne_ah_af, ne_ac_an, ne_ac_af, ne_an_af, F_o0_heads, F_o0_capacities, F_o0_nextOut, F_o0_firstOut, F_o0_nodes, F_o0_edges, A_ah, A_ac, A_an, A_af, gp1.add hMk hu hw2, hM, cap1.add hc0 hcI, fun S => by rw [cut_add, hcv, ← hK S], fun x hx => by have z := fs x hx; exact ⟨Nat.lt_of_lt_of_le z.1 kp.1, z.2.1, z.2.2.1, z.2.2.2.1, z.2.2.2.2.1, z.2.2.2.2.2⟩⟩
def Q_c_addG (Z : State) (n0 : Nat) (h0 : Heap) (o0 : Addr) (x1 : Int32) (x2 : Int32) (y3 : Int64) (nn : Nat) (kk : Nat) (Kc : (Nat → Bool) → Int) (Fs : List Addr) (u : Nat) (wn : Nat) : Option Value → Heap → Prop := fun v h => v = none ∧ Sm h0 h Fs ∧ MC Z n0 h o0 nn (kk + 1) (fun S => Kc S + if S u = true ∧ S wn = false then min y3.toInt 2305843009213693951 else 0) Fs
abbrev rm_c_addG : Room := { frames := 2, cells := 3, slots := 96, locals := 33 }
set_option maxHeartbeats 40000000 in
theorem c_addG (l : Launch) (Z : State) (a0 : Array Value) (hw : ∀ d ∈ tables_1, d.before a0 Z = true) (n0 : Nat) (h0 : Heap) (hn : n0 ≤ h0.size) (o0 : Addr) (x1 : Int32) (x2 : Int32) (y3 : Int64) (nn : Nat) (kk : Nat) (Kc : (Nat → Bool) → Int) (Fs : List Addr) (u : Nat) (wn : Nat) (P : MC Z n0 h0 o0 nn kk Kc Fs) (ex1 : x1 = Int32.ofNat u) (hu : u < nn) (ex2 : x2 = Int32.ofNat wn) (hw2 : wn < nn) (hk8 : kk ≤ 8) (hy : 0 ≤ y3.toInt) :
    Mt l Z (⟨"com/example/ichnos/ichnos/planning/ils/MinCut", "add", "(IIJ)V"⟩ : MethodName) prog_66_method_2_code 5 none rm_c_addG n0 #[(.ref o0), (.int x1), (.int x2), (.long y3)] h0 (Q_c_addG Z n0 h0 o0 x1 x2 y3 nn kk Kc Fs u wn) := by
  refine met_of (plainFor_of_name pn_1) (Ls := #[.val (.ref o0), .val (.int x1), .val (.int x2), .val (.long y3), .second]) (fun m => by first | (simp [entryFrame, mkF, argsToLocals, Value.category]; done) | rfl) hn ?_
  intro p e s m below meth c T K W
  replace K : Cx p s m meth c Z "com/example/ichnos/ichnos/planning/ils/MinCut" "add" prog_66_method_2_code 5 none := K
  generalize eA : (#[(.ref o0), (.int x1), (.int x2), (.long y3)] : Array Value) = args at W
  show Go p e below s n0 (Q_c_addG Z n0 h0 o0 x1 x2 y3 nn kk Kc Fs u wn) 3 96 T (mkF m 0 #[.val (.ref o0), .val (.int x1), .val (.int x2), .val (.long y3), .second] [])
  subst ex1 ex2
  show Go p e below s n0 (Q_c_addG Z n0 h0 o0 (Int32.ofNat u) (Int32.ofNat wn) y3 nn kk Kc Fs u wn) 3 96 T (mkF m 0 #[.val (.ref o0), .val (.int (Int32.ofNat u)), .val (.int (Int32.ofNat wn)), .val (.long y3), .second] [])
  obtain ⟨X_o0, ge_o0, ah, ac, an, af, M, H, Hf, Cf, Nf, Ff, ge_ah, ge_ac, ge_an, ge_af, ne_o0_ah, ne_o0_ac, ne_o0_an, ne_o0_af, ne_ah_ac, ne_ah_an, ne_ah_af, ne_ac_an, ne_ac_af, ne_an_af, F_o0_heads, F_o0_capacities, F_o0_nextOut, F_o0_firstOut, F_o0_nodes, F_o0_edges, A_ah, A_ac, A_an, A_af, gp, hM, cap, hK, fs⟩ := P
  have ne_ah_o0 := Ne.symm ne_o0_ah
  have ne_ac_o0 := Ne.symm ne_o0_ac
  have ne_an_o0 := Ne.symm ne_o0_an
  have ne_af_o0 := Ne.symm ne_o0_af
  have ne_ac_ah := Ne.symm ne_ah_ac
  have ne_an_ah := Ne.symm ne_ah_an
  have ne_af_ah := Ne.symm ne_ah_af
  have ne_an_ac := Ne.symm ne_ac_an
  have ne_af_ac := Ne.symm ne_ac_af
  have ne_af_an := Ne.symm ne_an_af
  have kp := Keep.refl h0 [o0, ah, ac, an, af]
  have gp0 := gp
  obtain ⟨hn5, hk16, hkM, hM32, hH, hHf, hNf, hFf⟩ := gp
  have hM3 : M ≤ 32 := hM32
  have e2k : Int32.ofNat (2 * kk) + 2 = Int32.ofNat (2 * kk + 2) := (Int32.ofNat_add _ 2).symm
  refine g_aloadN K W d5_0 rfl rfl (pc' := 1) rfl ?_
  refine g_getF K W (host := "") (Or.inl (hw _ (List.mem_of_getElem? (i := 36) rfl))) Via.refl F_o0_edges d5_1 (pc' := 4) rfl (fun T W => ?_)
  refine g_iconst K W (v := (2 : Int32)) d5_4 rfl (pc' := 5) rfl ?_
  refine g_iadd K W d5_5 (pc' := 6) rfl ?_
  rw [e2k]
  refine g_aloadN K W d5_6 rfl rfl (pc' := 7) rfl ?_
  refine g_getF K W (host := "") (Or.inl (hw _ (List.mem_of_getElem? (i := 10) rfl))) Via.refl F_o0_heads d5_7 (pc' := 10) rfl (fun T W => ?_)
  refine g_alenI K W A_ah (v := (Int32.ofNat M)) rfl d5_10 (pc' := 11) rfl ?_
  refine g_icmp_le K W d5_11 (pt := 68) rfl (pf := 14) rfl (fun hc11 => ?_) (fun hc11 => ?_)
  · have hM16 : M = 16 := by have := (own_lt (i := M) (n := 2 * kk + 2) (by omega) (by omega)).mp hc11; omega
    subst hM16
    show Go p e below s n0 (Q_c_addG Z n0 h0 o0 (Int32.ofNat u) (Int32.ofNat wn) y3 nn kk Kc Fs u wn) 3 96 T (mkF m 14 #[.val (.ref o0), .val (.int (Int32.ofNat u)), .val (.int (Int32.ofNat wn)), .val (.long y3), .second] [])
    refine g_aloadN K W d5_14 rfl rfl (pc' := 15) rfl ?_
    refine g_aloadN K W d5_15 rfl rfl (pc' := 16) rfl ?_
    refine g_getF K W (host := "") (Or.inl (hw _ (List.mem_of_getElem? (i := 10) rfl))) Via.refl F_o0_heads d5_16 (pc' := 19) rfl (fun T W => ?_)
    refine g_aloadN K W d5_19 rfl rfl (pc' := 20) rfl ?_
    refine g_getF K W (host := "") (Or.inl (hw _ (List.mem_of_getElem? (i := 10) rfl))) Via.refl F_o0_heads d5_20 (pc' := 23) rfl (fun T W => ?_)
    refine g_alenI K W A_ah (v := (16 : Int32)) rfl d5_23 (pc' := 24) rfl ?_
    refine g_iconst K W (v := (2 : Int32)) d5_24 rfl (pc' := 25) rfl ?_
    refine g_imul K W d5_25 (pc' := 26) rfl ?_
    rw [show (16 : Int32) * (2 : Int32) = 32 from rfl]
    have lts : o0 < Array.size h0 ∧ ah < Array.size h0 ∧ ac < Array.size h0 ∧ an < Array.size h0 ∧ af < Array.size h0 := ⟨X_o0.lt, A_ah.lt, A_ac.lt, A_an.lt, A_af.lt⟩
    have szh := kp.1
    refine g_callS (c_cpI l Z a0 hw n0 _ W.sz ah (32 : Int32) _ A_ah rfl) K W (hw _ (List.mem_of_getElem? (i := 49) rfl)) (hw _ (List.mem_of_getElem? (i := 50) rfl)) (hw _ (List.mem_of_getElem? (i := 23) rfl)) (hw _ (List.mem_of_getElem? (i := 51) rfl)) (by decide) (lenOf pd_7 rfl) d5_26 (pc' := 29) rfl (argsL := [(.ref ah), (.int (32 : Int32))]) (rest := [(.ref o0)]) rfl rfl (by decide) (wt := 1) rfl (by decide) (by decide) (by decide) ?_
    rintro T h _ W ⟨bh, gbh, rfl, ge_bh, sz_bh, kq, A_bh, hgbh⟩
    show Go p e below s n0 (Q_c_addG Z n0 h0 o0 (Int32.ofNat u) (Int32.ofNat wn) y3 nn kk Kc Fs u wn) 3 96 T (mkF m 29 #[.val (.ref o0), .val (.int (Int32.ofNat u)), .val (.int (Int32.ofNat wn)), .val (.long y3), .second] [(.ref bh), (.ref o0)])
    have szq_bh := sz_bh
    have kp := kp.trans kq all0
    have X_o0 := X_o0.keep kq
    have F_o0_heads := F_o0_heads.keep kq nin0
    have F_o0_capacities := F_o0_capacities.keep kq nin0
    have F_o0_nextOut := F_o0_nextOut.keep kq nin0
    have F_o0_firstOut := F_o0_firstOut.keep kq nin0
    have F_o0_nodes := F_o0_nodes.keep kq nin0
    have F_o0_edges := F_o0_edges.keep kq nin0
    have A_ah := A_ah.keep kq nin0
    have A_ac := A_ac.keep kq nin0
    have A_an := A_an.keep kq nin0
    have A_af := A_af.keep kq nin0
    have sz_bh := Nat.le_trans szh sz_bh
    obtain ⟨l0, l1, l2, l3, l4⟩ := lts
    have ne_o0_bh : o0 ≠ bh := Nat.ne_of_lt (Nat.lt_of_lt_of_le l0 szq_bh)
    have ne_bh_o0 := Ne.symm ne_o0_bh
    have ne_ah_bh : ah ≠ bh := Nat.ne_of_lt (Nat.lt_of_lt_of_le l1 szq_bh)
    have ne_bh_ah := Ne.symm ne_ah_bh
    have ne_ac_bh : ac ≠ bh := Nat.ne_of_lt (Nat.lt_of_lt_of_le l2 szq_bh)
    have ne_bh_ac := Ne.symm ne_ac_bh
    have ne_an_bh : an ≠ bh := Nat.ne_of_lt (Nat.lt_of_lt_of_le l3 szq_bh)
    have ne_bh_an := Ne.symm ne_an_bh
    have ne_af_bh : af ≠ bh := Nat.ne_of_lt (Nat.lt_of_lt_of_le l4 szq_bh)
    have ne_bh_af := Ne.symm ne_af_bh
    refine g_putF K W (host := "") (Or.inl (hw _ (List.mem_of_getElem? (i := 10) rfl))) Via.refl F_o0_heads X_o0 (Or.inl (hw _ (List.mem_of_getElem? (i := 11) rfl))) (hw _ (List.mem_of_getElem? (i := 1) rfl)) (ty := (.array .int)) (by decide) rfl rfl ge_o0 d5_29 (pc' := 32) rfl (fun T h W w => ?_)
    have kp := kp.wr w (Or.inl (List.mem_of_getElem? (i := 0) rfl))
    have X_o0 := X_o0.wr w
    have F_o0_capacities := F_o0_capacities.other w (Or.inr (slot_ne (a0 := a0) (C := "com/example/ichnos/ichnos/planning/ils/MinCut") (Or.inl (hw _ (List.mem_of_getElem? (i := 14) rfl))) (Or.inl (hw _ (List.mem_of_getElem? (i := 11) rfl))) (by decide) (t := (.array .long)) (t' := (.array .int)) (by decide) (by decide)))
    have F_o0_nextOut := F_o0_nextOut.other w (Or.inr (slot_ne (a0 := a0) (C := "com/example/ichnos/ichnos/planning/ils/MinCut") (Or.inl (hw _ (List.mem_of_getElem? (i := 16) rfl))) (Or.inl (hw _ (List.mem_of_getElem? (i := 11) rfl))) (by decide) (t := (.array .int)) (t' := (.array .int)) (by decide) (by decide)))
    have F_o0_firstOut := F_o0_firstOut.other w (Or.inr (slot_ne (a0 := a0) (C := "com/example/ichnos/ichnos/planning/ils/MinCut") (Or.inr (hw _ (List.mem_of_getElem? (i := 20) rfl))) (Or.inl (hw _ (List.mem_of_getElem? (i := 11) rfl))) (by decide) (t := (.array .int)) (t' := (.array .int)) (by decide) (by decide)))
    have F_o0_nodes := F_o0_nodes.other w (Or.inr (slot_ne (a0 := a0) (C := "com/example/ichnos/ichnos/planning/ils/MinCut") (Or.inr (hw _ (List.mem_of_getElem? (i := 18) rfl))) (Or.inl (hw _ (List.mem_of_getElem? (i := 11) rfl))) (by decide) (t := .int) (t' := (.array .int)) (by decide) (by decide)))
    have F_o0_edges := F_o0_edges.other w (Or.inr (slot_ne (a0 := a0) (C := "com/example/ichnos/ichnos/planning/ils/MinCut") (Or.inl (hw _ (List.mem_of_getElem? (i := 37) rfl))) (Or.inl (hw _ (List.mem_of_getElem? (i := 11) rfl))) (by decide) (t := .int) (t' := (.array .int)) (by decide) (by decide)))
    have A_ah := A_ah.other w ne_ah_o0
    have A_ac := A_ac.other w ne_ac_o0
    have A_an := A_an.other w ne_an_o0
    have A_af := A_af.other w ne_af_o0
    have A_bh := A_bh.other w ne_bh_o0
    have F_o0_heads := F_o0_heads.same w
    refine g_aloadN K W d5_32 rfl rfl (pc' := 33) rfl ?_
    refine g_aloadN K W d5_33 rfl rfl (pc' := 34) rfl ?_
    refine g_getF K W (host := "") (Or.inl (hw _ (List.mem_of_getElem? (i := 13) rfl))) Via.refl F_o0_capacities d5_34 (pc' := 37) rfl (fun T W => ?_)
    refine g_aloadN K W d5_37 rfl rfl (pc' := 38) rfl ?_
    refine g_getF K W (host := "") (Or.inl (hw _ (List.mem_of_getElem? (i := 13) rfl))) Via.refl F_o0_capacities d5_38 (pc' := 41) rfl (fun T W => ?_)
    refine g_alenJ K W A_ac (v := (16 : Int32)) rfl d5_41 (pc' := 42) rfl ?_
    refine g_iconst K W (v := (2 : Int32)) d5_42 rfl (pc' := 43) rfl ?_
    refine g_imul K W d5_43 (pc' := 44) rfl ?_
    rw [show (16 : Int32) * (2 : Int32) = 32 from rfl]
    have lts : o0 < Array.size h ∧ ah < Array.size h ∧ ac < Array.size h ∧ an < Array.size h ∧ af < Array.size h ∧ bh < Array.size h := ⟨X_o0.lt, A_ah.lt, A_ac.lt, A_an.lt, A_af.lt, A_bh.lt⟩
    have szh := kp.1
    refine g_callS (c_cpJ l Z a0 hw n0 _ W.sz ac (32 : Int32) _ A_ac rfl) K W (hw _ (List.mem_of_getElem? (i := 59) rfl)) (hw _ (List.mem_of_getElem? (i := 60) rfl)) (hw _ (List.mem_of_getElem? (i := 23) rfl)) (hw _ (List.mem_of_getElem? (i := 61) rfl)) (by decide) (lenOf pd_8 rfl) d5_44 (pc' := 47) rfl (argsL := [(.ref ac), (.int (32 : Int32))]) (rest := [(.ref o0)]) rfl rfl (by decide) (wt := 1) rfl (by decide) (by decide) (by decide) ?_
    rintro T h _ W ⟨bc, gbc, rfl, ge_bc, sz_bc, kq, A_bc, hgbc⟩
    show Go p e below s n0 (Q_c_addG Z n0 h0 o0 (Int32.ofNat u) (Int32.ofNat wn) y3 nn kk Kc Fs u wn) 3 96 T (mkF m 47 #[.val (.ref o0), .val (.int (Int32.ofNat u)), .val (.int (Int32.ofNat wn)), .val (.long y3), .second] [(.ref bc), (.ref o0)])
    have szq_bc := sz_bc
    have kp := kp.trans kq all0
    have X_o0 := X_o0.keep kq
    have F_o0_heads := F_o0_heads.keep kq nin0
    have F_o0_capacities := F_o0_capacities.keep kq nin0
    have F_o0_nextOut := F_o0_nextOut.keep kq nin0
    have F_o0_firstOut := F_o0_firstOut.keep kq nin0
    have F_o0_nodes := F_o0_nodes.keep kq nin0
    have F_o0_edges := F_o0_edges.keep kq nin0
    have A_ah := A_ah.keep kq nin0
    have A_ac := A_ac.keep kq nin0
    have A_an := A_an.keep kq nin0
    have A_af := A_af.keep kq nin0
    have A_bh := A_bh.keep kq nin0
    have sz_bc := Nat.le_trans szh sz_bc
    obtain ⟨l0, l1, l2, l3, l4, l5⟩ := lts
    have ne_o0_bc : o0 ≠ bc := Nat.ne_of_lt (Nat.lt_of_lt_of_le l0 szq_bc)
    have ne_bc_o0 := Ne.symm ne_o0_bc
    have ne_ah_bc : ah ≠ bc := Nat.ne_of_lt (Nat.lt_of_lt_of_le l1 szq_bc)
    have ne_bc_ah := Ne.symm ne_ah_bc
    have ne_ac_bc : ac ≠ bc := Nat.ne_of_lt (Nat.lt_of_lt_of_le l2 szq_bc)
    have ne_bc_ac := Ne.symm ne_ac_bc
    have ne_an_bc : an ≠ bc := Nat.ne_of_lt (Nat.lt_of_lt_of_le l3 szq_bc)
    have ne_bc_an := Ne.symm ne_an_bc
    have ne_af_bc : af ≠ bc := Nat.ne_of_lt (Nat.lt_of_lt_of_le l4 szq_bc)
    have ne_bc_af := Ne.symm ne_af_bc
    have ne_bh_bc : bh ≠ bc := Nat.ne_of_lt (Nat.lt_of_lt_of_le l5 szq_bc)
    have ne_bc_bh := Ne.symm ne_bh_bc
    refine g_putF K W (host := "") (Or.inl (hw _ (List.mem_of_getElem? (i := 13) rfl))) Via.refl F_o0_capacities X_o0 (Or.inl (hw _ (List.mem_of_getElem? (i := 14) rfl))) (hw _ (List.mem_of_getElem? (i := 1) rfl)) (ty := (.array .long)) (by decide) rfl rfl ge_o0 d5_47 (pc' := 50) rfl (fun T h W w => ?_)
    have kp := kp.wr w (Or.inl (List.mem_of_getElem? (i := 0) rfl))
    have X_o0 := X_o0.wr w
    have F_o0_heads := F_o0_heads.other w (Or.inr (slot_ne (a0 := a0) (C := "com/example/ichnos/ichnos/planning/ils/MinCut") (Or.inl (hw _ (List.mem_of_getElem? (i := 11) rfl))) (Or.inl (hw _ (List.mem_of_getElem? (i := 14) rfl))) (by decide) (t := (.array .int)) (t' := (.array .long)) (by decide) (by decide)))
    have F_o0_nextOut := F_o0_nextOut.other w (Or.inr (slot_ne (a0 := a0) (C := "com/example/ichnos/ichnos/planning/ils/MinCut") (Or.inl (hw _ (List.mem_of_getElem? (i := 16) rfl))) (Or.inl (hw _ (List.mem_of_getElem? (i := 14) rfl))) (by decide) (t := (.array .int)) (t' := (.array .long)) (by decide) (by decide)))
    have F_o0_firstOut := F_o0_firstOut.other w (Or.inr (slot_ne (a0 := a0) (C := "com/example/ichnos/ichnos/planning/ils/MinCut") (Or.inr (hw _ (List.mem_of_getElem? (i := 20) rfl))) (Or.inl (hw _ (List.mem_of_getElem? (i := 14) rfl))) (by decide) (t := (.array .int)) (t' := (.array .long)) (by decide) (by decide)))
    have F_o0_nodes := F_o0_nodes.other w (Or.inr (slot_ne (a0 := a0) (C := "com/example/ichnos/ichnos/planning/ils/MinCut") (Or.inr (hw _ (List.mem_of_getElem? (i := 18) rfl))) (Or.inl (hw _ (List.mem_of_getElem? (i := 14) rfl))) (by decide) (t := .int) (t' := (.array .long)) (by decide) (by decide)))
    have F_o0_edges := F_o0_edges.other w (Or.inr (slot_ne (a0 := a0) (C := "com/example/ichnos/ichnos/planning/ils/MinCut") (Or.inl (hw _ (List.mem_of_getElem? (i := 37) rfl))) (Or.inl (hw _ (List.mem_of_getElem? (i := 14) rfl))) (by decide) (t := .int) (t' := (.array .long)) (by decide) (by decide)))
    have A_ah := A_ah.other w ne_ah_o0
    have A_ac := A_ac.other w ne_ac_o0
    have A_an := A_an.other w ne_an_o0
    have A_af := A_af.other w ne_af_o0
    have A_bh := A_bh.other w ne_bh_o0
    have A_bc := A_bc.other w ne_bc_o0
    have F_o0_capacities := F_o0_capacities.same w
    refine g_aloadN K W d5_50 rfl rfl (pc' := 51) rfl ?_
    refine g_aloadN K W d5_51 rfl rfl (pc' := 52) rfl ?_
    refine g_getF K W (host := "") (Or.inl (hw _ (List.mem_of_getElem? (i := 15) rfl))) Via.refl F_o0_nextOut d5_52 (pc' := 55) rfl (fun T W => ?_)
    refine g_aloadN K W d5_55 rfl rfl (pc' := 56) rfl ?_
    refine g_getF K W (host := "") (Or.inl (hw _ (List.mem_of_getElem? (i := 15) rfl))) Via.refl F_o0_nextOut d5_56 (pc' := 59) rfl (fun T W => ?_)
    refine g_alenI K W A_an (v := (16 : Int32)) rfl d5_59 (pc' := 60) rfl ?_
    refine g_iconst K W (v := (2 : Int32)) d5_60 rfl (pc' := 61) rfl ?_
    refine g_imul K W d5_61 (pc' := 62) rfl ?_
    rw [show (16 : Int32) * (2 : Int32) = 32 from rfl]
    have lts : o0 < Array.size h ∧ ah < Array.size h ∧ ac < Array.size h ∧ an < Array.size h ∧ af < Array.size h ∧ bh < Array.size h ∧ bc < Array.size h := ⟨X_o0.lt, A_ah.lt, A_ac.lt, A_an.lt, A_af.lt, A_bh.lt, A_bc.lt⟩
    have szh := kp.1
    refine g_callS (c_cpI l Z a0 hw n0 _ W.sz an (32 : Int32) _ A_an rfl) K W (hw _ (List.mem_of_getElem? (i := 49) rfl)) (hw _ (List.mem_of_getElem? (i := 50) rfl)) (hw _ (List.mem_of_getElem? (i := 23) rfl)) (hw _ (List.mem_of_getElem? (i := 51) rfl)) (by decide) (lenOf pd_7 rfl) d5_62 (pc' := 65) rfl (argsL := [(.ref an), (.int (32 : Int32))]) (rest := [(.ref o0)]) rfl rfl (by decide) (wt := 1) rfl (by decide) (by decide) (by decide) ?_
    rintro T h _ W ⟨bn, gbn, rfl, ge_bn, sz_bn, kq, A_bn, hgbn⟩
    show Go p e below s n0 (Q_c_addG Z n0 h0 o0 (Int32.ofNat u) (Int32.ofNat wn) y3 nn kk Kc Fs u wn) 3 96 T (mkF m 65 #[.val (.ref o0), .val (.int (Int32.ofNat u)), .val (.int (Int32.ofNat wn)), .val (.long y3), .second] [(.ref bn), (.ref o0)])
    have szq_bn := sz_bn
    have kp := kp.trans kq all0
    have X_o0 := X_o0.keep kq
    have F_o0_heads := F_o0_heads.keep kq nin0
    have F_o0_capacities := F_o0_capacities.keep kq nin0
    have F_o0_nextOut := F_o0_nextOut.keep kq nin0
    have F_o0_firstOut := F_o0_firstOut.keep kq nin0
    have F_o0_nodes := F_o0_nodes.keep kq nin0
    have F_o0_edges := F_o0_edges.keep kq nin0
    have A_ah := A_ah.keep kq nin0
    have A_ac := A_ac.keep kq nin0
    have A_an := A_an.keep kq nin0
    have A_af := A_af.keep kq nin0
    have A_bh := A_bh.keep kq nin0
    have A_bc := A_bc.keep kq nin0
    have sz_bn := Nat.le_trans szh sz_bn
    obtain ⟨l0, l1, l2, l3, l4, l5, l6⟩ := lts
    have ne_o0_bn : o0 ≠ bn := Nat.ne_of_lt (Nat.lt_of_lt_of_le l0 szq_bn)
    have ne_bn_o0 := Ne.symm ne_o0_bn
    have ne_ah_bn : ah ≠ bn := Nat.ne_of_lt (Nat.lt_of_lt_of_le l1 szq_bn)
    have ne_bn_ah := Ne.symm ne_ah_bn
    have ne_ac_bn : ac ≠ bn := Nat.ne_of_lt (Nat.lt_of_lt_of_le l2 szq_bn)
    have ne_bn_ac := Ne.symm ne_ac_bn
    have ne_an_bn : an ≠ bn := Nat.ne_of_lt (Nat.lt_of_lt_of_le l3 szq_bn)
    have ne_bn_an := Ne.symm ne_an_bn
    have ne_af_bn : af ≠ bn := Nat.ne_of_lt (Nat.lt_of_lt_of_le l4 szq_bn)
    have ne_bn_af := Ne.symm ne_af_bn
    have ne_bh_bn : bh ≠ bn := Nat.ne_of_lt (Nat.lt_of_lt_of_le l5 szq_bn)
    have ne_bn_bh := Ne.symm ne_bh_bn
    have ne_bc_bn : bc ≠ bn := Nat.ne_of_lt (Nat.lt_of_lt_of_le l6 szq_bn)
    have ne_bn_bc := Ne.symm ne_bc_bn
    refine g_putF K W (host := "") (Or.inl (hw _ (List.mem_of_getElem? (i := 15) rfl))) Via.refl F_o0_nextOut X_o0 (Or.inl (hw _ (List.mem_of_getElem? (i := 16) rfl))) (hw _ (List.mem_of_getElem? (i := 1) rfl)) (ty := (.array .int)) (by decide) rfl rfl ge_o0 d5_65 (pc' := 68) rfl (fun T h W w => ?_)
    have kp := kp.wr w (Or.inl (List.mem_of_getElem? (i := 0) rfl))
    have X_o0 := X_o0.wr w
    have F_o0_heads := F_o0_heads.other w (Or.inr (slot_ne (a0 := a0) (C := "com/example/ichnos/ichnos/planning/ils/MinCut") (Or.inl (hw _ (List.mem_of_getElem? (i := 11) rfl))) (Or.inl (hw _ (List.mem_of_getElem? (i := 16) rfl))) (by decide) (t := (.array .int)) (t' := (.array .int)) (by decide) (by decide)))
    have F_o0_capacities := F_o0_capacities.other w (Or.inr (slot_ne (a0 := a0) (C := "com/example/ichnos/ichnos/planning/ils/MinCut") (Or.inl (hw _ (List.mem_of_getElem? (i := 14) rfl))) (Or.inl (hw _ (List.mem_of_getElem? (i := 16) rfl))) (by decide) (t := (.array .long)) (t' := (.array .int)) (by decide) (by decide)))
    have F_o0_firstOut := F_o0_firstOut.other w (Or.inr (slot_ne (a0 := a0) (C := "com/example/ichnos/ichnos/planning/ils/MinCut") (Or.inr (hw _ (List.mem_of_getElem? (i := 20) rfl))) (Or.inl (hw _ (List.mem_of_getElem? (i := 16) rfl))) (by decide) (t := (.array .int)) (t' := (.array .int)) (by decide) (by decide)))
    have F_o0_nodes := F_o0_nodes.other w (Or.inr (slot_ne (a0 := a0) (C := "com/example/ichnos/ichnos/planning/ils/MinCut") (Or.inr (hw _ (List.mem_of_getElem? (i := 18) rfl))) (Or.inl (hw _ (List.mem_of_getElem? (i := 16) rfl))) (by decide) (t := .int) (t' := (.array .int)) (by decide) (by decide)))
    have F_o0_edges := F_o0_edges.other w (Or.inr (slot_ne (a0 := a0) (C := "com/example/ichnos/ichnos/planning/ils/MinCut") (Or.inl (hw _ (List.mem_of_getElem? (i := 37) rfl))) (Or.inl (hw _ (List.mem_of_getElem? (i := 16) rfl))) (by decide) (t := .int) (t' := (.array .int)) (by decide) (by decide)))
    have A_ah := A_ah.other w ne_ah_o0
    have A_ac := A_ac.other w ne_ac_o0
    have A_an := A_an.other w ne_an_o0
    have A_af := A_af.other w ne_af_o0
    have A_bh := A_bh.other w ne_bh_o0
    have A_bc := A_bc.other w ne_bc_o0
    have A_bn := A_bn.other w ne_bn_o0
    have F_o0_nextOut := F_o0_nextOut.same w
    refine g_aloadN K W d5_68 rfl rfl (pc' := 69) rfl ?_
    refine g_iloadN K W d5_69 rfl (pc' := 70) rfl ?_
    refine g_iloadN K W d5_70 rfl (pc' := 71) rfl ?_
    refine g_lloadN K W d5_71 rfl (pc' := 72) rfl ?_
    refine g_ldc2 K W (v := (2305843009213693951 : Int64)) (hw _ (List.mem_of_getElem? (i := 38) rfl)) d5_72 (pc' := 75) rfl ?_
    refine g_callS (c_min l Z a0 hw n0 _ W.sz y3 (2305843009213693951 : Int64)) K W (hw _ (List.mem_of_getElem? (i := 39) rfl)) (hw _ (List.mem_of_getElem? (i := 40) rfl)) (hw _ (List.mem_of_getElem? (i := 41) rfl)) (hw _ (List.mem_of_getElem? (i := 42) rfl)) (by decide) (lenOf pd_1 rfl) d5_75 (pc' := 78) rfl (argsL := [(.long y3), (.long (2305843009213693951 : Int64))]) (rest := [(.int (Int32.ofNat wn)), (.int (Int32.ofNat u)), (.ref o0)]) rfl rfl (by decide) (wt := 3) rfl (by decide) (by decide) (by decide) ?_
    rintro T _ _ W ⟨rfl, rfl⟩
    show Go p e below s n0 (Q_c_addG Z n0 h0 o0 (Int32.ofNat u) (Int32.ofNat wn) y3 nn kk Kc Fs u wn) 3 96 T (mkF m 78 #[.val (.ref o0), .val (.int (Int32.ofNat u)), .val (.int (Int32.ofNat wn)), .val (.long y3), .second] [(.long (own_minL y3 (2305843009213693951 : Int64))), (.int (Int32.ofNat wn)), (.int (Int32.ofNat u)), (.ref o0)])
    generalize hcc : own_minL y3 (2305843009213693951 : Int64) = cc
    have hcv : cc.toInt = min y3.toInt 2305843009213693951 := by rw [← hcc]; exact own_minL_toInt _ _
    have hMk : 2 * kk + 2 ≤ 32 := by omega
    refine g_callP (c_link l Z a0 hw n0 _ W.sz o0 (Int32.ofNat u) (Int32.ofNat wn) cc bh bc bn af   nn 32 gbh gbc gbn Ff (2 * kk) u X_o0 F_o0_heads F_o0_capacities F_o0_nextOut F_o0_firstOut F_o0_nodes F_o0_edges A_bh A_bc A_bn A_af ge_o0 ge_bh ge_bc ge_bn ge_af ne_o0_bh ne_o0_bc ne_o0_bn ne_o0_af ne_bh_o0 ne_bh_bc ne_bh_bn ne_bh_af ne_bc_o0 ne_bc_bh ne_bc_bn ne_bc_af ne_bn_o0 ne_bn_bh ne_bn_bc ne_bn_af ne_af_o0 ne_af_bh ne_af_bc ne_af_bn rfl hu hn5 (by omega) (by omega)) K W X_o0.cell (hw _ (List.mem_of_getElem? (i := 43) rfl)) (hw _ (List.mem_of_getElem? (i := 44) rfl)) (hw _ (List.mem_of_getElem? (i := 1) rfl)) (hw _ (List.mem_of_getElem? (i := 45) rfl)) (hw _ (List.mem_of_getElem? (i := 2) rfl)) (hw _ (List.mem_of_getElem? (i := 46) rfl)) (by decide) (lenOf pd_6 rfl) d5_78 (pc' := 81) rfl (argsL := [(.int (Int32.ofNat u)), (.int (Int32.ofNat wn)), (.long cc)]) (rest := []) rfl rfl (by decide) (wt := 0) rfl (by decide) (by decide) (by decide) ?_
    rintro T h _ W ⟨rfl, kq, F_o0_heads, F_o0_capacities, F_o0_nextOut, F_o0_firstOut, F_o0_nodes, F_o0_edges, A_bh, A_bc, A_bn, A_af⟩
    show Go p e below s n0 (Q_c_addG Z n0 h0 o0 (Int32.ofNat u) (Int32.ofNat wn) y3 nn kk Kc Fs u wn) 3 96 T (mkF m 81 #[.val (.ref o0), .val (.int (Int32.ofNat u)), .val (.int (Int32.ofNat wn)), .val (.long y3), .second] [])
    have kp := kp.trans kq (allS (Or.inl (List.mem_of_getElem? (i := 0) rfl)) (allS (Or.inr sz_bh) (allS (Or.inr sz_bc) (allS (Or.inr sz_bn) (allS (Or.inl (List.mem_of_getElem? (i := 4) rfl)) all0)))))
    have X_o0 := X_o0.keep kq
    have A_ah := A_ah.keep kq (ninS ne_ah_o0 (ninS ne_ah_bh (ninS ne_ah_bc (ninS ne_ah_bn (ninS ne_ah_af nin0)))))
    have A_ac := A_ac.keep kq (ninS ne_ac_o0 (ninS ne_ac_bh (ninS ne_ac_bc (ninS ne_ac_bn (ninS ne_ac_af nin0)))))
    have A_an := A_an.keep kq (ninS ne_an_o0 (ninS ne_an_bh (ninS ne_an_bc (ninS ne_an_bn (ninS ne_an_af nin0)))))
    refine g_aloadN K W d5_81 rfl rfl (pc' := 82) rfl ?_
    refine g_iloadN K W d5_82 rfl (pc' := 83) rfl ?_
    refine g_iloadN K W d5_83 rfl (pc' := 84) rfl ?_
    refine g_lconst K W (v := (0 : Int64)) d5_84 rfl (pc' := 85) rfl ?_
    refine g_callP (c_link l Z a0 hw n0 _ W.sz o0 (Int32.ofNat wn) (Int32.ofNat u) (0 : Int64) bh bc bn af   nn 32 (upd gbh (2 * kk) (Int32.ofNat wn)) (upd gbc (2 * kk) cc) (upd gbn (2 * kk) (Ff u)) (upd Ff u (Int32.ofNat (2 * kk))) (2 * kk + 1) wn X_o0 F_o0_heads F_o0_capacities F_o0_nextOut F_o0_firstOut F_o0_nodes F_o0_edges A_bh A_bc A_bn A_af ge_o0 ge_bh ge_bc ge_bn ge_af ne_o0_bh ne_o0_bc ne_o0_bn ne_o0_af ne_bh_o0 ne_bh_bc ne_bh_bn ne_bh_af ne_bc_o0 ne_bc_bh ne_bc_bn ne_bc_af ne_bn_o0 ne_bn_bh ne_bn_bc ne_bn_af ne_af_o0 ne_af_bh ne_af_bc ne_af_bn rfl hw2 hn5 (by omega) (by omega)) K W X_o0.cell (hw _ (List.mem_of_getElem? (i := 43) rfl)) (hw _ (List.mem_of_getElem? (i := 44) rfl)) (hw _ (List.mem_of_getElem? (i := 1) rfl)) (hw _ (List.mem_of_getElem? (i := 45) rfl)) (hw _ (List.mem_of_getElem? (i := 2) rfl)) (hw _ (List.mem_of_getElem? (i := 46) rfl)) (by decide) (lenOf pd_6 rfl) d5_85 (pc' := 88) rfl (argsL := [(.int (Int32.ofNat wn)), (.int (Int32.ofNat u)), (.long (0 : Int64))]) (rest := []) rfl rfl (by decide) (wt := 0) rfl (by decide) (by decide) (by decide) ?_
    rintro T h _ W ⟨rfl, kq, F_o0_heads, F_o0_capacities, F_o0_nextOut, F_o0_firstOut, F_o0_nodes, F_o0_edges, A_bh, A_bc, A_bn, A_af⟩
    show Go p e below s n0 (Q_c_addG Z n0 h0 o0 (Int32.ofNat u) (Int32.ofNat wn) y3 nn kk Kc Fs u wn) 3 96 T (mkF m 88 #[.val (.ref o0), .val (.int (Int32.ofNat u)), .val (.int (Int32.ofNat wn)), .val (.long y3), .second] [])
    have kp := kp.trans kq (allS (Or.inl (List.mem_of_getElem? (i := 0) rfl)) (allS (Or.inr sz_bh) (allS (Or.inr sz_bc) (allS (Or.inr sz_bn) (allS (Or.inl (List.mem_of_getElem? (i := 4) rfl)) all0)))))
    have X_o0 := X_o0.keep kq
    have A_ah := A_ah.keep kq (ninS ne_ah_o0 (ninS ne_ah_bh (ninS ne_ah_bc (ninS ne_ah_bn (ninS ne_ah_af nin0)))))
    have A_ac := A_ac.keep kq (ninS ne_ac_o0 (ninS ne_ac_bh (ninS ne_ac_bc (ninS ne_ac_bn (ninS ne_ac_af nin0)))))
    have A_an := A_an.keep kq (ninS ne_an_o0 (ninS ne_an_bh (ninS ne_an_bc (ninS ne_an_bn (ninS ne_an_af nin0)))))
    have hc0 : 0 ≤ cc.toInt := by omega
    have hcI : cc.toInt ≤ 2305843009213693951 := by omega
    have gp1 := gp0.copy hgbh hgbn
    have cap1 := cap.copy (by omega) hgbc
    exact g_ret0 K W d5_88 (by decide) (by decide) ⟨rfl, fun x hx c hc => kp.2.1 x c hc (by have z := fs x hx; simp [z.2.1, z.2.2.1, z.2.2.2.1, z.2.2.2.2.1, z.2.2.2.2.2]), X_o0, ge_o0, bh, bc, bn, af, 32, upd (upd H (2 * kk) wn) (2 * kk + 1) u, _, _, _, _, ge_bh, ge_bc, ge_bn, ge_af, ne_o0_bh, ne_o0_bc, ne_o0_bn, ne_o0_af, ne_bh_bc, ne_bh_bn, ne_bh_af, ne_bc_bn, ne_bc_af, ne_bn_af, F_o0_heads, F_o0_capacities, F_o0_nextOut, F_o0_firstOut, F_o0_nodes, F_o0_edges, A_bh, A_bc, A_bn, A_af, gp1.add hMk hu hw2, Or.inr rfl, cap1.add hc0 hcI, fun S => by rw [cut_add, hcv, cut_copy (by omega) hgbc, ← hK S], fun x hx => by have z := fs x hx; exact ⟨Nat.lt_of_lt_of_le z.1 kp.1, z.2.1, (Nat.ne_of_lt (Nat.lt_of_lt_of_le z.1 sz_bh)), (Nat.ne_of_lt (Nat.lt_of_lt_of_le z.1 sz_bc)), (Nat.ne_of_lt (Nat.lt_of_lt_of_le z.1 sz_bn)), z.2.2.2.2.2⟩⟩
  · refine g_aloadN K W d5_68 rfl rfl (pc' := 69) rfl ?_
    refine g_iloadN K W d5_69 rfl (pc' := 70) rfl ?_
    refine g_iloadN K W d5_70 rfl (pc' := 71) rfl ?_
    refine g_lloadN K W d5_71 rfl (pc' := 72) rfl ?_
    refine g_ldc2 K W (v := (2305843009213693951 : Int64)) (hw _ (List.mem_of_getElem? (i := 38) rfl)) d5_72 (pc' := 75) rfl ?_
    refine g_callS (c_min l Z a0 hw n0 _ W.sz y3 (2305843009213693951 : Int64)) K W (hw _ (List.mem_of_getElem? (i := 39) rfl)) (hw _ (List.mem_of_getElem? (i := 40) rfl)) (hw _ (List.mem_of_getElem? (i := 41) rfl)) (hw _ (List.mem_of_getElem? (i := 42) rfl)) (by decide) (lenOf pd_1 rfl) d5_75 (pc' := 78) rfl (argsL := [(.long y3), (.long (2305843009213693951 : Int64))]) (rest := [(.int (Int32.ofNat wn)), (.int (Int32.ofNat u)), (.ref o0)]) rfl rfl (by decide) (wt := 3) rfl (by decide) (by decide) (by decide) ?_
    rintro T _ _ W ⟨rfl, rfl⟩
    show Go p e below s n0 (Q_c_addG Z n0 h0 o0 (Int32.ofNat u) (Int32.ofNat wn) y3 nn kk Kc Fs u wn) 3 96 T (mkF m 78 #[.val (.ref o0), .val (.int (Int32.ofNat u)), .val (.int (Int32.ofNat wn)), .val (.long y3), .second] [(.long (own_minL y3 (2305843009213693951 : Int64))), (.int (Int32.ofNat wn)), (.int (Int32.ofNat u)), (.ref o0)])
    generalize hcc : own_minL y3 (2305843009213693951 : Int64) = cc
    have hcv : cc.toInt = min y3.toInt 2305843009213693951 := by rw [← hcc]; exact own_minL_toInt _ _
    have hMk : 2 * kk + 2 ≤ M := by have := (not_congr (own_lt (i := M) (n := 2 * kk + 2) (by omega) (by omega))).mp hc11; omega
    refine g_callP (c_link l Z a0 hw n0 _ W.sz o0 (Int32.ofNat u) (Int32.ofNat wn) cc ah ac an af   nn M Hf Cf Nf Ff (2 * kk) u X_o0 F_o0_heads F_o0_capacities F_o0_nextOut F_o0_firstOut F_o0_nodes F_o0_edges A_ah A_ac A_an A_af ge_o0 ge_ah ge_ac ge_an ge_af ne_o0_ah ne_o0_ac ne_o0_an ne_o0_af ne_ah_o0 ne_ah_ac ne_ah_an ne_ah_af ne_ac_o0 ne_ac_ah ne_ac_an ne_ac_af ne_an_o0 ne_an_ah ne_an_ac ne_an_af ne_af_o0 ne_af_ah ne_af_ac ne_af_an rfl hu hn5 (by omega) (by omega)) K W X_o0.cell (hw _ (List.mem_of_getElem? (i := 43) rfl)) (hw _ (List.mem_of_getElem? (i := 44) rfl)) (hw _ (List.mem_of_getElem? (i := 1) rfl)) (hw _ (List.mem_of_getElem? (i := 45) rfl)) (hw _ (List.mem_of_getElem? (i := 2) rfl)) (hw _ (List.mem_of_getElem? (i := 46) rfl)) (by decide) (lenOf pd_6 rfl) d5_78 (pc' := 81) rfl (argsL := [(.int (Int32.ofNat u)), (.int (Int32.ofNat wn)), (.long cc)]) (rest := []) rfl rfl (by decide) (wt := 0) rfl (by decide) (by decide) (by decide) ?_
    rintro T h _ W ⟨rfl, kq, F_o0_heads, F_o0_capacities, F_o0_nextOut, F_o0_firstOut, F_o0_nodes, F_o0_edges, A_ah, A_ac, A_an, A_af⟩
    show Go p e below s n0 (Q_c_addG Z n0 h0 o0 (Int32.ofNat u) (Int32.ofNat wn) y3 nn kk Kc Fs u wn) 3 96 T (mkF m 81 #[.val (.ref o0), .val (.int (Int32.ofNat u)), .val (.int (Int32.ofNat wn)), .val (.long y3), .second] [])
    have kp := kp.trans kq (allS (Or.inl (List.mem_of_getElem? (i := 0) rfl)) (allS (Or.inl (List.mem_of_getElem? (i := 1) rfl)) (allS (Or.inl (List.mem_of_getElem? (i := 2) rfl)) (allS (Or.inl (List.mem_of_getElem? (i := 3) rfl)) (allS (Or.inl (List.mem_of_getElem? (i := 4) rfl)) all0)))))
    have X_o0 := X_o0.keep kq
    refine g_aloadN K W d5_81 rfl rfl (pc' := 82) rfl ?_
    refine g_iloadN K W d5_82 rfl (pc' := 83) rfl ?_
    refine g_iloadN K W d5_83 rfl (pc' := 84) rfl ?_
    refine g_lconst K W (v := (0 : Int64)) d5_84 rfl (pc' := 85) rfl ?_
    refine g_callP (c_link l Z a0 hw n0 _ W.sz o0 (Int32.ofNat wn) (Int32.ofNat u) (0 : Int64) ah ac an af   nn M (upd Hf (2 * kk) (Int32.ofNat wn)) (upd Cf (2 * kk) cc) (upd Nf (2 * kk) (Ff u)) (upd Ff u (Int32.ofNat (2 * kk))) (2 * kk + 1) wn X_o0 F_o0_heads F_o0_capacities F_o0_nextOut F_o0_firstOut F_o0_nodes F_o0_edges A_ah A_ac A_an A_af ge_o0 ge_ah ge_ac ge_an ge_af ne_o0_ah ne_o0_ac ne_o0_an ne_o0_af ne_ah_o0 ne_ah_ac ne_ah_an ne_ah_af ne_ac_o0 ne_ac_ah ne_ac_an ne_ac_af ne_an_o0 ne_an_ah ne_an_ac ne_an_af ne_af_o0 ne_af_ah ne_af_ac ne_af_an rfl hw2 hn5 (by omega) (by omega)) K W X_o0.cell (hw _ (List.mem_of_getElem? (i := 43) rfl)) (hw _ (List.mem_of_getElem? (i := 44) rfl)) (hw _ (List.mem_of_getElem? (i := 1) rfl)) (hw _ (List.mem_of_getElem? (i := 45) rfl)) (hw _ (List.mem_of_getElem? (i := 2) rfl)) (hw _ (List.mem_of_getElem? (i := 46) rfl)) (by decide) (lenOf pd_6 rfl) d5_85 (pc' := 88) rfl (argsL := [(.int (Int32.ofNat wn)), (.int (Int32.ofNat u)), (.long (0 : Int64))]) (rest := []) rfl rfl (by decide) (wt := 0) rfl (by decide) (by decide) (by decide) ?_
    rintro T h _ W ⟨rfl, kq, F_o0_heads, F_o0_capacities, F_o0_nextOut, F_o0_firstOut, F_o0_nodes, F_o0_edges, A_ah, A_ac, A_an, A_af⟩
    show Go p e below s n0 (Q_c_addG Z n0 h0 o0 (Int32.ofNat u) (Int32.ofNat wn) y3 nn kk Kc Fs u wn) 3 96 T (mkF m 88 #[.val (.ref o0), .val (.int (Int32.ofNat u)), .val (.int (Int32.ofNat wn)), .val (.long y3), .second] [])
    have kp := kp.trans kq (allS (Or.inl (List.mem_of_getElem? (i := 0) rfl)) (allS (Or.inl (List.mem_of_getElem? (i := 1) rfl)) (allS (Or.inl (List.mem_of_getElem? (i := 2) rfl)) (allS (Or.inl (List.mem_of_getElem? (i := 3) rfl)) (allS (Or.inl (List.mem_of_getElem? (i := 4) rfl)) all0)))))
    have X_o0 := X_o0.keep kq
    have hc0 : 0 ≤ cc.toInt := by omega
    have hcI : cc.toInt ≤ 2305843009213693951 := by omega
    have gp1 := gp0
    have cap1 := cap
    exact g_ret0 K W d5_88 (by decide) (by decide) ⟨rfl, fun x hx c hc => kp.2.1 x c hc (by have z := fs x hx; simp [z.2.1, z.2.2.1, z.2.2.2.1, z.2.2.2.2.1, z.2.2.2.2.2]), X_o0, ge_o0, ah, ac, an, af, M, upd (upd H (2 * kk) wn) (2 * kk + 1) u, _, _, _, _, ge_ah, ge_ac, ge_an, ge_af, ne_o0_ah, ne_o0_ac, ne_o0_an, ne_o0_af, ne_ah_ac, ne_ah_an, ne_ah_af, ne_ac_an, ne_ac_af, ne_an_af, F_o0_heads, F_o0_capacities, F_o0_nextOut, F_o0_firstOut, F_o0_nodes, F_o0_edges, A_ah, A_ac, A_an, A_af, gp1.add hMk hu hw2, hM, cap1.add hc0 hcI, fun S => by rw [cut_add, hcv, ← hK S], fun x hx => by have z := fs x hx; exact ⟨Nat.lt_of_lt_of_le z.1 kp.1, z.2.1, z.2.2.1, z.2.2.2.1, z.2.2.2.2.1, z.2.2.2.2.2⟩⟩
theorem MC.wr1 {Z : State} {n0 : Nat} {h h' : Heap} {o x : Addr} {nn kk sl : Nat} {v : Value} {Kc : (Nat → Bool) → Int} (P : MC Z n0 h o nn kk Kc [x]) (w : Wr h h' x sl v) : MC Z n0 h' o nn kk Kc [x] := by
  obtain ⟨X, g0, ah, ac, an, af, M, H, Hf, Cf, Nf, Ff, g1, g2, g3, g4, d1, d2, d3, d4, d5, d6, d7, d8, d9, d10, f1, f2, f3, f4, f5, f6, A1, A2, A3, A4, gp, hM, cap, hK, fs⟩ := P
  have z := fs x (by simp)
  have o0 : o ≠ x := fun q => z.2.1 q.symm
  refine ⟨X.wr w, g0, ah, ac, an, af, M, H, Hf, Cf, Nf, Ff, g1, g2, g3, g4, d1, d2, d3, d4, d5, d6, d7, d8, d9, d10, f1.other w (Or.inl o0), f2.other w (Or.inl o0), f3.other w (Or.inl o0), f4.other w (Or.inl o0), f5.other w (Or.inl o0), f6.other w (Or.inl o0), A1.other w (fun q => z.2.2.1 q.symm), A2.other w (fun q => z.2.2.2.1 q.symm), A3.other w (fun q => z.2.2.2.2.1 q.symm), A4.other w (fun q => z.2.2.2.2.2 q.symm), gp, hM, cap, hK, ?_⟩
  exact allS ⟨Nat.lt_of_lt_of_le z.1 (Keep.of_wr w).1, z.2⟩ all0
def Q_c_putA (Z : State) (n0 : Nat) (h0 : Heap) (o0 : Addr) (o1 : Addr) (y2 : Int64) (x3 : Int32) (y4 : Int64) (kk : Nat) (Kc : (Nat → Bool) → Int) (f : Nat → Int64) : Option Value → Heap → Prop := fun v h => ∃ (f' : Nat → Int64) (Kc' : (Nat → Bool) → Int), v = none ∧ AyJ Z h o1 3 f' ∧ MC Z n0 h o0 3 (kk + 1) Kc' [o1] ∧ TOT f' Kc'
abbrev rm_c_putA : Room := { frames := 2, cells := 0, slots := 0, locals := 34 }
set_option maxHeartbeats 40000000 in
theorem c_putA (l : Launch) (Z : State) (a0 : Array Value) (hw : ∀ d ∈ tables_1, d.before a0 Z = true) (n0 : Nat) (h0 : Heap) (hn : n0 ≤ h0.size) (o0 : Addr) (o1 : Addr) (y2 : Int64) (x3 : Int32) (y4 : Int64) (kk : Nat) (Kc : (Nat → Bool) → Int) (f : Nat → Int64) (A_o1 : AyJ Z h0 o1 3 f) (ge_o1 : n0 ≤ o1) (P : MC Z n0 h0 o0 3 kk Kc [o1]) (tt : TOT f Kc) (hk8 : kk ≤ 7) :
    Mt l Z (⟨"com/example/ichnos/ichnos/planning/ils/MinCutAddPinLaw", "put", "(Lcom/example/ichnos/ichnos/planning/ils/MinCut;[JJIJ)V"⟩ : MethodName) method_2_code 17 none rm_c_putA n0 #[(.ref o0), (.ref o1), (.long y2), (.int x3), (.long y4)] h0 (Q_c_putA Z n0 h0 o0 o1 y2 x3 y4 kk Kc f) := by
  refine met_of (plainFor_of_name pn_2) (Ls := #[.val (.ref o0), .val (.ref o1), .val (.long y2), .second, .val (.int x3), .val (.long y4), .second, .unset, .unset, .unset, .unset, .unset, .unset, .unset, .unset, .unset, .unset]) (fun m => by first | (simp [entryFrame, mkF, argsToLocals, Value.category]; done) | rfl) hn ?_
  intro p e s m below meth c T K W
  replace K : Cx p s m meth c Z "com/example/ichnos/ichnos/planning/ils/MinCutAddPinLaw" "put" method_2_code 17 none := K
  generalize eA : (#[(.ref o0), (.ref o1), (.long y2), (.int x3), (.long y4)] : Array Value) = args at W
  show Go p e below s n0 (Q_c_putA Z n0 h0 o0 o1 y2 x3 y4 kk Kc f) 0 0 T (mkF m 0 #[.val (.ref o0), .val (.ref o1), .val (.long y2), .second, .val (.int x3), .val (.long y4), .second, .unset, .unset, .unset, .unset, .unset, .unset, .unset, .unset, .unset, .unset] [])
  refine g_lloadN K W d4_0 rfl (pc' := 1) rfl ?_
  refine g_iconst K W (v := (4 : Int32)) d4_1 rfl (pc' := 2) rfl ?_
  refine g_iload K W d4_2 rfl (pc' := 4) rfl ?_
  refine g_imul K W d4_4 (pc' := 5) rfl ?_
  refine g_lushr K W d4_5 (pc' := 6) rfl ?_
  refine g_ldc2 K W (v := (15 : Int64)) (hw _ (List.mem_of_getElem? (i := 29) rfl)) d4_6 (pc' := 9) rfl ?_
  refine g_land K W d4_9 (pc' := 10) rfl ?_
  refine g_l2i K W d4_10 (pc' := 11) rfl ?_
  obtain ⟨nk, hnk, enk⟩ := own_nib ((y2.toUInt64 >>> (((4 : Int32) * x3) &&& 0x3f).toInt64.toUInt64).toInt64)
  rw [enk]
  refine g_istore K W d4_11 (Ls' := #[.val (.ref o0), .val (.ref o1), .val (.long y2), .second, .val (.int x3), .val (.long y4), .second, .val (.int (Int32.ofNat nk)), .unset, .unset, .unset, .unset, .unset, .unset, .unset, .unset, .unset]) rfl (pc' := 13) rfl ?_
  refine g_iload K W d4_13 rfl (pc' := 15) rfl ?_
  refine g_iconst K W (v := (3 : Int32)) d4_15 rfl (pc' := 16) rfl ?_
  refine g_iand K W d4_16 (pc' := 17) rfl ?_
  refine g_iconst K W (v := (3 : Int32)) d4_17 rfl (pc' := 18) rfl ?_
  refine g_irem K W (by decide) d4_18 (pc' := 19) rfl ?_
  obtain ⟨u, hu, eu⟩ := own_from hnk
  rw [eu]
  refine g_istore K W d4_19 (Ls' := #[.val (.ref o0), .val (.ref o1), .val (.long y2), .second, .val (.int x3), .val (.long y4), .second, .val (.int (Int32.ofNat nk)), .val (.int (Int32.ofNat u)), .unset, .unset, .unset, .unset, .unset, .unset, .unset, .unset]) rfl (pc' := 21) rfl ?_
  refine g_iload K W d4_21 rfl (pc' := 23) rfl ?_
  refine g_iconst K W (v := (2 : Int32)) d4_23 rfl (pc' := 24) rfl ?_
  refine g_iushr K W d4_24 (pc' := 25) rfl ?_
  refine g_iconst K W (v := (3 : Int32)) d4_25 rfl (pc' := 26) rfl ?_
  refine g_irem K W (by decide) d4_26 (pc' := 27) rfl ?_
  obtain ⟨w2, hw2, ew⟩ := own_to hnk
  rw [ew]
  refine g_istore K W d4_27 (Ls' := #[.val (.ref o0), .val (.ref o1), .val (.long y2), .second, .val (.int x3), .val (.long y4), .second, .val (.int (Int32.ofNat nk)), .val (.int (Int32.ofNat u)), .val (.int (Int32.ofNat w2)), .unset, .unset, .unset, .unset, .unset, .unset, .unset]) rfl (pc' := 29) rfl ?_
  refine g_lload K W d4_29 rfl (pc' := 31) rfl ?_
  refine g_ldc2 K W (v := (9223372036854775807 : Int64)) (hw _ (List.mem_of_getElem? (i := 30) rfl)) d4_31 (pc' := 34) rfl ?_
  refine g_land K W d4_34 (pc' := 35) rfl ?_
  have hcp := own_cap y4
  generalize ecp : (y4 &&& (9223372036854775807 : Int64)) = cp at hcp
  show Go p e below s n0 (Q_c_putA Z n0 h0 o0 o1 y2 x3 y4 kk Kc f) 0 0 T (mkF m 35 #[.val (.ref o0), .val (.ref o1), .val (.long y2), .second, .val (.int x3), .val (.long y4), .second, .val (.int (Int32.ofNat nk)), .val (.int (Int32.ofNat u)), .val (.int (Int32.ofNat w2)), .unset, .unset, .unset, .unset, .unset, .unset, .unset] [(.long cp)])
  have X_o0 := P.1
  refine g_lstore K W d4_35 (Ls' := #[.val (.ref o0), .val (.ref o1), .val (.long y2), .second, .val (.int x3), .val (.long y4), .second, .val (.int (Int32.ofNat nk)), .val (.int (Int32.ofNat u)), .val (.int (Int32.ofNat w2)), .val (.long cp), .second, .unset, .unset, .unset, .unset, .unset]) rfl (pc' := 37) rfl ?_
  refine g_aloadN K W d4_37 rfl rfl (pc' := 38) rfl ?_
  refine g_iload K W d4_38 rfl (pc' := 40) rfl ?_
  refine g_iload K W d4_40 rfl (pc' := 42) rfl ?_
  refine g_lload K W d4_42 rfl (pc' := 44) rfl ?_
  refine g_callV (c_add l Z a0 hw n0 _ W.sz o0 (Int32.ofNat u) (Int32.ofNat w2) cp 3 kk Kc [o1] u w2 P rfl hu rfl hw2 hk8 hcp) K W X_o0 (hw _ (List.mem_of_getElem? (i := 31) rfl)) (hw _ (List.mem_of_getElem? (i := 32) rfl)) (hw _ (List.mem_of_getElem? (i := 34) rfl)) (hw _ (List.mem_of_getElem? (i := 34) rfl)) (hw _ (List.mem_of_getElem? (i := 33) rfl)) (hw _ (List.mem_of_getElem? (i := 2) rfl)) (hw _ (List.mem_of_getElem? (i := 35) rfl)) (by decide) (lenOf pd_6 rfl) d4_44 (pc' := 47) rfl (argsL := [(.int (Int32.ofNat u)), (.int (Int32.ofNat w2)), (.long cp)]) (rest := []) rfl rfl (by decide) (wt := 0) rfl (by decide) (by decide) (by decide) ?_
  rintro T h _ W ⟨rfl, sm, P⟩
  show Go p e below s n0 (Q_c_putA Z n0 h0 o0 o1 y2 x3 y4 kk Kc f) 0 0 T (mkF m 47 #[.val (.ref o0), .val (.ref o1), .val (.long y2), .second, .val (.int x3), .val (.long y4), .second, .val (.int (Int32.ofNat nk)), .val (.int (Int32.ofNat u)), .val (.int (Int32.ofNat w2)), .val (.long cp), .second, .unset, .unset, .unset, .unset, .unset] [])
  have A_o1 := A_o1.sm sm (by simp)
  refine g_ldc2 K W (v := (2305843009213693951 : Int64)) (hw _ (List.mem_of_getElem? (i := 47) rfl)) d4_47 (pc' := 50) rfl ?_
  refine g_lstore K W d4_50 (Ls' := #[.val (.ref o0), .val (.ref o1), .val (.long y2), .second, .val (.int x3), .val (.long y4), .second, .val (.int (Int32.ofNat nk)), .val (.int (Int32.ofNat u)), .val (.int (Int32.ofNat w2)), .val (.long cp), .second, .val (.long (2305843009213693951 : Int64)), .second, .unset, .unset, .unset]) rfl (pc' := 52) rfl ?_
  refine g_lload K W d4_52 rfl (pc' := 54) rfl ?_
  refine g_lload K W d4_54 rfl (pc' := 56) rfl ?_
  refine g_callS (c_min l Z a0 hw n0 _ W.sz cp (2305843009213693951 : Int64)) K W (hw _ (List.mem_of_getElem? (i := 48) rfl)) (hw _ (List.mem_of_getElem? (i := 40) rfl)) (hw _ (List.mem_of_getElem? (i := 41) rfl)) (hw _ (List.mem_of_getElem? (i := 42) rfl)) (by decide) (lenOf pd_1 rfl) d4_56 (pc' := 59) rfl (argsL := [(.long cp), (.long (2305843009213693951 : Int64))]) (rest := []) rfl rfl (by decide) (wt := 0) rfl (by decide) (by decide) (by decide) ?_
  rintro T _ _ W ⟨rfl, rfl⟩
  show Go p e below s n0 (Q_c_putA Z n0 h0 o0 o1 y2 x3 y4 kk Kc f) 0 0 T (mkF m 59 #[.val (.ref o0), .val (.ref o1), .val (.long y2), .second, .val (.int x3), .val (.long y4), .second, .val (.int (Int32.ofNat nk)), .val (.int (Int32.ofNat u)), .val (.int (Int32.ofNat w2)), .val (.long cp), .second, .val (.long (2305843009213693951 : Int64)), .second, .unset, .unset, .unset] [(.long (own_minL cp (2305843009213693951 : Int64)))])
  generalize e_v59 : (own_minL cp (2305843009213693951 : Int64)) = v59
  refine g_lstore K W d4_59 (Ls' := #[.val (.ref o0), .val (.ref o1), .val (.long y2), .second, .val (.int x3), .val (.long y4), .second, .val (.int (Int32.ofNat nk)), .val (.int (Int32.ofNat u)), .val (.int (Int32.ofNat w2)), .val (.long cp), .second, .val (.long (2305843009213693951 : Int64)), .second, .val (.long v59), .second, .unset]) rfl (pc' := 61) rfl ?_
  have ez : min cp.toInt 2305843009213693951 = v59.toInt := by rw [← e_v59, own_minL_toInt]; rfl
  have hz0 : 0 ≤ v59.toInt := by omega
  have hzI : v59.toInt ≤ 2305843009213693951 := by omega
  have eu0 : Int32.ofNat u = (0 : Int32) ↔ u = 0 := own_inj (i := u) (n := 0) (by omega) (by decide)
  have eu1 : Int32.ofNat u = (1 : Int32) ↔ u = 1 := own_inj (i := u) (n := 1) (by omega) (by decide)
  have eu2 : Int32.ofNat u = (2 : Int32) ↔ u = 2 := own_inj (i := u) (n := 2) (by omega) (by decide)
  have ew0 : Int32.ofNat w2 = (0 : Int32) ↔ w2 = 0 := own_inj (i := w2) (n := 0) (by omega) (by decide)
  have ew1 : Int32.ofNat w2 = (1 : Int32) ↔ w2 = 1 := own_inj (i := w2) (n := 1) (by omega) (by decide)
  have ew2 : Int32.ofNat w2 = (2 : Int32) ↔ w2 = 2 := own_inj (i := w2) (n := 2) (by omega) (by decide)
  refine g_iconst K W (v := (-1 : Int32)) d4_61 rfl (pc' := 62) rfl ?_
  refine g_istore K W d4_62 (Ls' := #[.val (.ref o0), .val (.ref o1), .val (.long y2), .second, .val (.int x3), .val (.long y4), .second, .val (.int (Int32.ofNat nk)), .val (.int (Int32.ofNat u)), .val (.int (Int32.ofNat w2)), .val (.long cp), .second, .val (.long (2305843009213693951 : Int64)), .second, .val (.long v59), .second, .val (.int (-1 : Int32))]) rfl (pc' := 64) rfl ?_
  have hJx : ∀ (ix : Int32) (T : State), ((ix = 0 ∧ u = 0 ∧ w2 = 1) ∨ (ix = 1 ∧ u = 1 ∧ w2 = 2) ∨ (ix = 2 ∧ u = 0 ∧ w2 = 2) ∨ (ix = -1 ∧ ¬ (u = 0 ∧ w2 = 1) ∧ ¬ (u = 1 ∧ w2 = 2) ∧ ¬ (u = 0 ∧ w2 = 2))) → Wd p l e rm_c_putA s m args below meth c n0 T h 0 0 → Go p e below s n0 (Q_c_putA Z n0 h0 o0 o1 y2 x3 y4 kk Kc f) 0 0 T (mkF m 113 #[.val (.ref o0), .val (.ref o1), .val (.long y2), .second, .val (.int x3), .val (.long y4), .second, .val (.int (Int32.ofNat nk)), .val (.int (Int32.ofNat u)), .val (.int (Int32.ofNat w2)), .val (.long cp), .second, .val (.long (2305843009213693951 : Int64)), .second, .val (.long v59), .second, .val (.int ix)] []) := by
    intro ix T hix W
    rcases hix with ⟨rfl, rfl, rfl⟩ | ⟨rfl, rfl, rfl⟩ | ⟨rfl, rfl, rfl⟩ | ⟨rfl, q1, q2, q3⟩
    · show Go p e below s n0 (Q_c_putA Z n0 h0 o0 o1 y2 x3 y4 kk Kc f) 0 0 T (mkF m 113 #[.val (.ref o0), .val (.ref o1), .val (.long y2), .second, .val (.int x3), .val (.long y4), .second, .val (.int (Int32.ofNat nk)), .val (.int (Int32.ofNat 0)), .val (.int (Int32.ofNat 1)), .val (.long cp), .second, .val (.long (2305843009213693951 : Int64)), .second, .val (.long v59), .second, .val (.int (0 : Int32))] [])
      refine g_iload K W d4_113 rfl (pc' := 115) rfl ?_
      refine g_if_lt K W d4_115 (pt := 134) rfl (pf := 118) rfl (fun hc115 => absurd hc115 (by decide)) (fun hc115 => ?_)
      refine g_aloadN K W d4_118 rfl rfl (pc' := 119) rfl ?_
      refine g_iload K W d4_119 rfl (pc' := 121) rfl ?_
      refine g_aloadN K W d4_121 rfl rfl (pc' := 122) rfl ?_
      refine g_iload K W d4_122 rfl (pc' := 124) rfl ?_
      refine g_laload K W A_o1 (k := 0) rfl (by decide) (v := (f 0)) rfl d4_124 (pc' := 125) rfl ?_
      refine g_lload K W d4_125 rfl (pc' := 127) rfl ?_
      refine g_ladd K W d4_127 (pc' := 128) rfl ?_
      refine g_lload K W d4_128 rfl (pc' := 130) rfl ?_
      refine g_callS (c_min l Z a0 hw n0 _ W.sz ((f 0) + v59) (2305843009213693951 : Int64)) K W (hw _ (List.mem_of_getElem? (i := 48) rfl)) (hw _ (List.mem_of_getElem? (i := 40) rfl)) (hw _ (List.mem_of_getElem? (i := 41) rfl)) (hw _ (List.mem_of_getElem? (i := 42) rfl)) (by decide) (lenOf pd_1 rfl) d4_130 (pc' := 133) rfl (argsL := [(.long ((f 0) + v59)), (.long (2305843009213693951 : Int64))]) (rest := [(.int (0 : Int32)), (.ref o1)]) rfl rfl (by decide) (wt := 2) rfl (by decide) (by decide) (by decide) ?_
      rintro T _ _ W ⟨rfl, rfl⟩
      show Go p e below s n0 (Q_c_putA Z n0 h0 o0 o1 y2 x3 y4 kk Kc f) 0 0 T (mkF m 133 #[.val (.ref o0), .val (.ref o1), .val (.long y2), .second, .val (.int x3), .val (.long y4), .second, .val (.int (Int32.ofNat nk)), .val (.int (Int32.ofNat 0)), .val (.int (Int32.ofNat 1)), .val (.long cp), .second, .val (.long (2305843009213693951 : Int64)), .second, .val (.long v59), .second, .val (.int (0 : Int32))] [(.long (own_minL ((f 0) + v59) (2305843009213693951 : Int64))), (.int (0 : Int32)), (.ref o1)])
      refine g_lastore K W A_o1 (k := 0) rfl (by decide) ge_o1 d4_133 (pc' := 134) rfl (fun T h W w A_o1 => ?_)
      have P := P.wr1 w
      exact g_ret0 K W d4_134 (by decide) (by decide) ⟨_, _, rfl, A_o1, P, tt.a01 hz0 hzI ez⟩
    · show Go p e below s n0 (Q_c_putA Z n0 h0 o0 o1 y2 x3 y4 kk Kc f) 0 0 T (mkF m 113 #[.val (.ref o0), .val (.ref o1), .val (.long y2), .second, .val (.int x3), .val (.long y4), .second, .val (.int (Int32.ofNat nk)), .val (.int (Int32.ofNat 1)), .val (.int (Int32.ofNat 2)), .val (.long cp), .second, .val (.long (2305843009213693951 : Int64)), .second, .val (.long v59), .second, .val (.int (1 : Int32))] [])
      refine g_iload K W d4_113 rfl (pc' := 115) rfl ?_
      refine g_if_lt K W d4_115 (pt := 134) rfl (pf := 118) rfl (fun hc115 => absurd hc115 (by decide)) (fun hc115 => ?_)
      refine g_aloadN K W d4_118 rfl rfl (pc' := 119) rfl ?_
      refine g_iload K W d4_119 rfl (pc' := 121) rfl ?_
      refine g_aloadN K W d4_121 rfl rfl (pc' := 122) rfl ?_
      refine g_iload K W d4_122 rfl (pc' := 124) rfl ?_
      refine g_laload K W A_o1 (k := 1) rfl (by decide) (v := (f 1)) rfl d4_124 (pc' := 125) rfl ?_
      refine g_lload K W d4_125 rfl (pc' := 127) rfl ?_
      refine g_ladd K W d4_127 (pc' := 128) rfl ?_
      refine g_lload K W d4_128 rfl (pc' := 130) rfl ?_
      refine g_callS (c_min l Z a0 hw n0 _ W.sz ((f 1) + v59) (2305843009213693951 : Int64)) K W (hw _ (List.mem_of_getElem? (i := 48) rfl)) (hw _ (List.mem_of_getElem? (i := 40) rfl)) (hw _ (List.mem_of_getElem? (i := 41) rfl)) (hw _ (List.mem_of_getElem? (i := 42) rfl)) (by decide) (lenOf pd_1 rfl) d4_130 (pc' := 133) rfl (argsL := [(.long ((f 1) + v59)), (.long (2305843009213693951 : Int64))]) (rest := [(.int (1 : Int32)), (.ref o1)]) rfl rfl (by decide) (wt := 2) rfl (by decide) (by decide) (by decide) ?_
      rintro T _ _ W ⟨rfl, rfl⟩
      show Go p e below s n0 (Q_c_putA Z n0 h0 o0 o1 y2 x3 y4 kk Kc f) 0 0 T (mkF m 133 #[.val (.ref o0), .val (.ref o1), .val (.long y2), .second, .val (.int x3), .val (.long y4), .second, .val (.int (Int32.ofNat nk)), .val (.int (Int32.ofNat 1)), .val (.int (Int32.ofNat 2)), .val (.long cp), .second, .val (.long (2305843009213693951 : Int64)), .second, .val (.long v59), .second, .val (.int (1 : Int32))] [(.long (own_minL ((f 1) + v59) (2305843009213693951 : Int64))), (.int (1 : Int32)), (.ref o1)])
      refine g_lastore K W A_o1 (k := 1) rfl (by decide) ge_o1 d4_133 (pc' := 134) rfl (fun T h W w A_o1 => ?_)
      have P := P.wr1 w
      exact g_ret0 K W d4_134 (by decide) (by decide) ⟨_, _, rfl, A_o1, P, tt.a12 hz0 hzI ez⟩
    · show Go p e below s n0 (Q_c_putA Z n0 h0 o0 o1 y2 x3 y4 kk Kc f) 0 0 T (mkF m 113 #[.val (.ref o0), .val (.ref o1), .val (.long y2), .second, .val (.int x3), .val (.long y4), .second, .val (.int (Int32.ofNat nk)), .val (.int (Int32.ofNat 0)), .val (.int (Int32.ofNat 2)), .val (.long cp), .second, .val (.long (2305843009213693951 : Int64)), .second, .val (.long v59), .second, .val (.int (2 : Int32))] [])
      refine g_iload K W d4_113 rfl (pc' := 115) rfl ?_
      refine g_if_lt K W d4_115 (pt := 134) rfl (pf := 118) rfl (fun hc115 => absurd hc115 (by decide)) (fun hc115 => ?_)
      refine g_aloadN K W d4_118 rfl rfl (pc' := 119) rfl ?_
      refine g_iload K W d4_119 rfl (pc' := 121) rfl ?_
      refine g_aloadN K W d4_121 rfl rfl (pc' := 122) rfl ?_
      refine g_iload K W d4_122 rfl (pc' := 124) rfl ?_
      refine g_laload K W A_o1 (k := 2) rfl (by decide) (v := (f 2)) rfl d4_124 (pc' := 125) rfl ?_
      refine g_lload K W d4_125 rfl (pc' := 127) rfl ?_
      refine g_ladd K W d4_127 (pc' := 128) rfl ?_
      refine g_lload K W d4_128 rfl (pc' := 130) rfl ?_
      refine g_callS (c_min l Z a0 hw n0 _ W.sz ((f 2) + v59) (2305843009213693951 : Int64)) K W (hw _ (List.mem_of_getElem? (i := 48) rfl)) (hw _ (List.mem_of_getElem? (i := 40) rfl)) (hw _ (List.mem_of_getElem? (i := 41) rfl)) (hw _ (List.mem_of_getElem? (i := 42) rfl)) (by decide) (lenOf pd_1 rfl) d4_130 (pc' := 133) rfl (argsL := [(.long ((f 2) + v59)), (.long (2305843009213693951 : Int64))]) (rest := [(.int (2 : Int32)), (.ref o1)]) rfl rfl (by decide) (wt := 2) rfl (by decide) (by decide) (by decide) ?_
      rintro T _ _ W ⟨rfl, rfl⟩
      show Go p e below s n0 (Q_c_putA Z n0 h0 o0 o1 y2 x3 y4 kk Kc f) 0 0 T (mkF m 133 #[.val (.ref o0), .val (.ref o1), .val (.long y2), .second, .val (.int x3), .val (.long y4), .second, .val (.int (Int32.ofNat nk)), .val (.int (Int32.ofNat 0)), .val (.int (Int32.ofNat 2)), .val (.long cp), .second, .val (.long (2305843009213693951 : Int64)), .second, .val (.long v59), .second, .val (.int (2 : Int32))] [(.long (own_minL ((f 2) + v59) (2305843009213693951 : Int64))), (.int (2 : Int32)), (.ref o1)])
      refine g_lastore K W A_o1 (k := 2) rfl (by decide) ge_o1 d4_133 (pc' := 134) rfl (fun T h W w A_o1 => ?_)
      have P := P.wr1 w
      exact g_ret0 K W d4_134 (by decide) (by decide) ⟨_, _, rfl, A_o1, P, tt.a02 hz0 hzI ez⟩
    · show Go p e below s n0 (Q_c_putA Z n0 h0 o0 o1 y2 x3 y4 kk Kc f) 0 0 T (mkF m 113 #[.val (.ref o0), .val (.ref o1), .val (.long y2), .second, .val (.int x3), .val (.long y4), .second, .val (.int (Int32.ofNat nk)), .val (.int (Int32.ofNat u)), .val (.int (Int32.ofNat w2)), .val (.long cp), .second, .val (.long (2305843009213693951 : Int64)), .second, .val (.long v59), .second, .val (.int (-1 : Int32))] [])
      refine g_iload K W d4_113 rfl (pc' := 115) rfl ?_
      refine g_if_lt K W d4_115 (pt := 134) rfl (pf := 118) rfl (fun hc115 => ?_) (fun hc115 => absurd (by decide) hc115)
      exact g_ret0 K W d4_134 (by decide) (by decide) ⟨f, _, rfl, A_o1, P, tt.no hu hw2 q1 q2 q3 _⟩
  refine g_iload K W d4_64 rfl (pc' := 66) rfl ?_
  refine g_if_ne K W d4_66 (pt := 81) rfl (pf := 69) rfl (fun hc66 => ?_) (fun hc66 => ?_)
  · refine g_iload K W d4_69 rfl (pc' := 71) rfl ?_
    refine g_iconst K W (v := (1 : Int32)) d4_71 rfl (pc' := 72) rfl ?_
    refine g_icmp_ne K W d4_72 (pt := 81) rfl (pf := 75) rfl (fun hc72 => ?_) (fun hc72 => ?_)
    · refine g_iconst K W (v := (0 : Int32)) d4_75 rfl (pc' := 76) rfl ?_
      refine g_istore K W d4_76 (Ls' := #[.val (.ref o0), .val (.ref o1), .val (.long y2), .second, .val (.int x3), .val (.long y4), .second, .val (.int (Int32.ofNat nk)), .val (.int (Int32.ofNat u)), .val (.int (Int32.ofNat w2)), .val (.long cp), .second, .val (.long (2305843009213693951 : Int64)), .second, .val (.long v59), .second, .val (.int (0 : Int32))]) rfl (pc' := 78) rfl ?_
      refine g_goto K W d4_78 (pt := 113) rfl ?_
      exact hJx (0 : Int32) _ (Or.inl ⟨rfl, eu0.mp hc66, ew1.mp hc72⟩) (W.mono (by decide) (by decide))
    · refine g_iload K W d4_81 rfl (pc' := 83) rfl ?_
      refine g_iconst K W (v := (1 : Int32)) d4_83 rfl (pc' := 84) rfl ?_
      refine g_icmp_ne K W d4_84 (pt := 99) rfl (pf := 87) rfl (fun hc84 => ?_) (fun hc84 => ?_)
      · refine g_iload K W d4_87 rfl (pc' := 89) rfl ?_
        refine g_iconst K W (v := (2 : Int32)) d4_89 rfl (pc' := 90) rfl ?_
        refine g_icmp_ne K W d4_90 (pt := 99) rfl (pf := 93) rfl (fun hc90 => ?_) (fun hc90 => ?_)
        · refine g_iconst K W (v := (1 : Int32)) d4_93 rfl (pc' := 94) rfl ?_
          refine g_istore K W d4_94 (Ls' := #[.val (.ref o0), .val (.ref o1), .val (.long y2), .second, .val (.int x3), .val (.long y4), .second, .val (.int (Int32.ofNat nk)), .val (.int (Int32.ofNat u)), .val (.int (Int32.ofNat w2)), .val (.long cp), .second, .val (.long (2305843009213693951 : Int64)), .second, .val (.long v59), .second, .val (.int (1 : Int32))]) rfl (pc' := 96) rfl ?_
          refine g_goto K W d4_96 (pt := 113) rfl ?_
          exact hJx (1 : Int32) _ (Or.inr (Or.inl ⟨rfl, eu1.mp hc84, ew2.mp hc90⟩)) (W.mono (by decide) (by decide))
        · refine g_iload K W d4_99 rfl (pc' := 101) rfl ?_
          refine g_if_ne K W d4_101 (pt := 113) rfl (pf := 104) rfl (fun hc101 => ?_) (fun hc101 => ?_)
          · refine g_iload K W d4_104 rfl (pc' := 106) rfl ?_
            refine g_iconst K W (v := (2 : Int32)) d4_106 rfl (pc' := 107) rfl ?_
            refine g_icmp_ne K W d4_107 (pt := 113) rfl (pf := 110) rfl (fun hc107 => ?_) (fun hc107 => ?_)
            · refine g_iconst K W (v := (2 : Int32)) d4_110 rfl (pc' := 111) rfl ?_
              refine g_istore K W d4_111 (Ls' := #[.val (.ref o0), .val (.ref o1), .val (.long y2), .second, .val (.int x3), .val (.long y4), .second, .val (.int (Int32.ofNat nk)), .val (.int (Int32.ofNat u)), .val (.int (Int32.ofNat w2)), .val (.long cp), .second, .val (.long (2305843009213693951 : Int64)), .second, .val (.long v59), .second, .val (.int (2 : Int32))]) rfl (pc' := 113) rfl ?_
              exact hJx (2 : Int32) _ (Or.inr (Or.inr (Or.inl ⟨rfl, eu0.mp hc101, ew2.mp hc107⟩))) (W.mono (by decide) (by decide))
            · exact hJx (-1 : Int32) _ (Or.inr (Or.inr (Or.inr ⟨rfl, fun z => hc72 (ew1.mpr z.2), fun z => hc90 (ew2.mpr z.2), fun z => hc107 (ew2.mpr z.2)⟩))) (W.mono (by decide) (by decide))
          · exact hJx (-1 : Int32) _ (Or.inr (Or.inr (Or.inr ⟨rfl, fun z => hc72 (ew1.mpr z.2), fun z => hc90 (ew2.mpr z.2), fun z => hc101 (eu0.mpr z.1)⟩))) (W.mono (by decide) (by decide))
      · refine g_iload K W d4_99 rfl (pc' := 101) rfl ?_
        refine g_if_ne K W d4_101 (pt := 113) rfl (pf := 104) rfl (fun hc101 => ?_) (fun hc101 => ?_)
        · refine g_iload K W d4_104 rfl (pc' := 106) rfl ?_
          refine g_iconst K W (v := (2 : Int32)) d4_106 rfl (pc' := 107) rfl ?_
          refine g_icmp_ne K W d4_107 (pt := 113) rfl (pf := 110) rfl (fun hc107 => ?_) (fun hc107 => ?_)
          · refine g_iconst K W (v := (2 : Int32)) d4_110 rfl (pc' := 111) rfl ?_
            refine g_istore K W d4_111 (Ls' := #[.val (.ref o0), .val (.ref o1), .val (.long y2), .second, .val (.int x3), .val (.long y4), .second, .val (.int (Int32.ofNat nk)), .val (.int (Int32.ofNat u)), .val (.int (Int32.ofNat w2)), .val (.long cp), .second, .val (.long (2305843009213693951 : Int64)), .second, .val (.long v59), .second, .val (.int (2 : Int32))]) rfl (pc' := 113) rfl ?_
            exact hJx (2 : Int32) _ (Or.inr (Or.inr (Or.inl ⟨rfl, eu0.mp hc101, ew2.mp hc107⟩))) (W.mono (by decide) (by decide))
          · exact hJx (-1 : Int32) _ (Or.inr (Or.inr (Or.inr ⟨rfl, fun z => hc72 (ew1.mpr z.2), fun z => hc84 (eu1.mpr z.1), fun z => hc107 (ew2.mpr z.2)⟩))) (W.mono (by decide) (by decide))
        · exact hJx (-1 : Int32) _ (Or.inr (Or.inr (Or.inr ⟨rfl, fun z => hc72 (ew1.mpr z.2), fun z => hc84 (eu1.mpr z.1), fun z => hc101 (eu0.mpr z.1)⟩))) (W.mono (by decide) (by decide))
  · refine g_iload K W d4_81 rfl (pc' := 83) rfl ?_
    refine g_iconst K W (v := (1 : Int32)) d4_83 rfl (pc' := 84) rfl ?_
    refine g_icmp_ne K W d4_84 (pt := 99) rfl (pf := 87) rfl (fun hc84 => ?_) (fun hc84 => ?_)
    · refine g_iload K W d4_87 rfl (pc' := 89) rfl ?_
      refine g_iconst K W (v := (2 : Int32)) d4_89 rfl (pc' := 90) rfl ?_
      refine g_icmp_ne K W d4_90 (pt := 99) rfl (pf := 93) rfl (fun hc90 => ?_) (fun hc90 => ?_)
      · refine g_iconst K W (v := (1 : Int32)) d4_93 rfl (pc' := 94) rfl ?_
        refine g_istore K W d4_94 (Ls' := #[.val (.ref o0), .val (.ref o1), .val (.long y2), .second, .val (.int x3), .val (.long y4), .second, .val (.int (Int32.ofNat nk)), .val (.int (Int32.ofNat u)), .val (.int (Int32.ofNat w2)), .val (.long cp), .second, .val (.long (2305843009213693951 : Int64)), .second, .val (.long v59), .second, .val (.int (1 : Int32))]) rfl (pc' := 96) rfl ?_
        refine g_goto K W d4_96 (pt := 113) rfl ?_
        exact hJx (1 : Int32) _ (Or.inr (Or.inl ⟨rfl, eu1.mp hc84, ew2.mp hc90⟩)) (W.mono (by decide) (by decide))
      · refine g_iload K W d4_99 rfl (pc' := 101) rfl ?_
        refine g_if_ne K W d4_101 (pt := 113) rfl (pf := 104) rfl (fun hc101 => ?_) (fun hc101 => ?_)
        · refine g_iload K W d4_104 rfl (pc' := 106) rfl ?_
          refine g_iconst K W (v := (2 : Int32)) d4_106 rfl (pc' := 107) rfl ?_
          refine g_icmp_ne K W d4_107 (pt := 113) rfl (pf := 110) rfl (fun hc107 => ?_) (fun hc107 => ?_)
          · refine g_iconst K W (v := (2 : Int32)) d4_110 rfl (pc' := 111) rfl ?_
            refine g_istore K W d4_111 (Ls' := #[.val (.ref o0), .val (.ref o1), .val (.long y2), .second, .val (.int x3), .val (.long y4), .second, .val (.int (Int32.ofNat nk)), .val (.int (Int32.ofNat u)), .val (.int (Int32.ofNat w2)), .val (.long cp), .second, .val (.long (2305843009213693951 : Int64)), .second, .val (.long v59), .second, .val (.int (2 : Int32))]) rfl (pc' := 113) rfl ?_
            exact hJx (2 : Int32) _ (Or.inr (Or.inr (Or.inl ⟨rfl, eu0.mp hc101, ew2.mp hc107⟩))) (W.mono (by decide) (by decide))
          · exact hJx (-1 : Int32) _ (Or.inr (Or.inr (Or.inr ⟨rfl, fun z => hc66 (eu0.mpr z.1), fun z => hc90 (ew2.mpr z.2), fun z => hc107 (ew2.mpr z.2)⟩))) (W.mono (by decide) (by decide))
        · exact hJx (-1 : Int32) _ (Or.inr (Or.inr (Or.inr ⟨rfl, fun z => hc66 (eu0.mpr z.1), fun z => hc90 (ew2.mpr z.2), fun z => hc101 (eu0.mpr z.1)⟩))) (W.mono (by decide) (by decide))
    · refine g_iload K W d4_99 rfl (pc' := 101) rfl ?_
      refine g_if_ne K W d4_101 (pt := 113) rfl (pf := 104) rfl (fun hc101 => ?_) (fun hc101 => ?_)
      · refine g_iload K W d4_104 rfl (pc' := 106) rfl ?_
        refine g_iconst K W (v := (2 : Int32)) d4_106 rfl (pc' := 107) rfl ?_
        refine g_icmp_ne K W d4_107 (pt := 113) rfl (pf := 110) rfl (fun hc107 => ?_) (fun hc107 => ?_)
        · refine g_iconst K W (v := (2 : Int32)) d4_110 rfl (pc' := 111) rfl ?_
          refine g_istore K W d4_111 (Ls' := #[.val (.ref o0), .val (.ref o1), .val (.long y2), .second, .val (.int x3), .val (.long y4), .second, .val (.int (Int32.ofNat nk)), .val (.int (Int32.ofNat u)), .val (.int (Int32.ofNat w2)), .val (.long cp), .second, .val (.long (2305843009213693951 : Int64)), .second, .val (.long v59), .second, .val (.int (2 : Int32))]) rfl (pc' := 113) rfl ?_
          exact hJx (2 : Int32) _ (Or.inr (Or.inr (Or.inl ⟨rfl, eu0.mp hc101, ew2.mp hc107⟩))) (W.mono (by decide) (by decide))
        · exact hJx (-1 : Int32) _ (Or.inr (Or.inr (Or.inr ⟨rfl, fun z => hc66 (eu0.mpr z.1), fun z => hc84 (eu1.mpr z.1), fun z => hc107 (ew2.mpr z.2)⟩))) (W.mono (by decide) (by decide))
      · exact hJx (-1 : Int32) _ (Or.inr (Or.inr (Or.inr ⟨rfl, fun z => hc66 (eu0.mpr z.1), fun z => hc84 (eu1.mpr z.1), fun z => hc101 (eu0.mpr z.1)⟩))) (W.mono (by decide) (by decide))
def Q_c_putB (Z : State) (n0 : Nat) (h0 : Heap) (o0 : Addr) (o1 : Addr) (y2 : Int64) (x3 : Int32) (y4 : Int64) (kk : Nat) (Kc : (Nat → Bool) → Int) (f : Nat → Int64) : Option Value → Heap → Prop := fun v h => ∃ (f' : Nat → Int64) (Kc' : (Nat → Bool) → Int), v = none ∧ AyJ Z h o1 3 f' ∧ MC Z n0 h o0 3 (kk + 1) Kc' [o1] ∧ TOT f' Kc'
abbrev rm_c_putB : Room := { frames := 3, cells := 3, slots := 96, locals := 49 }
set_option maxHeartbeats 40000000 in
theorem c_putB (l : Launch) (Z : State) (a0 : Array Value) (hw : ∀ d ∈ tables_1, d.before a0 Z = true) (n0 : Nat) (h0 : Heap) (hn : n0 ≤ h0.size) (o0 : Addr) (o1 : Addr) (y2 : Int64) (x3 : Int32) (y4 : Int64) (kk : Nat) (Kc : (Nat → Bool) → Int) (f : Nat → Int64) (A_o1 : AyJ Z h0 o1 3 f) (ge_o1 : n0 ≤ o1) (P : MC Z n0 h0 o0 3 kk Kc [o1]) (tt : TOT f Kc) (hk8 : kk ≤ 8) :
    Mt l Z (⟨"com/example/ichnos/ichnos/planning/ils/MinCutAddPinLaw", "put", "(Lcom/example/ichnos/ichnos/planning/ils/MinCut;[JJIJ)V"⟩ : MethodName) method_2_code 17 none rm_c_putB n0 #[(.ref o0), (.ref o1), (.long y2), (.int x3), (.long y4)] h0 (Q_c_putB Z n0 h0 o0 o1 y2 x3 y4 kk Kc f) := by
  refine met_of (plainFor_of_name pn_2) (Ls := #[.val (.ref o0), .val (.ref o1), .val (.long y2), .second, .val (.int x3), .val (.long y4), .second, .unset, .unset, .unset, .unset, .unset, .unset, .unset, .unset, .unset, .unset]) (fun m => by first | (simp [entryFrame, mkF, argsToLocals, Value.category]; done) | rfl) hn ?_
  intro p e s m below meth c T K W
  replace K : Cx p s m meth c Z "com/example/ichnos/ichnos/planning/ils/MinCutAddPinLaw" "put" method_2_code 17 none := K
  generalize eA : (#[(.ref o0), (.ref o1), (.long y2), (.int x3), (.long y4)] : Array Value) = args at W
  show Go p e below s n0 (Q_c_putB Z n0 h0 o0 o1 y2 x3 y4 kk Kc f) 3 96 T (mkF m 0 #[.val (.ref o0), .val (.ref o1), .val (.long y2), .second, .val (.int x3), .val (.long y4), .second, .unset, .unset, .unset, .unset, .unset, .unset, .unset, .unset, .unset, .unset] [])
  refine g_lloadN K W d4_0 rfl (pc' := 1) rfl ?_
  refine g_iconst K W (v := (4 : Int32)) d4_1 rfl (pc' := 2) rfl ?_
  refine g_iload K W d4_2 rfl (pc' := 4) rfl ?_
  refine g_imul K W d4_4 (pc' := 5) rfl ?_
  refine g_lushr K W d4_5 (pc' := 6) rfl ?_
  refine g_ldc2 K W (v := (15 : Int64)) (hw _ (List.mem_of_getElem? (i := 29) rfl)) d4_6 (pc' := 9) rfl ?_
  refine g_land K W d4_9 (pc' := 10) rfl ?_
  refine g_l2i K W d4_10 (pc' := 11) rfl ?_
  obtain ⟨nk, hnk, enk⟩ := own_nib ((y2.toUInt64 >>> (((4 : Int32) * x3) &&& 0x3f).toInt64.toUInt64).toInt64)
  rw [enk]
  refine g_istore K W d4_11 (Ls' := #[.val (.ref o0), .val (.ref o1), .val (.long y2), .second, .val (.int x3), .val (.long y4), .second, .val (.int (Int32.ofNat nk)), .unset, .unset, .unset, .unset, .unset, .unset, .unset, .unset, .unset]) rfl (pc' := 13) rfl ?_
  refine g_iload K W d4_13 rfl (pc' := 15) rfl ?_
  refine g_iconst K W (v := (3 : Int32)) d4_15 rfl (pc' := 16) rfl ?_
  refine g_iand K W d4_16 (pc' := 17) rfl ?_
  refine g_iconst K W (v := (3 : Int32)) d4_17 rfl (pc' := 18) rfl ?_
  refine g_irem K W (by decide) d4_18 (pc' := 19) rfl ?_
  obtain ⟨u, hu, eu⟩ := own_from hnk
  rw [eu]
  refine g_istore K W d4_19 (Ls' := #[.val (.ref o0), .val (.ref o1), .val (.long y2), .second, .val (.int x3), .val (.long y4), .second, .val (.int (Int32.ofNat nk)), .val (.int (Int32.ofNat u)), .unset, .unset, .unset, .unset, .unset, .unset, .unset, .unset]) rfl (pc' := 21) rfl ?_
  refine g_iload K W d4_21 rfl (pc' := 23) rfl ?_
  refine g_iconst K W (v := (2 : Int32)) d4_23 rfl (pc' := 24) rfl ?_
  refine g_iushr K W d4_24 (pc' := 25) rfl ?_
  refine g_iconst K W (v := (3 : Int32)) d4_25 rfl (pc' := 26) rfl ?_
  refine g_irem K W (by decide) d4_26 (pc' := 27) rfl ?_
  obtain ⟨w2, hw2, ew⟩ := own_to hnk
  rw [ew]
  refine g_istore K W d4_27 (Ls' := #[.val (.ref o0), .val (.ref o1), .val (.long y2), .second, .val (.int x3), .val (.long y4), .second, .val (.int (Int32.ofNat nk)), .val (.int (Int32.ofNat u)), .val (.int (Int32.ofNat w2)), .unset, .unset, .unset, .unset, .unset, .unset, .unset]) rfl (pc' := 29) rfl ?_
  refine g_lload K W d4_29 rfl (pc' := 31) rfl ?_
  refine g_ldc2 K W (v := (9223372036854775807 : Int64)) (hw _ (List.mem_of_getElem? (i := 30) rfl)) d4_31 (pc' := 34) rfl ?_
  refine g_land K W d4_34 (pc' := 35) rfl ?_
  have hcp := own_cap y4
  generalize ecp : (y4 &&& (9223372036854775807 : Int64)) = cp at hcp
  show Go p e below s n0 (Q_c_putB Z n0 h0 o0 o1 y2 x3 y4 kk Kc f) 3 96 T (mkF m 35 #[.val (.ref o0), .val (.ref o1), .val (.long y2), .second, .val (.int x3), .val (.long y4), .second, .val (.int (Int32.ofNat nk)), .val (.int (Int32.ofNat u)), .val (.int (Int32.ofNat w2)), .unset, .unset, .unset, .unset, .unset, .unset, .unset] [(.long cp)])
  have X_o0 := P.1
  refine g_lstore K W d4_35 (Ls' := #[.val (.ref o0), .val (.ref o1), .val (.long y2), .second, .val (.int x3), .val (.long y4), .second, .val (.int (Int32.ofNat nk)), .val (.int (Int32.ofNat u)), .val (.int (Int32.ofNat w2)), .val (.long cp), .second, .unset, .unset, .unset, .unset, .unset]) rfl (pc' := 37) rfl ?_
  refine g_aloadN K W d4_37 rfl rfl (pc' := 38) rfl ?_
  refine g_iload K W d4_38 rfl (pc' := 40) rfl ?_
  refine g_iload K W d4_40 rfl (pc' := 42) rfl ?_
  refine g_lload K W d4_42 rfl (pc' := 44) rfl ?_
  refine g_callV (c_addG l Z a0 hw n0 _ W.sz o0 (Int32.ofNat u) (Int32.ofNat w2) cp 3 kk Kc [o1] u w2 P rfl hu rfl hw2 hk8 hcp) K W X_o0 (hw _ (List.mem_of_getElem? (i := 31) rfl)) (hw _ (List.mem_of_getElem? (i := 32) rfl)) (hw _ (List.mem_of_getElem? (i := 34) rfl)) (hw _ (List.mem_of_getElem? (i := 34) rfl)) (hw _ (List.mem_of_getElem? (i := 33) rfl)) (hw _ (List.mem_of_getElem? (i := 2) rfl)) (hw _ (List.mem_of_getElem? (i := 35) rfl)) (by decide) (lenOf pd_6 rfl) d4_44 (pc' := 47) rfl (argsL := [(.int (Int32.ofNat u)), (.int (Int32.ofNat w2)), (.long cp)]) (rest := []) rfl rfl (by decide) (wt := 0) rfl (by decide) (by decide) (by decide) ?_
  rintro T h _ W ⟨rfl, sm, P⟩
  show Go p e below s n0 (Q_c_putB Z n0 h0 o0 o1 y2 x3 y4 kk Kc f) 3 96 T (mkF m 47 #[.val (.ref o0), .val (.ref o1), .val (.long y2), .second, .val (.int x3), .val (.long y4), .second, .val (.int (Int32.ofNat nk)), .val (.int (Int32.ofNat u)), .val (.int (Int32.ofNat w2)), .val (.long cp), .second, .unset, .unset, .unset, .unset, .unset] [])
  have A_o1 := A_o1.sm sm (by simp)
  refine g_ldc2 K W (v := (2305843009213693951 : Int64)) (hw _ (List.mem_of_getElem? (i := 47) rfl)) d4_47 (pc' := 50) rfl ?_
  refine g_lstore K W d4_50 (Ls' := #[.val (.ref o0), .val (.ref o1), .val (.long y2), .second, .val (.int x3), .val (.long y4), .second, .val (.int (Int32.ofNat nk)), .val (.int (Int32.ofNat u)), .val (.int (Int32.ofNat w2)), .val (.long cp), .second, .val (.long (2305843009213693951 : Int64)), .second, .unset, .unset, .unset]) rfl (pc' := 52) rfl ?_
  refine g_lload K W d4_52 rfl (pc' := 54) rfl ?_
  refine g_lload K W d4_54 rfl (pc' := 56) rfl ?_
  refine g_callS (c_min l Z a0 hw n0 _ W.sz cp (2305843009213693951 : Int64)) K W (hw _ (List.mem_of_getElem? (i := 48) rfl)) (hw _ (List.mem_of_getElem? (i := 40) rfl)) (hw _ (List.mem_of_getElem? (i := 41) rfl)) (hw _ (List.mem_of_getElem? (i := 42) rfl)) (by decide) (lenOf pd_1 rfl) d4_56 (pc' := 59) rfl (argsL := [(.long cp), (.long (2305843009213693951 : Int64))]) (rest := []) rfl rfl (by decide) (wt := 0) rfl (by decide) (by decide) (by decide) ?_
  rintro T _ _ W ⟨rfl, rfl⟩
  show Go p e below s n0 (Q_c_putB Z n0 h0 o0 o1 y2 x3 y4 kk Kc f) 3 96 T (mkF m 59 #[.val (.ref o0), .val (.ref o1), .val (.long y2), .second, .val (.int x3), .val (.long y4), .second, .val (.int (Int32.ofNat nk)), .val (.int (Int32.ofNat u)), .val (.int (Int32.ofNat w2)), .val (.long cp), .second, .val (.long (2305843009213693951 : Int64)), .second, .unset, .unset, .unset] [(.long (own_minL cp (2305843009213693951 : Int64)))])
  generalize e_v59 : (own_minL cp (2305843009213693951 : Int64)) = v59
  refine g_lstore K W d4_59 (Ls' := #[.val (.ref o0), .val (.ref o1), .val (.long y2), .second, .val (.int x3), .val (.long y4), .second, .val (.int (Int32.ofNat nk)), .val (.int (Int32.ofNat u)), .val (.int (Int32.ofNat w2)), .val (.long cp), .second, .val (.long (2305843009213693951 : Int64)), .second, .val (.long v59), .second, .unset]) rfl (pc' := 61) rfl ?_
  have ez : min cp.toInt 2305843009213693951 = v59.toInt := by rw [← e_v59, own_minL_toInt]; rfl
  have hz0 : 0 ≤ v59.toInt := by omega
  have hzI : v59.toInt ≤ 2305843009213693951 := by omega
  have eu0 : Int32.ofNat u = (0 : Int32) ↔ u = 0 := own_inj (i := u) (n := 0) (by omega) (by decide)
  have eu1 : Int32.ofNat u = (1 : Int32) ↔ u = 1 := own_inj (i := u) (n := 1) (by omega) (by decide)
  have eu2 : Int32.ofNat u = (2 : Int32) ↔ u = 2 := own_inj (i := u) (n := 2) (by omega) (by decide)
  have ew0 : Int32.ofNat w2 = (0 : Int32) ↔ w2 = 0 := own_inj (i := w2) (n := 0) (by omega) (by decide)
  have ew1 : Int32.ofNat w2 = (1 : Int32) ↔ w2 = 1 := own_inj (i := w2) (n := 1) (by omega) (by decide)
  have ew2 : Int32.ofNat w2 = (2 : Int32) ↔ w2 = 2 := own_inj (i := w2) (n := 2) (by omega) (by decide)
  refine g_iconst K W (v := (-1 : Int32)) d4_61 rfl (pc' := 62) rfl ?_
  refine g_istore K W d4_62 (Ls' := #[.val (.ref o0), .val (.ref o1), .val (.long y2), .second, .val (.int x3), .val (.long y4), .second, .val (.int (Int32.ofNat nk)), .val (.int (Int32.ofNat u)), .val (.int (Int32.ofNat w2)), .val (.long cp), .second, .val (.long (2305843009213693951 : Int64)), .second, .val (.long v59), .second, .val (.int (-1 : Int32))]) rfl (pc' := 64) rfl ?_
  have hJx : ∀ (ix : Int32) (T : State), ((ix = 0 ∧ u = 0 ∧ w2 = 1) ∨ (ix = 1 ∧ u = 1 ∧ w2 = 2) ∨ (ix = 2 ∧ u = 0 ∧ w2 = 2) ∨ (ix = -1 ∧ ¬ (u = 0 ∧ w2 = 1) ∧ ¬ (u = 1 ∧ w2 = 2) ∧ ¬ (u = 0 ∧ w2 = 2))) → Wd p l e rm_c_putB s m args below meth c n0 T h 3 96 → Go p e below s n0 (Q_c_putB Z n0 h0 o0 o1 y2 x3 y4 kk Kc f) 3 96 T (mkF m 113 #[.val (.ref o0), .val (.ref o1), .val (.long y2), .second, .val (.int x3), .val (.long y4), .second, .val (.int (Int32.ofNat nk)), .val (.int (Int32.ofNat u)), .val (.int (Int32.ofNat w2)), .val (.long cp), .second, .val (.long (2305843009213693951 : Int64)), .second, .val (.long v59), .second, .val (.int ix)] []) := by
    intro ix T hix W
    rcases hix with ⟨rfl, rfl, rfl⟩ | ⟨rfl, rfl, rfl⟩ | ⟨rfl, rfl, rfl⟩ | ⟨rfl, q1, q2, q3⟩
    · show Go p e below s n0 (Q_c_putB Z n0 h0 o0 o1 y2 x3 y4 kk Kc f) 3 96 T (mkF m 113 #[.val (.ref o0), .val (.ref o1), .val (.long y2), .second, .val (.int x3), .val (.long y4), .second, .val (.int (Int32.ofNat nk)), .val (.int (Int32.ofNat 0)), .val (.int (Int32.ofNat 1)), .val (.long cp), .second, .val (.long (2305843009213693951 : Int64)), .second, .val (.long v59), .second, .val (.int (0 : Int32))] [])
      refine g_iload K W d4_113 rfl (pc' := 115) rfl ?_
      refine g_if_lt K W d4_115 (pt := 134) rfl (pf := 118) rfl (fun hc115 => absurd hc115 (by decide)) (fun hc115 => ?_)
      refine g_aloadN K W d4_118 rfl rfl (pc' := 119) rfl ?_
      refine g_iload K W d4_119 rfl (pc' := 121) rfl ?_
      refine g_aloadN K W d4_121 rfl rfl (pc' := 122) rfl ?_
      refine g_iload K W d4_122 rfl (pc' := 124) rfl ?_
      refine g_laload K W A_o1 (k := 0) rfl (by decide) (v := (f 0)) rfl d4_124 (pc' := 125) rfl ?_
      refine g_lload K W d4_125 rfl (pc' := 127) rfl ?_
      refine g_ladd K W d4_127 (pc' := 128) rfl ?_
      refine g_lload K W d4_128 rfl (pc' := 130) rfl ?_
      refine g_callS (c_min l Z a0 hw n0 _ W.sz ((f 0) + v59) (2305843009213693951 : Int64)) K W (hw _ (List.mem_of_getElem? (i := 48) rfl)) (hw _ (List.mem_of_getElem? (i := 40) rfl)) (hw _ (List.mem_of_getElem? (i := 41) rfl)) (hw _ (List.mem_of_getElem? (i := 42) rfl)) (by decide) (lenOf pd_1 rfl) d4_130 (pc' := 133) rfl (argsL := [(.long ((f 0) + v59)), (.long (2305843009213693951 : Int64))]) (rest := [(.int (0 : Int32)), (.ref o1)]) rfl rfl (by decide) (wt := 2) rfl (by decide) (by decide) (by decide) ?_
      rintro T _ _ W ⟨rfl, rfl⟩
      show Go p e below s n0 (Q_c_putB Z n0 h0 o0 o1 y2 x3 y4 kk Kc f) 3 96 T (mkF m 133 #[.val (.ref o0), .val (.ref o1), .val (.long y2), .second, .val (.int x3), .val (.long y4), .second, .val (.int (Int32.ofNat nk)), .val (.int (Int32.ofNat 0)), .val (.int (Int32.ofNat 1)), .val (.long cp), .second, .val (.long (2305843009213693951 : Int64)), .second, .val (.long v59), .second, .val (.int (0 : Int32))] [(.long (own_minL ((f 0) + v59) (2305843009213693951 : Int64))), (.int (0 : Int32)), (.ref o1)])
      refine g_lastore K W A_o1 (k := 0) rfl (by decide) ge_o1 d4_133 (pc' := 134) rfl (fun T h W w A_o1 => ?_)
      have P := P.wr1 w
      exact g_ret0 K W d4_134 (by decide) (by decide) ⟨_, _, rfl, A_o1, P, tt.a01 hz0 hzI ez⟩
    · show Go p e below s n0 (Q_c_putB Z n0 h0 o0 o1 y2 x3 y4 kk Kc f) 3 96 T (mkF m 113 #[.val (.ref o0), .val (.ref o1), .val (.long y2), .second, .val (.int x3), .val (.long y4), .second, .val (.int (Int32.ofNat nk)), .val (.int (Int32.ofNat 1)), .val (.int (Int32.ofNat 2)), .val (.long cp), .second, .val (.long (2305843009213693951 : Int64)), .second, .val (.long v59), .second, .val (.int (1 : Int32))] [])
      refine g_iload K W d4_113 rfl (pc' := 115) rfl ?_
      refine g_if_lt K W d4_115 (pt := 134) rfl (pf := 118) rfl (fun hc115 => absurd hc115 (by decide)) (fun hc115 => ?_)
      refine g_aloadN K W d4_118 rfl rfl (pc' := 119) rfl ?_
      refine g_iload K W d4_119 rfl (pc' := 121) rfl ?_
      refine g_aloadN K W d4_121 rfl rfl (pc' := 122) rfl ?_
      refine g_iload K W d4_122 rfl (pc' := 124) rfl ?_
      refine g_laload K W A_o1 (k := 1) rfl (by decide) (v := (f 1)) rfl d4_124 (pc' := 125) rfl ?_
      refine g_lload K W d4_125 rfl (pc' := 127) rfl ?_
      refine g_ladd K W d4_127 (pc' := 128) rfl ?_
      refine g_lload K W d4_128 rfl (pc' := 130) rfl ?_
      refine g_callS (c_min l Z a0 hw n0 _ W.sz ((f 1) + v59) (2305843009213693951 : Int64)) K W (hw _ (List.mem_of_getElem? (i := 48) rfl)) (hw _ (List.mem_of_getElem? (i := 40) rfl)) (hw _ (List.mem_of_getElem? (i := 41) rfl)) (hw _ (List.mem_of_getElem? (i := 42) rfl)) (by decide) (lenOf pd_1 rfl) d4_130 (pc' := 133) rfl (argsL := [(.long ((f 1) + v59)), (.long (2305843009213693951 : Int64))]) (rest := [(.int (1 : Int32)), (.ref o1)]) rfl rfl (by decide) (wt := 2) rfl (by decide) (by decide) (by decide) ?_
      rintro T _ _ W ⟨rfl, rfl⟩
      show Go p e below s n0 (Q_c_putB Z n0 h0 o0 o1 y2 x3 y4 kk Kc f) 3 96 T (mkF m 133 #[.val (.ref o0), .val (.ref o1), .val (.long y2), .second, .val (.int x3), .val (.long y4), .second, .val (.int (Int32.ofNat nk)), .val (.int (Int32.ofNat 1)), .val (.int (Int32.ofNat 2)), .val (.long cp), .second, .val (.long (2305843009213693951 : Int64)), .second, .val (.long v59), .second, .val (.int (1 : Int32))] [(.long (own_minL ((f 1) + v59) (2305843009213693951 : Int64))), (.int (1 : Int32)), (.ref o1)])
      refine g_lastore K W A_o1 (k := 1) rfl (by decide) ge_o1 d4_133 (pc' := 134) rfl (fun T h W w A_o1 => ?_)
      have P := P.wr1 w
      exact g_ret0 K W d4_134 (by decide) (by decide) ⟨_, _, rfl, A_o1, P, tt.a12 hz0 hzI ez⟩
    · show Go p e below s n0 (Q_c_putB Z n0 h0 o0 o1 y2 x3 y4 kk Kc f) 3 96 T (mkF m 113 #[.val (.ref o0), .val (.ref o1), .val (.long y2), .second, .val (.int x3), .val (.long y4), .second, .val (.int (Int32.ofNat nk)), .val (.int (Int32.ofNat 0)), .val (.int (Int32.ofNat 2)), .val (.long cp), .second, .val (.long (2305843009213693951 : Int64)), .second, .val (.long v59), .second, .val (.int (2 : Int32))] [])
      refine g_iload K W d4_113 rfl (pc' := 115) rfl ?_
      refine g_if_lt K W d4_115 (pt := 134) rfl (pf := 118) rfl (fun hc115 => absurd hc115 (by decide)) (fun hc115 => ?_)
      refine g_aloadN K W d4_118 rfl rfl (pc' := 119) rfl ?_
      refine g_iload K W d4_119 rfl (pc' := 121) rfl ?_
      refine g_aloadN K W d4_121 rfl rfl (pc' := 122) rfl ?_
      refine g_iload K W d4_122 rfl (pc' := 124) rfl ?_
      refine g_laload K W A_o1 (k := 2) rfl (by decide) (v := (f 2)) rfl d4_124 (pc' := 125) rfl ?_
      refine g_lload K W d4_125 rfl (pc' := 127) rfl ?_
      refine g_ladd K W d4_127 (pc' := 128) rfl ?_
      refine g_lload K W d4_128 rfl (pc' := 130) rfl ?_
      refine g_callS (c_min l Z a0 hw n0 _ W.sz ((f 2) + v59) (2305843009213693951 : Int64)) K W (hw _ (List.mem_of_getElem? (i := 48) rfl)) (hw _ (List.mem_of_getElem? (i := 40) rfl)) (hw _ (List.mem_of_getElem? (i := 41) rfl)) (hw _ (List.mem_of_getElem? (i := 42) rfl)) (by decide) (lenOf pd_1 rfl) d4_130 (pc' := 133) rfl (argsL := [(.long ((f 2) + v59)), (.long (2305843009213693951 : Int64))]) (rest := [(.int (2 : Int32)), (.ref o1)]) rfl rfl (by decide) (wt := 2) rfl (by decide) (by decide) (by decide) ?_
      rintro T _ _ W ⟨rfl, rfl⟩
      show Go p e below s n0 (Q_c_putB Z n0 h0 o0 o1 y2 x3 y4 kk Kc f) 3 96 T (mkF m 133 #[.val (.ref o0), .val (.ref o1), .val (.long y2), .second, .val (.int x3), .val (.long y4), .second, .val (.int (Int32.ofNat nk)), .val (.int (Int32.ofNat 0)), .val (.int (Int32.ofNat 2)), .val (.long cp), .second, .val (.long (2305843009213693951 : Int64)), .second, .val (.long v59), .second, .val (.int (2 : Int32))] [(.long (own_minL ((f 2) + v59) (2305843009213693951 : Int64))), (.int (2 : Int32)), (.ref o1)])
      refine g_lastore K W A_o1 (k := 2) rfl (by decide) ge_o1 d4_133 (pc' := 134) rfl (fun T h W w A_o1 => ?_)
      have P := P.wr1 w
      exact g_ret0 K W d4_134 (by decide) (by decide) ⟨_, _, rfl, A_o1, P, tt.a02 hz0 hzI ez⟩
    · show Go p e below s n0 (Q_c_putB Z n0 h0 o0 o1 y2 x3 y4 kk Kc f) 3 96 T (mkF m 113 #[.val (.ref o0), .val (.ref o1), .val (.long y2), .second, .val (.int x3), .val (.long y4), .second, .val (.int (Int32.ofNat nk)), .val (.int (Int32.ofNat u)), .val (.int (Int32.ofNat w2)), .val (.long cp), .second, .val (.long (2305843009213693951 : Int64)), .second, .val (.long v59), .second, .val (.int (-1 : Int32))] [])
      refine g_iload K W d4_113 rfl (pc' := 115) rfl ?_
      refine g_if_lt K W d4_115 (pt := 134) rfl (pf := 118) rfl (fun hc115 => ?_) (fun hc115 => absurd (by decide) hc115)
      exact g_ret0 K W d4_134 (by decide) (by decide) ⟨f, _, rfl, A_o1, P, tt.no hu hw2 q1 q2 q3 _⟩
  refine g_iload K W d4_64 rfl (pc' := 66) rfl ?_
  refine g_if_ne K W d4_66 (pt := 81) rfl (pf := 69) rfl (fun hc66 => ?_) (fun hc66 => ?_)
  · refine g_iload K W d4_69 rfl (pc' := 71) rfl ?_
    refine g_iconst K W (v := (1 : Int32)) d4_71 rfl (pc' := 72) rfl ?_
    refine g_icmp_ne K W d4_72 (pt := 81) rfl (pf := 75) rfl (fun hc72 => ?_) (fun hc72 => ?_)
    · refine g_iconst K W (v := (0 : Int32)) d4_75 rfl (pc' := 76) rfl ?_
      refine g_istore K W d4_76 (Ls' := #[.val (.ref o0), .val (.ref o1), .val (.long y2), .second, .val (.int x3), .val (.long y4), .second, .val (.int (Int32.ofNat nk)), .val (.int (Int32.ofNat u)), .val (.int (Int32.ofNat w2)), .val (.long cp), .second, .val (.long (2305843009213693951 : Int64)), .second, .val (.long v59), .second, .val (.int (0 : Int32))]) rfl (pc' := 78) rfl ?_
      refine g_goto K W d4_78 (pt := 113) rfl ?_
      exact hJx (0 : Int32) _ (Or.inl ⟨rfl, eu0.mp hc66, ew1.mp hc72⟩) (W.mono (by decide) (by decide))
    · refine g_iload K W d4_81 rfl (pc' := 83) rfl ?_
      refine g_iconst K W (v := (1 : Int32)) d4_83 rfl (pc' := 84) rfl ?_
      refine g_icmp_ne K W d4_84 (pt := 99) rfl (pf := 87) rfl (fun hc84 => ?_) (fun hc84 => ?_)
      · refine g_iload K W d4_87 rfl (pc' := 89) rfl ?_
        refine g_iconst K W (v := (2 : Int32)) d4_89 rfl (pc' := 90) rfl ?_
        refine g_icmp_ne K W d4_90 (pt := 99) rfl (pf := 93) rfl (fun hc90 => ?_) (fun hc90 => ?_)
        · refine g_iconst K W (v := (1 : Int32)) d4_93 rfl (pc' := 94) rfl ?_
          refine g_istore K W d4_94 (Ls' := #[.val (.ref o0), .val (.ref o1), .val (.long y2), .second, .val (.int x3), .val (.long y4), .second, .val (.int (Int32.ofNat nk)), .val (.int (Int32.ofNat u)), .val (.int (Int32.ofNat w2)), .val (.long cp), .second, .val (.long (2305843009213693951 : Int64)), .second, .val (.long v59), .second, .val (.int (1 : Int32))]) rfl (pc' := 96) rfl ?_
          refine g_goto K W d4_96 (pt := 113) rfl ?_
          exact hJx (1 : Int32) _ (Or.inr (Or.inl ⟨rfl, eu1.mp hc84, ew2.mp hc90⟩)) (W.mono (by decide) (by decide))
        · refine g_iload K W d4_99 rfl (pc' := 101) rfl ?_
          refine g_if_ne K W d4_101 (pt := 113) rfl (pf := 104) rfl (fun hc101 => ?_) (fun hc101 => ?_)
          · refine g_iload K W d4_104 rfl (pc' := 106) rfl ?_
            refine g_iconst K W (v := (2 : Int32)) d4_106 rfl (pc' := 107) rfl ?_
            refine g_icmp_ne K W d4_107 (pt := 113) rfl (pf := 110) rfl (fun hc107 => ?_) (fun hc107 => ?_)
            · refine g_iconst K W (v := (2 : Int32)) d4_110 rfl (pc' := 111) rfl ?_
              refine g_istore K W d4_111 (Ls' := #[.val (.ref o0), .val (.ref o1), .val (.long y2), .second, .val (.int x3), .val (.long y4), .second, .val (.int (Int32.ofNat nk)), .val (.int (Int32.ofNat u)), .val (.int (Int32.ofNat w2)), .val (.long cp), .second, .val (.long (2305843009213693951 : Int64)), .second, .val (.long v59), .second, .val (.int (2 : Int32))]) rfl (pc' := 113) rfl ?_
              exact hJx (2 : Int32) _ (Or.inr (Or.inr (Or.inl ⟨rfl, eu0.mp hc101, ew2.mp hc107⟩))) (W.mono (by decide) (by decide))
            · exact hJx (-1 : Int32) _ (Or.inr (Or.inr (Or.inr ⟨rfl, fun z => hc72 (ew1.mpr z.2), fun z => hc90 (ew2.mpr z.2), fun z => hc107 (ew2.mpr z.2)⟩))) (W.mono (by decide) (by decide))
          · exact hJx (-1 : Int32) _ (Or.inr (Or.inr (Or.inr ⟨rfl, fun z => hc72 (ew1.mpr z.2), fun z => hc90 (ew2.mpr z.2), fun z => hc101 (eu0.mpr z.1)⟩))) (W.mono (by decide) (by decide))
      · refine g_iload K W d4_99 rfl (pc' := 101) rfl ?_
        refine g_if_ne K W d4_101 (pt := 113) rfl (pf := 104) rfl (fun hc101 => ?_) (fun hc101 => ?_)
        · refine g_iload K W d4_104 rfl (pc' := 106) rfl ?_
          refine g_iconst K W (v := (2 : Int32)) d4_106 rfl (pc' := 107) rfl ?_
          refine g_icmp_ne K W d4_107 (pt := 113) rfl (pf := 110) rfl (fun hc107 => ?_) (fun hc107 => ?_)
          · refine g_iconst K W (v := (2 : Int32)) d4_110 rfl (pc' := 111) rfl ?_
            refine g_istore K W d4_111 (Ls' := #[.val (.ref o0), .val (.ref o1), .val (.long y2), .second, .val (.int x3), .val (.long y4), .second, .val (.int (Int32.ofNat nk)), .val (.int (Int32.ofNat u)), .val (.int (Int32.ofNat w2)), .val (.long cp), .second, .val (.long (2305843009213693951 : Int64)), .second, .val (.long v59), .second, .val (.int (2 : Int32))]) rfl (pc' := 113) rfl ?_
            exact hJx (2 : Int32) _ (Or.inr (Or.inr (Or.inl ⟨rfl, eu0.mp hc101, ew2.mp hc107⟩))) (W.mono (by decide) (by decide))
          · exact hJx (-1 : Int32) _ (Or.inr (Or.inr (Or.inr ⟨rfl, fun z => hc72 (ew1.mpr z.2), fun z => hc84 (eu1.mpr z.1), fun z => hc107 (ew2.mpr z.2)⟩))) (W.mono (by decide) (by decide))
        · exact hJx (-1 : Int32) _ (Or.inr (Or.inr (Or.inr ⟨rfl, fun z => hc72 (ew1.mpr z.2), fun z => hc84 (eu1.mpr z.1), fun z => hc101 (eu0.mpr z.1)⟩))) (W.mono (by decide) (by decide))
  · refine g_iload K W d4_81 rfl (pc' := 83) rfl ?_
    refine g_iconst K W (v := (1 : Int32)) d4_83 rfl (pc' := 84) rfl ?_
    refine g_icmp_ne K W d4_84 (pt := 99) rfl (pf := 87) rfl (fun hc84 => ?_) (fun hc84 => ?_)
    · refine g_iload K W d4_87 rfl (pc' := 89) rfl ?_
      refine g_iconst K W (v := (2 : Int32)) d4_89 rfl (pc' := 90) rfl ?_
      refine g_icmp_ne K W d4_90 (pt := 99) rfl (pf := 93) rfl (fun hc90 => ?_) (fun hc90 => ?_)
      · refine g_iconst K W (v := (1 : Int32)) d4_93 rfl (pc' := 94) rfl ?_
        refine g_istore K W d4_94 (Ls' := #[.val (.ref o0), .val (.ref o1), .val (.long y2), .second, .val (.int x3), .val (.long y4), .second, .val (.int (Int32.ofNat nk)), .val (.int (Int32.ofNat u)), .val (.int (Int32.ofNat w2)), .val (.long cp), .second, .val (.long (2305843009213693951 : Int64)), .second, .val (.long v59), .second, .val (.int (1 : Int32))]) rfl (pc' := 96) rfl ?_
        refine g_goto K W d4_96 (pt := 113) rfl ?_
        exact hJx (1 : Int32) _ (Or.inr (Or.inl ⟨rfl, eu1.mp hc84, ew2.mp hc90⟩)) (W.mono (by decide) (by decide))
      · refine g_iload K W d4_99 rfl (pc' := 101) rfl ?_
        refine g_if_ne K W d4_101 (pt := 113) rfl (pf := 104) rfl (fun hc101 => ?_) (fun hc101 => ?_)
        · refine g_iload K W d4_104 rfl (pc' := 106) rfl ?_
          refine g_iconst K W (v := (2 : Int32)) d4_106 rfl (pc' := 107) rfl ?_
          refine g_icmp_ne K W d4_107 (pt := 113) rfl (pf := 110) rfl (fun hc107 => ?_) (fun hc107 => ?_)
          · refine g_iconst K W (v := (2 : Int32)) d4_110 rfl (pc' := 111) rfl ?_
            refine g_istore K W d4_111 (Ls' := #[.val (.ref o0), .val (.ref o1), .val (.long y2), .second, .val (.int x3), .val (.long y4), .second, .val (.int (Int32.ofNat nk)), .val (.int (Int32.ofNat u)), .val (.int (Int32.ofNat w2)), .val (.long cp), .second, .val (.long (2305843009213693951 : Int64)), .second, .val (.long v59), .second, .val (.int (2 : Int32))]) rfl (pc' := 113) rfl ?_
            exact hJx (2 : Int32) _ (Or.inr (Or.inr (Or.inl ⟨rfl, eu0.mp hc101, ew2.mp hc107⟩))) (W.mono (by decide) (by decide))
          · exact hJx (-1 : Int32) _ (Or.inr (Or.inr (Or.inr ⟨rfl, fun z => hc66 (eu0.mpr z.1), fun z => hc90 (ew2.mpr z.2), fun z => hc107 (ew2.mpr z.2)⟩))) (W.mono (by decide) (by decide))
        · exact hJx (-1 : Int32) _ (Or.inr (Or.inr (Or.inr ⟨rfl, fun z => hc66 (eu0.mpr z.1), fun z => hc90 (ew2.mpr z.2), fun z => hc101 (eu0.mpr z.1)⟩))) (W.mono (by decide) (by decide))
    · refine g_iload K W d4_99 rfl (pc' := 101) rfl ?_
      refine g_if_ne K W d4_101 (pt := 113) rfl (pf := 104) rfl (fun hc101 => ?_) (fun hc101 => ?_)
      · refine g_iload K W d4_104 rfl (pc' := 106) rfl ?_
        refine g_iconst K W (v := (2 : Int32)) d4_106 rfl (pc' := 107) rfl ?_
        refine g_icmp_ne K W d4_107 (pt := 113) rfl (pf := 110) rfl (fun hc107 => ?_) (fun hc107 => ?_)
        · refine g_iconst K W (v := (2 : Int32)) d4_110 rfl (pc' := 111) rfl ?_
          refine g_istore K W d4_111 (Ls' := #[.val (.ref o0), .val (.ref o1), .val (.long y2), .second, .val (.int x3), .val (.long y4), .second, .val (.int (Int32.ofNat nk)), .val (.int (Int32.ofNat u)), .val (.int (Int32.ofNat w2)), .val (.long cp), .second, .val (.long (2305843009213693951 : Int64)), .second, .val (.long v59), .second, .val (.int (2 : Int32))]) rfl (pc' := 113) rfl ?_
          exact hJx (2 : Int32) _ (Or.inr (Or.inr (Or.inl ⟨rfl, eu0.mp hc101, ew2.mp hc107⟩))) (W.mono (by decide) (by decide))
        · exact hJx (-1 : Int32) _ (Or.inr (Or.inr (Or.inr ⟨rfl, fun z => hc66 (eu0.mpr z.1), fun z => hc84 (eu1.mpr z.1), fun z => hc107 (ew2.mpr z.2)⟩))) (W.mono (by decide) (by decide))
      · exact hJx (-1 : Int32) _ (Or.inr (Or.inr (Or.inr ⟨rfl, fun z => hc66 (eu0.mpr z.1), fun z => hc84 (eu1.mpr z.1), fun z => hc101 (eu0.mpr z.1)⟩))) (W.mono (by decide) (by decide))
def Q_c0 (Z : State) (n0 : Nat) (h0 : Heap) (yp : Int64) (y1 : Int64) (y2 : Int64) (y3 : Int64) (y4 : Int64) (y5 : Int64) : Option Value → Heap → Prop := fun v h => v = some (.int 1)
set_option maxHeartbeats 40000000 in
theorem c0 (l : Launch) (Z : State) (a0 : Array Value) (hw : ∀ d ∈ tables_1, d.before a0 Z = true) (n0 : Nat) (h0 : Heap) (hn : n0 ≤ h0.size) (yp : Int64) (y1 : Int64) (y2 : Int64) (y3 : Int64) (y4 : Int64) (y5 : Int64) :
    Mt l Z x code maxLocals ret room_1 n0 #[(.long yp), (.long y1), (.long y2), (.long y3), (.long y4), (.long y5)] h0 (Q_c0 Z n0 h0 yp y1 y2 y3 y4 y5) := by
  refine met_of (plainFor_of_name pn_2) (Ls := #[.val (.long yp), .second, .val (.long y1), .second, .val (.long y2), .second, .val (.long y3), .second, .val (.long y4), .second, .val (.long y5), .second, .unset, .unset, .unset, .unset, .unset, .unset, .unset, .unset]) (fun m => by first | (simp [entryFrame, mkF, argsToLocals, Value.category, maxLocals]; done) | rfl) hn ?_
  intro p e s m below meth c T K W
  replace K : Cx p s m meth c Z "com/example/ichnos/ichnos/planning/ils/MinCutAddPinLaw" "law" code 20 (some .boolean) := K
  generalize eA : (#[(.long yp), (.long y1), (.long y2), (.long y3), (.long y4), (.long y5)] : Array Value) = args at W
  show Go p e below s n0 (Q_c0 Z n0 h0 yp y1 y2 y3 y4 y5) 40 448 T (mkF m 0 #[.val (.long yp), .second, .val (.long y1), .second, .val (.long y2), .second, .val (.long y3), .second, .val (.long y4), .second, .val (.long y5), .second, .unset, .unset, .unset, .unset, .unset, .unset, .unset, .unset] [])
  refine g_new K W (hw _ (List.mem_of_getElem? (i := 0) rfl)) (hw _ (List.mem_of_getElem? (i := 1) rfl)) (hw _ (List.mem_of_getElem? (i := 2) rfl)) at_0 (pc' := 3) rfl (by decide) (by decide) (fun T h mo W E ha_mo ge_mo X_mo Dn => ?_)
  have F_mo_heads : Fld Z h mo "com/example/ichnos/ichnos/planning/ils/MinCut" "heads" "[I" .null := Dn (Or.inl (hw _ (List.mem_of_getElem? (i := 11) rfl))) (ty := (.array .int)) (by decide)
  have F_mo_capacities : Fld Z h mo "com/example/ichnos/ichnos/planning/ils/MinCut" "capacities" "[J" .null := Dn (Or.inl (hw _ (List.mem_of_getElem? (i := 14) rfl))) (ty := (.array .long)) (by decide)
  have F_mo_nextOut : Fld Z h mo "com/example/ichnos/ichnos/planning/ils/MinCut" "nextOut" "[I" .null := Dn (Or.inl (hw _ (List.mem_of_getElem? (i := 16) rfl))) (ty := (.array .int)) (by decide)
  have F_mo_nodes : Fld Z h mo "com/example/ichnos/ichnos/planning/ils/MinCut" "nodes" "I" (.int (0 : Int32)) := Dn (Or.inr (hw _ (List.mem_of_getElem? (i := 18) rfl))) (ty := .int) (by decide)
  have F_mo_firstOut : Fld Z h mo "com/example/ichnos/ichnos/planning/ils/MinCut" "firstOut" "[I" .null := Dn (Or.inr (hw _ (List.mem_of_getElem? (i := 20) rfl))) (ty := (.array .int)) (by decide)
  have F_mo_edges : Fld Z h mo "com/example/ichnos/ichnos/planning/ils/MinCut" "edges" "I" (.int (0 : Int32)) := Dn (Or.inl (hw _ (List.mem_of_getElem? (i := 37) rfl))) (ty := .int) (by decide)
  refine g_dup K W at_3 rfl (pc' := 4) rfl ?_
  refine g_iconst K W (v := (3 : Int32)) at_4 rfl (pc' := 5) rfl ?_
  refine g_callN (c_init l Z a0 hw n0 _ W.sz mo (3 : Int32) 3 [] X_mo F_mo_heads F_mo_capacities F_mo_nextOut F_mo_firstOut F_mo_nodes F_mo_edges ge_mo rfl (by decide) all0) K W rfl (hw _ (List.mem_of_getElem? (i := 3) rfl)) (hw _ (List.mem_of_getElem? (i := 4) rfl)) (hw _ (List.mem_of_getElem? (i := 2) rfl)) (hw _ (List.mem_of_getElem? (i := 5) rfl)) (by decide) (lenOf pd_9 rfl) at_5 (pc' := 8) rfl (argsL := [(.int (3 : Int32))]) (rest := [(.ref mo)]) rfl rfl (by decide) (wt := 1) rfl (by decide) (by decide) (by decide) ?_
  rintro T h _ W ⟨rfl, sm, P⟩
  show Go p e below s n0 (Q_c0 Z n0 h0 yp y1 y2 y3 y4 y5) 40 448 T (mkF m 8 #[.val (.long yp), .second, .val (.long y1), .second, .val (.long y2), .second, .val (.long y3), .second, .val (.long y4), .second, .val (.long y5), .second, .unset, .unset, .unset, .unset, .unset, .unset, .unset, .unset] [(.ref mo)])
  have X_mo := P.1
  refine g_astore K W at_8 rfl (Ls' := #[.val (.long yp), .second, .val (.long y1), .second, .val (.long y2), .second, .val (.long y3), .second, .val (.long y4), .second, .val (.long y5), .second, .val (.ref mo), .unset, .unset, .unset, .unset, .unset, .unset, .unset]) rfl (pc' := 10) rfl ?_
  refine g_iconst K W (v := (3 : Int32)) at_10 rfl (pc' := 11) rfl ?_
  refine g_newJ K W (n := 3) (cap := 3) (hw _ (List.mem_of_getElem? (i := 12) rfl)) rfl (Nat.le_refl _) at_11 (pc' := 13) rfl (by decide) (by decide) (by decide) (fun T h a11 W E ha_a11 ge_a11 A_a11 => ?_)
  have ne_mo_a11 : mo ≠ a11 := fun q => by have r := X_mo.lt; rw [q, ha_a11] at r; exact Nat.lt_irrefl _ r
  have ne_a11_mo : a11 ≠ mo := Ne.symm ne_mo_a11
  have X_mo := X_mo.ext E
  have P := MC.grow P E ha_a11 A_a11.lt
  have tt := TOT.start
  refine g_astore K W at_13 rfl (Ls' := #[.val (.long yp), .second, .val (.long y1), .second, .val (.long y2), .second, .val (.long y3), .second, .val (.long y4), .second, .val (.long y5), .second, .val (.ref mo), .val (.ref a11), .unset, .unset, .unset, .unset, .unset, .unset]) rfl (pc' := 15) rfl ?_
  refine g_aload K W at_15 rfl rfl (pc' := 17) rfl ?_
  refine g_aload K W at_17 rfl rfl (pc' := 19) rfl ?_
  refine g_lloadN K W at_19 rfl (pc' := 20) rfl ?_
  refine g_iconst K W (v := (0 : Int32)) at_20 rfl (pc' := 21) rfl ?_
  refine g_lloadN K W at_21 rfl (pc' := 22) rfl ?_
  refine g_callS (c_putA l Z a0 hw n0 _ W.sz mo a11 yp (0 : Int32) y1 0 (fun _ => 0) (fun _ => 0) A_a11 ge_a11 P tt (by decide)) K W (hw _ (List.mem_of_getElem? (i := 25) rfl)) (hw _ (List.mem_of_getElem? (i := 26) rfl)) (hw _ (List.mem_of_getElem? (i := 27) rfl)) (hw _ (List.mem_of_getElem? (i := 28) rfl)) (by decide) (lenOf pd_10 rfl) at_22 (pc' := 25) rfl (argsL := [(.ref mo), (.ref a11), (.long yp), (.int (0 : Int32)), (.long y1)]) (rest := []) rfl rfl (by decide) (wt := 0) rfl (by decide) (by decide) (by decide) ?_
  rintro T h _ W ⟨f1, Kc1, rfl, A_a11, P, tt⟩
  show Go p e below s n0 (Q_c0 Z n0 h0 yp y1 y2 y3 y4 y5) 40 448 T (mkF m 25 #[.val (.long yp), .second, .val (.long y1), .second, .val (.long y2), .second, .val (.long y3), .second, .val (.long y4), .second, .val (.long y5), .second, .val (.ref mo), .val (.ref a11), .unset, .unset, .unset, .unset, .unset, .unset] [])
  have X_mo := P.1
  refine g_aload K W at_25 rfl rfl (pc' := 27) rfl ?_
  refine g_aload K W at_27 rfl rfl (pc' := 29) rfl ?_
  refine g_lloadN K W at_29 rfl (pc' := 30) rfl ?_
  refine g_iconst K W (v := (1 : Int32)) at_30 rfl (pc' := 31) rfl ?_
  refine g_lload K W at_31 rfl (pc' := 33) rfl ?_
  refine g_callS (c_putA l Z a0 hw n0 _ W.sz mo a11 yp (1 : Int32) y2 1 Kc1 f1 A_a11 ge_a11 P tt (by decide)) K W (hw _ (List.mem_of_getElem? (i := 25) rfl)) (hw _ (List.mem_of_getElem? (i := 26) rfl)) (hw _ (List.mem_of_getElem? (i := 27) rfl)) (hw _ (List.mem_of_getElem? (i := 28) rfl)) (by decide) (lenOf pd_10 rfl) at_33 (pc' := 36) rfl (argsL := [(.ref mo), (.ref a11), (.long yp), (.int (1 : Int32)), (.long y2)]) (rest := []) rfl rfl (by decide) (wt := 0) rfl (by decide) (by decide) (by decide) ?_
  rintro T h _ W ⟨f2, Kc2, rfl, A_a11, P, tt⟩
  show Go p e below s n0 (Q_c0 Z n0 h0 yp y1 y2 y3 y4 y5) 40 448 T (mkF m 36 #[.val (.long yp), .second, .val (.long y1), .second, .val (.long y2), .second, .val (.long y3), .second, .val (.long y4), .second, .val (.long y5), .second, .val (.ref mo), .val (.ref a11), .unset, .unset, .unset, .unset, .unset, .unset] [])
  have X_mo := P.1
  refine g_aload K W at_36 rfl rfl (pc' := 38) rfl ?_
  refine g_aload K W at_38 rfl rfl (pc' := 40) rfl ?_
  refine g_lloadN K W at_40 rfl (pc' := 41) rfl ?_
  refine g_iconst K W (v := (2 : Int32)) at_41 rfl (pc' := 42) rfl ?_
  refine g_lload K W at_42 rfl (pc' := 44) rfl ?_
  refine g_callS (c_putA l Z a0 hw n0 _ W.sz mo a11 yp (2 : Int32) y3 2 Kc2 f2 A_a11 ge_a11 P tt (by decide)) K W (hw _ (List.mem_of_getElem? (i := 25) rfl)) (hw _ (List.mem_of_getElem? (i := 26) rfl)) (hw _ (List.mem_of_getElem? (i := 27) rfl)) (hw _ (List.mem_of_getElem? (i := 28) rfl)) (by decide) (lenOf pd_10 rfl) at_44 (pc' := 47) rfl (argsL := [(.ref mo), (.ref a11), (.long yp), (.int (2 : Int32)), (.long y3)]) (rest := []) rfl rfl (by decide) (wt := 0) rfl (by decide) (by decide) (by decide) ?_
  rintro T h _ W ⟨f3, Kc3, rfl, A_a11, P, tt⟩
  show Go p e below s n0 (Q_c0 Z n0 h0 yp y1 y2 y3 y4 y5) 40 448 T (mkF m 47 #[.val (.long yp), .second, .val (.long y1), .second, .val (.long y2), .second, .val (.long y3), .second, .val (.long y4), .second, .val (.long y5), .second, .val (.ref mo), .val (.ref a11), .unset, .unset, .unset, .unset, .unset, .unset] [])
  have X_mo := P.1
  refine g_aload K W at_47 rfl rfl (pc' := 49) rfl ?_
  refine g_aload K W at_49 rfl rfl (pc' := 51) rfl ?_
  refine g_lloadN K W at_51 rfl (pc' := 52) rfl ?_
  refine g_iconst K W (v := (3 : Int32)) at_52 rfl (pc' := 53) rfl ?_
  refine g_lload K W at_53 rfl (pc' := 55) rfl ?_
  refine g_callS (c_putA l Z a0 hw n0 _ W.sz mo a11 yp (3 : Int32) y4 3 Kc3 f3 A_a11 ge_a11 P tt (by decide)) K W (hw _ (List.mem_of_getElem? (i := 25) rfl)) (hw _ (List.mem_of_getElem? (i := 26) rfl)) (hw _ (List.mem_of_getElem? (i := 27) rfl)) (hw _ (List.mem_of_getElem? (i := 28) rfl)) (by decide) (lenOf pd_10 rfl) at_55 (pc' := 58) rfl (argsL := [(.ref mo), (.ref a11), (.long yp), (.int (3 : Int32)), (.long y4)]) (rest := []) rfl rfl (by decide) (wt := 0) rfl (by decide) (by decide) (by decide) ?_
  rintro T h _ W ⟨f4, Kc4, rfl, A_a11, P, tt⟩
  show Go p e below s n0 (Q_c0 Z n0 h0 yp y1 y2 y3 y4 y5) 40 448 T (mkF m 58 #[.val (.long yp), .second, .val (.long y1), .second, .val (.long y2), .second, .val (.long y3), .second, .val (.long y4), .second, .val (.long y5), .second, .val (.ref mo), .val (.ref a11), .unset, .unset, .unset, .unset, .unset, .unset] [])
  have X_mo := P.1
  refine g_aload K W at_58 rfl rfl (pc' := 60) rfl ?_
  refine g_aload K W at_60 rfl rfl (pc' := 62) rfl ?_
  refine g_lloadN K W at_62 rfl (pc' := 63) rfl ?_
  refine g_iconst K W (v := (4 : Int32)) at_63 rfl (pc' := 64) rfl ?_
  refine g_lload K W at_64 rfl (pc' := 66) rfl ?_
  refine g_callS (c_putA l Z a0 hw n0 _ W.sz mo a11 yp (4 : Int32) y5 4 Kc4 f4 A_a11 ge_a11 P tt (by decide)) K W (hw _ (List.mem_of_getElem? (i := 25) rfl)) (hw _ (List.mem_of_getElem? (i := 26) rfl)) (hw _ (List.mem_of_getElem? (i := 27) rfl)) (hw _ (List.mem_of_getElem? (i := 28) rfl)) (by decide) (lenOf pd_10 rfl) at_66 (pc' := 69) rfl (argsL := [(.ref mo), (.ref a11), (.long yp), (.int (4 : Int32)), (.long y5)]) (rest := []) rfl rfl (by decide) (wt := 0) rfl (by decide) (by decide) (by decide) ?_
  rintro T h _ W ⟨f5, Kc5, rfl, A_a11, P, tt⟩
  show Go p e below s n0 (Q_c0 Z n0 h0 yp y1 y2 y3 y4 y5) 40 448 T (mkF m 69 #[.val (.long yp), .second, .val (.long y1), .second, .val (.long y2), .second, .val (.long y3), .second, .val (.long y4), .second, .val (.long y5), .second, .val (.ref mo), .val (.ref a11), .unset, .unset, .unset, .unset, .unset, .unset] [])
  have X_mo := P.1
  refine g_aload K W at_69 rfl rfl (pc' := 71) rfl ?_
  refine g_aload K W at_71 rfl rfl (pc' := 73) rfl ?_
  refine g_lloadN K W at_73 rfl (pc' := 74) rfl ?_
  refine g_iconst K W (v := (5 : Int32)) at_74 rfl (pc' := 75) rfl ?_
  refine g_lloadN K W at_75 rfl (pc' := 76) rfl ?_
  refine g_callS (c_putA l Z a0 hw n0 _ W.sz mo a11 yp (5 : Int32) y1 5 Kc5 f5 A_a11 ge_a11 P tt (by decide)) K W (hw _ (List.mem_of_getElem? (i := 25) rfl)) (hw _ (List.mem_of_getElem? (i := 26) rfl)) (hw _ (List.mem_of_getElem? (i := 27) rfl)) (hw _ (List.mem_of_getElem? (i := 28) rfl)) (by decide) (lenOf pd_10 rfl) at_76 (pc' := 79) rfl (argsL := [(.ref mo), (.ref a11), (.long yp), (.int (5 : Int32)), (.long y1)]) (rest := []) rfl rfl (by decide) (wt := 0) rfl (by decide) (by decide) (by decide) ?_
  rintro T h _ W ⟨f6, Kc6, rfl, A_a11, P, tt⟩
  show Go p e below s n0 (Q_c0 Z n0 h0 yp y1 y2 y3 y4 y5) 40 448 T (mkF m 79 #[.val (.long yp), .second, .val (.long y1), .second, .val (.long y2), .second, .val (.long y3), .second, .val (.long y4), .second, .val (.long y5), .second, .val (.ref mo), .val (.ref a11), .unset, .unset, .unset, .unset, .unset, .unset] [])
  have X_mo := P.1
  refine g_aload K W at_79 rfl rfl (pc' := 81) rfl ?_
  refine g_aload K W at_81 rfl rfl (pc' := 83) rfl ?_
  refine g_lloadN K W at_83 rfl (pc' := 84) rfl ?_
  refine g_bipush K W (v := (6 : Int32)) at_84 rfl (pc' := 86) rfl ?_
  refine g_lload K W at_86 rfl (pc' := 88) rfl ?_
  refine g_callS (c_putA l Z a0 hw n0 _ W.sz mo a11 yp (6 : Int32) y2 6 Kc6 f6 A_a11 ge_a11 P tt (by decide)) K W (hw _ (List.mem_of_getElem? (i := 25) rfl)) (hw _ (List.mem_of_getElem? (i := 26) rfl)) (hw _ (List.mem_of_getElem? (i := 27) rfl)) (hw _ (List.mem_of_getElem? (i := 28) rfl)) (by decide) (lenOf pd_10 rfl) at_88 (pc' := 91) rfl (argsL := [(.ref mo), (.ref a11), (.long yp), (.int (6 : Int32)), (.long y2)]) (rest := []) rfl rfl (by decide) (wt := 0) rfl (by decide) (by decide) (by decide) ?_
  rintro T h _ W ⟨f7, Kc7, rfl, A_a11, P, tt⟩
  show Go p e below s n0 (Q_c0 Z n0 h0 yp y1 y2 y3 y4 y5) 40 448 T (mkF m 91 #[.val (.long yp), .second, .val (.long y1), .second, .val (.long y2), .second, .val (.long y3), .second, .val (.long y4), .second, .val (.long y5), .second, .val (.ref mo), .val (.ref a11), .unset, .unset, .unset, .unset, .unset, .unset] [])
  have X_mo := P.1
  refine g_aload K W at_91 rfl rfl (pc' := 93) rfl ?_
  refine g_aload K W at_93 rfl rfl (pc' := 95) rfl ?_
  refine g_lloadN K W at_95 rfl (pc' := 96) rfl ?_
  refine g_bipush K W (v := (7 : Int32)) at_96 rfl (pc' := 98) rfl ?_
  refine g_lload K W at_98 rfl (pc' := 100) rfl ?_
  refine g_callS (c_putA l Z a0 hw n0 _ W.sz mo a11 yp (7 : Int32) y3 7 Kc7 f7 A_a11 ge_a11 P tt (by decide)) K W (hw _ (List.mem_of_getElem? (i := 25) rfl)) (hw _ (List.mem_of_getElem? (i := 26) rfl)) (hw _ (List.mem_of_getElem? (i := 27) rfl)) (hw _ (List.mem_of_getElem? (i := 28) rfl)) (by decide) (lenOf pd_10 rfl) at_100 (pc' := 103) rfl (argsL := [(.ref mo), (.ref a11), (.long yp), (.int (7 : Int32)), (.long y3)]) (rest := []) rfl rfl (by decide) (wt := 0) rfl (by decide) (by decide) (by decide) ?_
  rintro T h _ W ⟨f8, Kc8, rfl, A_a11, P, tt⟩
  show Go p e below s n0 (Q_c0 Z n0 h0 yp y1 y2 y3 y4 y5) 40 448 T (mkF m 103 #[.val (.long yp), .second, .val (.long y1), .second, .val (.long y2), .second, .val (.long y3), .second, .val (.long y4), .second, .val (.long y5), .second, .val (.ref mo), .val (.ref a11), .unset, .unset, .unset, .unset, .unset, .unset] [])
  have X_mo := P.1
  refine g_aload K W at_103 rfl rfl (pc' := 105) rfl ?_
  refine g_aload K W at_105 rfl rfl (pc' := 107) rfl ?_
  refine g_lloadN K W at_107 rfl (pc' := 108) rfl ?_
  refine g_bipush K W (v := (8 : Int32)) at_108 rfl (pc' := 110) rfl ?_
  refine g_lload K W at_110 rfl (pc' := 112) rfl ?_
  refine g_callS (c_putB l Z a0 hw n0 _ W.sz mo a11 yp (8 : Int32) y4 8 Kc8 f8 A_a11 ge_a11 P tt (by decide)) K W (hw _ (List.mem_of_getElem? (i := 25) rfl)) (hw _ (List.mem_of_getElem? (i := 26) rfl)) (hw _ (List.mem_of_getElem? (i := 27) rfl)) (hw _ (List.mem_of_getElem? (i := 28) rfl)) (by decide) (lenOf pd_10 rfl) at_112 (pc' := 115) rfl (argsL := [(.ref mo), (.ref a11), (.long yp), (.int (8 : Int32)), (.long y4)]) (rest := []) rfl rfl (by decide) (wt := 0) rfl (by decide) (by decide) (by decide) ?_
  rintro T h _ W ⟨f9, Kc9, rfl, A_a11, P, tt⟩
  show Go p e below s n0 (Q_c0 Z n0 h0 yp y1 y2 y3 y4 y5) 40 448 T (mkF m 115 #[.val (.long yp), .second, .val (.long y1), .second, .val (.long y2), .second, .val (.long y3), .second, .val (.long y4), .second, .val (.long y5), .second, .val (.ref mo), .val (.ref a11), .unset, .unset, .unset, .unset, .unset, .unset] [])
  have X_mo := P.1
  refine g_aload K W at_115 rfl rfl (pc' := 117) rfl ?_
  refine g_iconst K W (v := (0 : Int32)) at_117 rfl (pc' := 118) rfl ?_
  refine g_iconst K W (v := (2 : Int32)) at_118 rfl (pc' := 119) rfl ?_
  refine g_callV (c_side l Z a0 hw n0 _ W.sz mo (0 : Int32) (2 : Int32) 3 9 0 2 Kc9 [a11] P rfl rfl (by decide) (by decide) (by decide)) K W X_mo (hw _ (List.mem_of_getElem? (i := 62) rfl)) (hw _ (List.mem_of_getElem? (i := 63) rfl)) (hw _ (List.mem_of_getElem? (i := 65) rfl)) (hw _ (List.mem_of_getElem? (i := 65) rfl)) (hw _ (List.mem_of_getElem? (i := 64) rfl)) (hw _ (List.mem_of_getElem? (i := 2) rfl)) (hw _ (List.mem_of_getElem? (i := 66) rfl)) (by decide) (lenOf pd_11 rfl) at_119 (pc' := 122) rfl (argsL := [(.int (0 : Int32)), (.int (2 : Int32))]) (rest := []) rfl rfl (by decide) (wt := 0) rfl (by decide) (by decide) (by decide) ?_
  rintro T h _ W (⟨rfl, sm, hnull⟩ | ⟨av, gv, S, F, rfl, sm, A_av, hF, sd, hgv⟩)
  · show Go p e below s n0 (Q_c0 Z n0 h0 yp y1 y2 y3 y4 y5) 40 448 T (mkF m 122 #[.val (.long yp), .second, .val (.long y1), .second, .val (.long y2), .second, .val (.long y3), .second, .val (.long y4), .second, .val (.long y5), .second, .val (.ref mo), .val (.ref a11), .unset, .unset, .unset, .unset, .unset, .unset] [.null])
    have A_a11 := A_a11.sm sm (by simp)
    have nl := tt.null hnull
    refine g_astore K W at_122 rfl (Ls' := #[.val (.long yp), .second, .val (.long y1), .second, .val (.long y2), .second, .val (.long y3), .second, .val (.long y4), .second, .val (.long y5), .second, .val (.ref mo), .val (.ref a11), .val .null, .unset, .unset, .unset, .unset, .unset]) rfl (pc' := 124) rfl ?_
    refine g_ldc2 K W (v := (2305843009213693951 : Int64)) (hw _ (List.mem_of_getElem? (i := 47) rfl)) at_124 (pc' := 127) rfl ?_
    refine g_lstore K W at_127 (Ls' := #[.val (.long yp), .second, .val (.long y1), .second, .val (.long y2), .second, .val (.long y3), .second, .val (.long y4), .second, .val (.long y5), .second, .val (.ref mo), .val (.ref a11), .val .null, .val (.long (2305843009213693951 : Int64)), .second, .unset, .unset, .unset]) rfl (pc' := 129) rfl ?_
    refine g_aload K W at_129 rfl rfl (pc' := 131) rfl ?_
    refine g_iconst K W (v := (0 : Int32)) at_131 rfl (pc' := 132) rfl ?_
    refine g_laload K W A_a11 (k := 0) rfl (by decide) (v := (f9 0)) rfl at_132 (pc' := 133) rfl ?_
    refine g_aload K W at_133 rfl rfl (pc' := 135) rfl ?_
    refine g_iconst K W (v := (1 : Int32)) at_135 rfl (pc' := 136) rfl ?_
    refine g_laload K W A_a11 (k := 1) rfl (by decide) (v := (f9 1)) rfl at_136 (pc' := 137) rfl ?_
    refine g_callS (c_min l Z a0 hw n0 _ W.sz (f9 0) (f9 1)) K W (hw _ (List.mem_of_getElem? (i := 48) rfl)) (hw _ (List.mem_of_getElem? (i := 40) rfl)) (hw _ (List.mem_of_getElem? (i := 41) rfl)) (hw _ (List.mem_of_getElem? (i := 42) rfl)) (by decide) (lenOf pd_1 rfl) at_137 (pc' := 140) rfl (argsL := [(.long (f9 0)), (.long (f9 1))]) (rest := []) rfl rfl (by decide) (wt := 0) rfl (by decide) (by decide) (by decide) ?_
    rintro T _ _ W ⟨rfl, rfl⟩
    show Go p e below s n0 (Q_c0 Z n0 h0 yp y1 y2 y3 y4 y5) 40 448 T (mkF m 140 #[.val (.long yp), .second, .val (.long y1), .second, .val (.long y2), .second, .val (.long y3), .second, .val (.long y4), .second, .val (.long y5), .second, .val (.ref mo), .val (.ref a11), .val .null, .val (.long (2305843009213693951 : Int64)), .second, .unset, .unset, .unset] [(.long (own_minL (f9 0) (f9 1)))])
    refine g_lstore K W at_140 (Ls' := #[.val (.long yp), .second, .val (.long y1), .second, .val (.long y2), .second, .val (.long y3), .second, .val (.long y4), .second, .val (.long y5), .second, .val (.ref mo), .val (.ref a11), .val .null, .val (.long (2305843009213693951 : Int64)), .second, .val (.long (own_minL (f9 0) (f9 1))), .second, .unset]) rfl (pc' := 142) rfl ?_
    refine g_aload K W at_142 rfl rfl (pc' := 144) rfl ?_
    refine g_iconst K W (v := (2 : Int32)) at_144 rfl (pc' := 145) rfl ?_
    refine g_laload K W A_a11 (k := 2) rfl (by decide) (v := (f9 2)) rfl at_145 (pc' := 146) rfl ?_
    refine g_lload K W at_146 rfl (pc' := 148) rfl ?_
    refine g_ladd K W at_148 (pc' := 149) rfl ?_
    refine g_lload K W at_149 rfl (pc' := 151) rfl ?_
    refine g_lcmp_lt K W at_151 (pc1 := 152) rfl at_152 (pt := 159) rfl (pf := 155) rfl (fun hc151 => absurd hc151 (fun z => nl (Int64.lt_iff_toInt_lt.mp z))) (fun hc151 => ?_)
    refine g_iconst K W (v := (1 : Int32)) at_155 rfl (pc' := 156) rfl ?_
    refine g_goto K W at_156 (pt := 160) rfl ?_
    refine g_istore K W at_160 (Ls' := #[.val (.long yp), .second, .val (.long y1), .second, .val (.long y2), .second, .val (.long y3), .second, .val (.long y4), .second, .val (.long y5), .second, .val (.ref mo), .val (.ref a11), .val .null, .val (.long (2305843009213693951 : Int64)), .second, .val (.long (own_minL (f9 0) (f9 1))), .second, .val (.int (1 : Int32))]) rfl (pc' := 162) rfl ?_
    refine g_iload K W at_162 rfl (pc' := 164) rfl ?_
    refine g_if_eq K W at_164 (pt := 178) rfl (pf := 167) rfl (fun hc164 => absurd hc164 (by decide)) (fun hc164 => ?_)
    refine g_aload K W at_167 rfl rfl (pc' := 169) rfl ?_
    refine g_ifnonnull_f K W at_169 (pf := 172) rfl ?_
    refine g_iconst K W (v := (1 : Int32)) at_172 rfl (pc' := 173) rfl ?_
    refine g_goto K W at_173 (pt := 177) rfl ?_
    exact g_retN K W (by simp) at_177 (by decide) (by decide) (v := (1 : Int32)) rfl rfl
  · show Go p e below s n0 (Q_c0 Z n0 h0 yp y1 y2 y3 y4 y5) 40 448 T (mkF m 122 #[.val (.long yp), .second, .val (.long y1), .second, .val (.long y2), .second, .val (.long y3), .second, .val (.long y4), .second, .val (.long y5), .second, .val (.ref mo), .val (.ref a11), .unset, .unset, .unset, .unset, .unset, .unset] [(.ref av)])
    have A_a11 := A_a11.sm sm (by simp)
    obtain ⟨nl, ns⟩ := tt.side sd hF
    rw [← Int64.lt_iff_toInt_lt] at ns
    refine g_astore K W at_122 rfl (Ls' := #[.val (.long yp), .second, .val (.long y1), .second, .val (.long y2), .second, .val (.long y3), .second, .val (.long y4), .second, .val (.long y5), .second, .val (.ref mo), .val (.ref a11), .val (.ref av), .unset, .unset, .unset, .unset, .unset]) rfl (pc' := 124) rfl ?_
    refine g_ldc2 K W (v := (2305843009213693951 : Int64)) (hw _ (List.mem_of_getElem? (i := 47) rfl)) at_124 (pc' := 127) rfl ?_
    refine g_lstore K W at_127 (Ls' := #[.val (.long yp), .second, .val (.long y1), .second, .val (.long y2), .second, .val (.long y3), .second, .val (.long y4), .second, .val (.long y5), .second, .val (.ref mo), .val (.ref a11), .val (.ref av), .val (.long (2305843009213693951 : Int64)), .second, .unset, .unset, .unset]) rfl (pc' := 129) rfl ?_
    refine g_aload K W at_129 rfl rfl (pc' := 131) rfl ?_
    refine g_iconst K W (v := (0 : Int32)) at_131 rfl (pc' := 132) rfl ?_
    refine g_laload K W A_a11 (k := 0) rfl (by decide) (v := (f9 0)) rfl at_132 (pc' := 133) rfl ?_
    refine g_aload K W at_133 rfl rfl (pc' := 135) rfl ?_
    refine g_iconst K W (v := (1 : Int32)) at_135 rfl (pc' := 136) rfl ?_
    refine g_laload K W A_a11 (k := 1) rfl (by decide) (v := (f9 1)) rfl at_136 (pc' := 137) rfl ?_
    refine g_callS (c_min l Z a0 hw n0 _ W.sz (f9 0) (f9 1)) K W (hw _ (List.mem_of_getElem? (i := 48) rfl)) (hw _ (List.mem_of_getElem? (i := 40) rfl)) (hw _ (List.mem_of_getElem? (i := 41) rfl)) (hw _ (List.mem_of_getElem? (i := 42) rfl)) (by decide) (lenOf pd_1 rfl) at_137 (pc' := 140) rfl (argsL := [(.long (f9 0)), (.long (f9 1))]) (rest := []) rfl rfl (by decide) (wt := 0) rfl (by decide) (by decide) (by decide) ?_
    rintro T _ _ W ⟨rfl, rfl⟩
    show Go p e below s n0 (Q_c0 Z n0 h0 yp y1 y2 y3 y4 y5) 40 448 T (mkF m 140 #[.val (.long yp), .second, .val (.long y1), .second, .val (.long y2), .second, .val (.long y3), .second, .val (.long y4), .second, .val (.long y5), .second, .val (.ref mo), .val (.ref a11), .val (.ref av), .val (.long (2305843009213693951 : Int64)), .second, .unset, .unset, .unset] [(.long (own_minL (f9 0) (f9 1)))])
    refine g_lstore K W at_140 (Ls' := #[.val (.long yp), .second, .val (.long y1), .second, .val (.long y2), .second, .val (.long y3), .second, .val (.long y4), .second, .val (.long y5), .second, .val (.ref mo), .val (.ref a11), .val (.ref av), .val (.long (2305843009213693951 : Int64)), .second, .val (.long (own_minL (f9 0) (f9 1))), .second, .unset]) rfl (pc' := 142) rfl ?_
    refine g_aload K W at_142 rfl rfl (pc' := 144) rfl ?_
    refine g_iconst K W (v := (2 : Int32)) at_144 rfl (pc' := 145) rfl ?_
    refine g_laload K W A_a11 (k := 2) rfl (by decide) (v := (f9 2)) rfl at_145 (pc' := 146) rfl ?_
    refine g_lload K W at_146 rfl (pc' := 148) rfl ?_
    refine g_ladd K W at_148 (pc' := 149) rfl ?_
    refine g_lload K W at_149 rfl (pc' := 151) rfl ?_
    refine g_lcmp_lt K W at_151 (pc1 := 152) rfl at_152 (pt := 159) rfl (pf := 155) rfl (fun hc151 => ?_) (fun hc151 => absurd (Int64.lt_iff_toInt_lt.mpr nl) hc151)
    refine g_iconst K W (v := (0 : Int32)) at_159 rfl (pc' := 160) rfl ?_
    refine g_istore K W at_160 (Ls' := #[.val (.long yp), .second, .val (.long y1), .second, .val (.long y2), .second, .val (.long y3), .second, .val (.long y4), .second, .val (.long y5), .second, .val (.ref mo), .val (.ref a11), .val (.ref av), .val (.long (2305843009213693951 : Int64)), .second, .val (.long (own_minL (f9 0) (f9 1))), .second, .val (.int (0 : Int32))]) rfl (pc' := 162) rfl ?_
    refine g_iload K W at_162 rfl (pc' := 164) rfl ?_
    refine g_if_eq K W at_164 (pt := 178) rfl (pf := 167) rfl (fun hc164 => ?_) (fun hc164 => absurd rfl hc164)
    refine g_aload K W at_178 rfl rfl (pc' := 180) rfl ?_
    refine g_ifnull_f K W at_180 (pf := 183) rfl ?_
    refine g_aload K W at_183 rfl rfl (pc' := 185) rfl ?_
    refine g_alenI K W A_av (v := (3 : Int32)) rfl at_185 (pc' := 186) rfl ?_
    refine g_iconst K W (v := (3 : Int32)) at_186 rfl (pc' := 187) rfl ?_
    refine g_icmp_ne K W at_187 (pt := 232) rfl (pf := 190) rfl (fun hc187 => ?_) (fun hc187 => absurd rfl hc187)
    refine g_aload K W at_190 rfl rfl (pc' := 192) rfl ?_
    refine g_iconst K W (v := (0 : Int32)) at_192 rfl (pc' := 193) rfl ?_
    refine g_zaload K W A_av (k := 0) rfl (by decide) (v := (1 : Int32)) (by rw [hgv 0 (by decide), sd.1]; rfl) at_193 (pc' := 194) rfl ?_
    refine g_if_eq K W at_194 (pt := 232) rfl (pf := 197) rfl (fun hc194 => absurd hc194 (by decide)) (fun hc194 => ?_)
    refine g_aload K W at_197 rfl rfl (pc' := 199) rfl ?_
    refine g_iconst K W (v := (2 : Int32)) at_199 rfl (pc' := 200) rfl ?_
    refine g_zaload K W A_av (k := 2) rfl (by decide) (v := (0 : Int32)) (by rw [hgv 2 (by decide), sd.2.1]; rfl) at_200 (pc' := 201) rfl ?_
    refine g_if_ne K W at_201 (pt := 232) rfl (pf := 204) rfl (fun hc201 => ?_) (fun hc201 => absurd rfl hc201)
    refine g_aload K W at_204 rfl rfl (pc' := 206) rfl ?_
    refine g_iconst K W (v := (1 : Int32)) at_206 rfl (pc' := 207) rfl ?_
    refine g_zaload K W A_av (k := 1) rfl (by decide) (v := (gv 1)) rfl at_207 (pc' := 208) rfl ?_
    refine g_aload K W at_208 rfl rfl (pc' := 210) rfl ?_
    refine g_iconst K W (v := (0 : Int32)) at_210 rfl (pc' := 211) rfl ?_
    refine g_laload K W A_a11 (k := 0) rfl (by decide) (v := (f9 0)) rfl at_211 (pc' := 212) rfl ?_
    refine g_aload K W at_212 rfl rfl (pc' := 214) rfl ?_
    refine g_iconst K W (v := (1 : Int32)) at_214 rfl (pc' := 215) rfl ?_
    refine g_laload K W A_a11 (k := 1) rfl (by decide) (v := (f9 1)) rfl at_215 (pc' := 216) rfl ?_
    refine g_lcmp_le K W at_216 (pc1 := 217) rfl at_217 (pt := 224) rfl (pf := 220) rfl (fun hc216 => ?_) (fun hc216 => ?_)
    · refine g_iconst K W (v := (1 : Int32)) at_220 rfl (pc' := 221) rfl ?_
      refine g_goto K W at_221 (pt := 225) rfl ?_
      refine g_icmp_ne K W at_225 (pt := 232) rfl (pf := 228) rfl (fun hc225 => ?_) (fun hc225 => absurd (by rw [hgv 1 (by decide), if_pos (ns.mpr hc216)]) hc225)
      refine g_iconst K W (v := (1 : Int32)) at_228 rfl (pc' := 229) rfl ?_
      refine g_goto K W at_229 (pt := 233) rfl ?_
      exact g_retN K W (by simp) at_233 (by decide) (by decide) (v := (1 : Int32)) rfl rfl
    · refine g_iconst K W (v := (0 : Int32)) at_224 rfl (pc' := 225) rfl ?_
      refine g_icmp_ne K W at_225 (pt := 232) rfl (pf := 228) rfl (fun hc225 => ?_) (fun hc225 => absurd (by rw [hgv 1 (by decide), if_neg (fun z => hc216 (ns.mp z))]) hc225)
      refine g_iconst K W (v := (1 : Int32)) at_228 rfl (pc' := 229) rfl ?_
      refine g_goto K W at_229 (pt := 233) rfl ?_
      exact g_retN K W (by simp) at_233 (by decide) (by decide) (v := (1 : Int32)) rfl rfl
set_option maxHeartbeats 40000000 in
theorem comes_1 {Post : Tables → Env → Array Value → State → Outcome → State → Prop} (hpost : ∀ tb e args s v u, (limb_1_1.after args s (.returned v) u = true ∧ limb_1_2.after args s (.returned v) u = true ∧ True) → FrameEnd s (.returned v) u (Jvm.fieldLocs frame_1_writes args s ++ Jvm.arrayLocs frame_1_arrays args s ++ Jvm.staticLocs frame_1_statics s) 40 448 → Post tb e args s (.returned v) u) :
    ArmFor flags0 classFile x code maxLocals ret World_1 tables_1 room_1 Calls_1 rest_1 Pre_1 Post := by
  intro l hfl _ _ p e ha hc hk s m args below hf hA hF happ hP
  obtain ⟨hcalls, hrest, hpre⟩ := hP
  obtain ⟨-, -, -, hnamed, -, -, -, hat⟩ := (Spec.applies_iff hf).mp happ
  obtain ⟨hg, hn⟩ := and_e (Cond.before_iff.mp (show (Jvm.Cond.and given_1 narrow_1).before args s = true from hpre))
  obtain ⟨hcnt, hg⟩ := and_e hg
  obtain ⟨hi0, hg⟩ := and_e hg
  obtain ⟨hi1, hg⟩ := and_e hg
  obtain ⟨hi2, hg⟩ := and_e hg
  obtain ⟨hi3, hg⟩ := and_e hg
  obtain ⟨hi4, hg⟩ := and_e hg
  have hi5 := hg
  obtain ⟨w0, w1, w2, w3, w4, w5, rfl⟩ : ∃ w0 w1 w2 w3 w4 w5 : Value, args = #[w0, w1, w2, w3, w4, w5] := by
    have hs : args.size = 6 := by simpa [Cond.value, given_1] using hcnt
    obtain ⟨L⟩ := args
    match L, hs with
    | [w0, w1, w2, w3, w4, w5], _ => exact ⟨w0, w1, w2, w3, w4, w5, rfl⟩
  have hw := fun d (hd : d ∈ tables_1) => atoms_spec (ws := Jvm.Cond.code x code maxLocals ret :: tables_1) hat d (List.mem_cons_of_mem _ hd)
  obtain ⟨i0, ei0⟩ := isL_v hi0
  obtain rfl : w0 = (.long i0) := Option.some.inj ei0
  obtain ⟨i1, ei1⟩ := isL_v hi1
  obtain rfl : w1 = (.long i1) := Option.some.inj ei1
  obtain ⟨i2, ei2⟩ := isL_v hi2
  obtain rfl : w2 = (.long i2) := Option.some.inj ei2
  obtain ⟨i3, ei3⟩ := isL_v hi3
  obtain rfl : w3 = (.long i3) := Option.some.inj ei3
  obtain ⟨i4, ei4⟩ := isL_v hi4
  obtain rfl : w4 = (.long i4) := Option.some.inj ei4
  obtain ⟨i5, ei5⟩ := isL_v hi5
  obtain rfl : w5 = (.long i5) := Option.some.inj ei5
  obtain ⟨n, o, h1, h2, h3, v, L, rfl, ⟨hv, N⟩, hq⟩ := c0 l s _ hw s.heap.size s.heap (Nat.le_refl _) i0 i1 i2 i3 i4 i5 tables_1 p e ha hc hk s m _ below hf ((Spec.applies_iff_loose hf).mp happ).1 ⟨rfl, State.Warmed39.refl s, rfl⟩ trivial
  obtain rfl : v = some (.int 1) := hv
  refine ⟨n, _, h1, h2, h3, hpost _ _ _ _ _ _ ⟨Cond.after_iff.mpr rfl, Cond.after_iff.mpr (eq_i res_at (Term.int_eval (1)) rfl), trivial⟩ ⟨hq.1, hq.2.1, (hq.2.2.sift fun y hy => Or.inr (N y hy)).mono (by decide) (by decide)⟩⟩
theorem main_1_1 : Claimed_1_1 := comes_1 fun _ _ _ _ _ _ h hF => ⟨h.1, hF⟩
theorem main_1_2 : Claimed_1_2 := comes_1 fun _ _ _ _ _ _ h hF => ⟨h.2.1, hF⟩
end Jvm.Pilot.@@N@@
namespace Jvm.Pilot.@@N@@
open Jvm Jvm.ClassFile Sem Op Lib Jvm.Free Jvm.Stand Jvm.Pilot.@@N@@.Jvm.D
/-! MADE BY PROGRAM (witnessworld.py) out of the Statement's table words and the real class files: 16 classes; the members and pool entries that the words name. The judged class is class 1, her method 2. -/
namespace start1
open Jvm.ClassFile
def u (s : String) : CpInfo := .utf8 (stringToUtf16 s)
/-- a pool by its gaps: so many unusable entries, then the entry; so many at the end -/
def gap : Nat → List CpInfo → List CpInfo
  | 0, r => r
  | n + 1, r => .unusable :: gap n r
def poolList (es : List (Nat × CpInfo)) (last : Nat) : List CpInfo := es.foldr (fun e r => gap e.1 (e.2 :: r)) (gap last [])
def pool (es : List (Nat × CpInfo)) (last : Nat) : Array CpInfo := ⟨poolList es last⟩
def fileOf (pool : Array CpInfo) (this : Nat) (attrs : Array Attribute := #[]) (ms : Array MethodInfo := #[]) (fl : Nat := 33) (sup : Nat := 0) (ifs : Array Nat := #[]) (fds : Array FieldInfo := #[]) : ClassFile where
  minorVersion := 0
  majorVersion := 65
  constantPool := pool
  accessFlags := fl
  thisClass := this
  superClass := sup
  interfaces := ifs
  fields := fds
  methods := ms
  attributes := attrs
def plain (name : String) (sup : Option ClassId) : Class where
  name := name
  kind := .ordinary
  loader := none
  accessFlags := 33
  super := sup
  interfaces := #[]
  cf := none
  fields := #[]
  methods := #[]
  instanceTypes := #[]
  staticTypes := #[]
  resolved := #[]
  callSites := []
  init := .initialized
  statics := none
  mirror := none

def pool0 : Array CpInfo := pool [(5, u "<init>"), (0, u "()V"), (1, .class_ 10), (1, u "java/lang/Object")] 113

def k0c0 : Code := { maxStack := 0, maxLocals := 1, code := object_method_1_code, exceptionTable := #[], attributes := #[] }
def k0m0 : Method := { name := "<init>", desc := "()V", sig := { parameters := [], returnType := none }, accessFlags := 1, code := some k0c0 }
/-- java/lang/Object -/
def k0 : Class := { plain "java/lang/Object" none with
  accessFlags := 33
  interfaces := #[]
  cf := some (fileOf pool0 8 #[] #[{ accessFlags := 1, nameIndex := 5, descriptorIndex := 6, attributes := #[] }] 33 0 #[] #[])
  fields := #[]
  methods := #[k0m0]
  instanceTypes := #[]
  staticTypes := #[]
  resolved := Array.replicate 124 none
  statics := none }

def pool1 : Array CpInfo := pool [(2, .class_ 4), (1, u "java/lang/Object"), (0, u "<init>"), (0, u "()V"), (0, .long 15), (3, .long 9223372036854775807), (1, .methodref 14 15), (0, .class_ 16), (0, .nameAndType 17 18), (0, u "com/example/ichnos/ichnos/planning/ils/MinCut"), (0, u "add"), (0, u "(IIJ)V"), (0, .long 2305843009213693951), (1, .methodref 22 23), (0, .class_ 24), (0, .nameAndType 25 26), (0, u "java/lang/Math"), (0, u "min"), (0, u "(JJ)J"), (0, .methodref 14 28), (0, .nameAndType 5 29), (0, u "(I)V"), (0, .methodref 31 32), (0, .class_ 33), (0, .nameAndType 34 35), (0, u "com/example/ichnos/ichnos/planning/ils/MinCutAddPinLaw"), (0, u "put"), (0, u "(Lcom/example/ichnos/ichnos/planning/ils/MinCut;[JJIJ)V"), (0, .methodref 14 37), (0, .nameAndType 38 39), (0, u "sourceSide"), (0, u "(II)[Z"), (5, u "law"), (0, u "(JJJJJJ)Z")] 4

def k1m0 : Method := { name := "<init>", desc := "()V", sig := { parameters := [], returnType := none }, accessFlags := 2, code := none }
def k1c1 : Code := { maxStack := 6, maxLocals := 17, code := method_2_code, exceptionTable := #[], attributes := #[] }
def k1m1 : Method := { name := "put", desc := "(Lcom/example/ichnos/ichnos/planning/ils/MinCut;[JJIJ)V", sig := { parameters := [(.object "com/example/ichnos/ichnos/planning/ils/MinCut"), (.array .long), .long, .int, .long], returnType := none }, accessFlags := 10, code := some k1c1 }
def k1c2 : Code := { maxStack := 7, maxLocals := 20, code := code, exceptionTable := #[], attributes := #[] }
def k1m2 : Method := { name := "law", desc := "(JJJJJJ)Z", sig := { parameters := [.long, .long, .long, .long, .long, .long], returnType := some .boolean }, accessFlags := 9, code := some k1c2 }
/-- com/example/ichnos/ichnos/planning/ils/MinCutAddPinLaw -/
def k1 : Class := { plain "com/example/ichnos/ichnos/planning/ils/MinCutAddPinLaw" (some 0) with
  accessFlags := 49
  interfaces := #[]
  cf := some (fileOf pool1 31 #[] #[{ accessFlags := 2, nameIndex := 5, descriptorIndex := 6, attributes := #[] }, { accessFlags := 10, nameIndex := 34, descriptorIndex := 35, attributes := #[] }, { accessFlags := 9, nameIndex := 45, descriptorIndex := 46, attributes := #[] }] 49 2 #[] #[])
  fields := #[]
  methods := #[k1m0, k1m1, k1m2]
  instanceTypes := #[]
  staticTypes := #[]
  resolved := Array.replicate 51 none
  statics := none }

def pool2 : Array CpInfo := pool [(3, .methodref 4 5), (0, .class_ 6), (0, .nameAndType 7 8), (0, u "java/lang/Object"), (0, u "<init>"), (0, u "()V"), (0, .fieldref 10 11), (0, .class_ 12), (0, .nameAndType 13 14), (0, u "com/example/ichnos/ichnos/planning/ils/MinCut"), (0, u "heads"), (0, u "[I"), (0, .fieldref 10 16), (0, .nameAndType 17 18), (0, u "capacities"), (0, u "[J"), (0, .fieldref 10 20), (0, .nameAndType 21 14), (0, u "nextOut"), (0, .fieldref 10 23), (0, .nameAndType 24 25), (0, u "nodes"), (0, u "I"), (0, .fieldref 10 27), (0, .nameAndType 28 14), (0, u "firstOut"), (0, .methodref 30 31), (0, .class_ 32), (0, .nameAndType 33 34), (0, u "java/util/Arrays"), (0, u "fill"), (0, u "([II)V"), (0, .fieldref 10 36), (0, .nameAndType 37 25), (0, u "edges"), (0, .methodref 30 39), (0, .nameAndType 40 41), (0, u "copyOf"), (0, u "([II)[I"), (0, .methodref 30 43), (0, .nameAndType 40 44), (0, u "([JI)[J"), (0, .long 2305843009213693951), (1, .methodref 48 49), (0, .class_ 50), (0, .nameAndType 51 52), (0, u "java/lang/Math"), (0, u "min"), (0, u "(JJ)J"), (0, .methodref 10 54), (0, .nameAndType 55 56), (0, u "link"), (0, u "(IIJ)V"), (0, .methodref 10 58), (0, .nameAndType 59 60), (0, u "level"), (0, u "(II[I[I)Z"), (0, .methodref 62 63), (0, .class_ 64), (0, .nameAndType 65 66), (0, u "java/lang/System"), (0, u "arraycopy"), (0, u "(Ljava/lang/Object;ILjava/lang/Object;II)V"), (0, .methodref 10 68), (0, .nameAndType 69 70), (0, u "push"), (0, u "(II[I[I[I)J"), (0, .methodref 10 72), (0, .nameAndType 73 74), (0, u "admissible"), (0, u "(III[I)Z"), (0, u "INFINITE"), (0, u "J"), (1, u "(I)V"), (2, u "add"), (1, u "sourceSide"), (0, u "(II)[Z")] 5

def k2c0 : Code := { maxStack := 2, maxLocals := 2, code := prog_66_method_1_code, exceptionTable := #[], attributes := #[] }
def k2m0 : Method := { name := "<init>", desc := "(I)V", sig := { parameters := [.int], returnType := none }, accessFlags := 0, code := some k2c0 }
def k2c1 : Code := { maxStack := 7, maxLocals := 5, code := prog_66_method_2_code, exceptionTable := #[], attributes := #[] }
def k2m1 : Method := { name := "add", desc := "(IIJ)V", sig := { parameters := [.int, .int, .long], returnType := none }, accessFlags := 0, code := some k2c1 }
def k2c2 : Code := { maxStack := 4, maxLocals := 5, code := prog_66_method_3_code, exceptionTable := #[], attributes := #[] }
def k2m2 : Method := { name := "link", desc := "(IIJ)V", sig := { parameters := [.int, .int, .long], returnType := none }, accessFlags := 2, code := some k2c2 }
def k2c3 : Code := { maxStack := 6, maxLocals := 11, code := prog_66_method_4_code, exceptionTable := #[], attributes := #[] }
def k2m3 : Method := { name := "sourceSide", desc := "(II)[Z", sig := { parameters := [.int, .int], returnType := some (.array .boolean) }, accessFlags := 0, code := some k2c3 }
def k2c4 : Code := { maxStack := 4, maxLocals := 9, code := prog_66_method_5_code, exceptionTable := #[], attributes := #[] }
def k2m4 : Method := { name := "level", desc := "(II[I[I)Z", sig := { parameters := [.int, .int, (.array .int), (.array .int)], returnType := some .boolean }, accessFlags := 2, code := some k2c4 }
def k2c5 : Code := { maxStack := 6, maxLocals := 13, code := prog_66_method_6_code, exceptionTable := #[], attributes := #[] }
def k2m5 : Method := { name := "push", desc := "(II[I[I[I)J", sig := { parameters := [.int, .int, (.array .int), (.array .int), (.array .int)], returnType := some .long }, accessFlags := 2, code := some k2c5 }
def k2c6 : Code := { maxStack := 4, maxLocals := 6, code := prog_66_method_7_code, exceptionTable := #[], attributes := #[] }
def k2m6 : Method := { name := "admissible", desc := "(III[I)Z", sig := { parameters := [.int, .int, .int, (.array .int)], returnType := some .boolean }, accessFlags := 2, code := some k2c6 }
/-- com/example/ichnos/ichnos/planning/ils/MinCut -/
def k2 : Class := { plain "com/example/ichnos/ichnos/planning/ils/MinCut" (some 0) with
  accessFlags := 48
  interfaces := #[]
  cf := some (fileOf pool2 10 #[] #[{ accessFlags := 0, nameIndex := 7, descriptorIndex := 78, attributes := #[] }, { accessFlags := 0, nameIndex := 81, descriptorIndex := 56, attributes := #[] }, { accessFlags := 2, nameIndex := 55, descriptorIndex := 56, attributes := #[] }, { accessFlags := 0, nameIndex := 83, descriptorIndex := 84, attributes := #[] }, { accessFlags := 2, nameIndex := 59, descriptorIndex := 60, attributes := #[] }, { accessFlags := 2, nameIndex := 69, descriptorIndex := 70, attributes := #[] }, { accessFlags := 2, nameIndex := 73, descriptorIndex := 74, attributes := #[] }] 48 4 #[] #[{ accessFlags := 24, nameIndex := 75, descriptorIndex := 76, attributes := #[] }, { accessFlags := 18, nameIndex := 24, descriptorIndex := 25, attributes := #[] }, { accessFlags := 2, nameIndex := 13, descriptorIndex := 14, attributes := #[] }, { accessFlags := 2, nameIndex := 17, descriptorIndex := 18, attributes := #[] }, { accessFlags := 2, nameIndex := 21, descriptorIndex := 14, attributes := #[] }, { accessFlags := 2, nameIndex := 37, descriptorIndex := 25, attributes := #[] }, { accessFlags := 18, nameIndex := 28, descriptorIndex := 14, attributes := #[] }])
  fields := #[{ name := "INFINITE", type := .long, accessFlags := 24, slot := 0, constantValue := 0 }, { name := "nodes", type := .int, accessFlags := 18, slot := 0, constantValue := 0 }, { name := "heads", type := (.array .int), accessFlags := 2, slot := 1, constantValue := 0 }, { name := "capacities", type := (.array .long), accessFlags := 2, slot := 2, constantValue := 0 }, { name := "nextOut", type := (.array .int), accessFlags := 2, slot := 3, constantValue := 0 }, { name := "edges", type := .int, accessFlags := 2, slot := 4, constantValue := 0 }, { name := "firstOut", type := (.array .int), accessFlags := 18, slot := 5, constantValue := 0 }]
  methods := #[k2m0, k2m1, k2m2, k2m3, k2m4, k2m5, k2m6]
  instanceTypes := #[.int, (.array .int), (.array .long), (.array .int), .int, (.array .int)]
  staticTypes := #[.long]
  resolved := Array.replicate 90 none
  statics := none }

def pool3 : Array CpInfo := pool [(2, .class_ 4), (1, u "java/lang/Object"), (0, u "<init>"), (0, u "()V"), (7, .class_ 16), (1, u "java/util/Arrays"), (57, .class_ 76), (1, u "java/util/Arrays$NaturalOrder"), (36, .class_ 115), (1, u "java/util/Arrays$LegacyMergeSort"), (1, u "Z"), (32, .methodref 151 152), (0, .class_ 153), (0, .nameAndType 154 155), (0, u "java/lang/System"), (0, u "arraycopy"), (0, u "(Ljava/lang/Object;ILjava/lang/Object;II)V"), (146, u "copyOf"), (1, .methodref 305 306), (0, .class_ 307), (0, .nameAndType 308 309), (0, u "java/lang/Math"), (0, u "min"), (0, u "(II)I"), (65, .class_ 376), (0, u "java/util/Arrays$ArrayList"), (68, u "$assertionsDisabled"), (269, u "MIN_ARRAY_SORT_GRAN"), (0, u "I"), (2, u "INSERTIONSORT_THRESHOLD"), (120, u "fill"), (4, u "([II)V"), (25, u "([II)[I"), (0, u "([JI)[J"), (102, .class_ 976), (0, u "java/util/Arrays$ArrayItr")] 52

def k3m0 : Method := { name := "<init>", desc := "()V", sig := { parameters := [], returnType := none }, accessFlags := 2, code := none }
def k3c1 : Code := { maxStack := 3, maxLocals := 4, code := jdk_65_method_103_code, exceptionTable := #[], attributes := #[] }
def k3m1 : Method := { name := "fill", desc := "([II)V", sig := { parameters := [(.array .int), .int], returnType := none }, accessFlags := 9, code := some k3c1 }
def k3c2 : Code := { maxStack := 6, maxLocals := 3, code := jdk_65_method_123_code, exceptionTable := #[], attributes := #[] }
def k3m2 : Method := { name := "copyOf", desc := "([II)[I", sig := { parameters := [(.array .int), .int], returnType := some (.array .int) }, accessFlags := 9, code := some k3c2 }
def k3c3 : Code := { maxStack := 6, maxLocals := 3, code := jdk_65_method_124_code, exceptionTable := #[], attributes := #[] }
def k3m3 : Method := { name := "copyOf", desc := "([JI)[J", sig := { parameters := [(.array .long), .int], returnType := some (.array .long) }, accessFlags := 9, code := some k3c3 }
/-- java/util/Arrays -/
def k3 : Class := { plain "java/util/Arrays" (some 0) with
  accessFlags := 49
  interfaces := #[]
  cf := some (fileOf pool3 14 #[.nestMembers #[975, 375, 113, 74]] #[{ accessFlags := 2, nameIndex := 5, descriptorIndex := 6, attributes := #[] }, { accessFlags := 9, nameIndex := 840, descriptorIndex := 845, attributes := #[] }, { accessFlags := 9, nameIndex := 302, descriptorIndex := 871, attributes := #[] }, { accessFlags := 9, nameIndex := 302, descriptorIndex := 872, attributes := #[] }] 49 2 #[] #[{ accessFlags := 26, nameIndex := 715, descriptorIndex := 716, attributes := #[] }, { accessFlags := 26, nameIndex := 719, descriptorIndex := 716, attributes := #[] }, { accessFlags := 4120, nameIndex := 445, descriptorIndex := 117, attributes := #[] }])
  fields := #[{ name := "MIN_ARRAY_SORT_GRAN", type := .int, accessFlags := 26, slot := 0, constantValue := 0 }, { name := "INSERTIONSORT_THRESHOLD", type := .int, accessFlags := 26, slot := 1, constantValue := 0 }, { name := "$assertionsDisabled", type := .boolean, accessFlags := 4120, slot := 2, constantValue := 0 }]
  methods := #[k3m0, k3m1, k3m2, k3m3]
  instanceTypes := #[]
  staticTypes := #[.int, .int, .boolean]
  resolved := Array.replicate 1029 none
  statics := none }

def pool4 : Array CpInfo := pool [(1, .class_ 2), (0, u "java/lang/Math"), (1, .class_ 6), (1, u "java/lang/Object"), (0, u "<init>"), (0, u "()V"), (89, .class_ 100), (1, u "java/lang/Math$RandomNumberGeneratorHolder"), (20, u "(JJ)J"), (50, u "negativeZeroFloatBits"), (0, u "J"), (2, u "negativeZeroDoubleBits"), (24, u "min"), (43, u "$assertionsDisabled"), (0, u "Z"), (88, u "(II)I"), (2, u "twoToTheDoubleScaleDown"), (0, u "D"), (4, u "twoToTheDoubleScaleUp"), (9, u "E"), (3, u "PI"), (2, u "TAU"), (2, u "DEGREES_TO_RADIANS"), (0, u "RADIANS_TO_DEGREES")] 94

def k4m0 : Method := { name := "<init>", desc := "()V", sig := { parameters := [], returnType := none }, accessFlags := 2, code := none }
def k4c1 : Code := { maxStack := 2, maxLocals := 2, code := jdk_29_method_69_code, exceptionTable := #[], attributes := #[] }
def k4m1 : Method := { name := "min", desc := "(II)I", sig := { parameters := [.int, .int], returnType := some .int }, accessFlags := 9, code := some k4c1 }
def k4c2 : Code := { maxStack := 4, maxLocals := 4, code := jdk_29_method_70_code, exceptionTable := #[], attributes := #[] }
def k4m2 : Method := { name := "min", desc := "(JJ)J", sig := { parameters := [.long, .long], returnType := some .long }, accessFlags := 9, code := some k4c2 }
/-- java/lang/Math -/
def k4 : Class := { plain "java/lang/Math" (some 0) with
  accessFlags := 49
  interfaces := #[]
  cf := some (fileOf pool4 1 #[.nestMembers #[98]] #[{ accessFlags := 2, nameIndex := 7, descriptorIndex := 8, attributes := #[] }, { accessFlags := 9, nameIndex := 201, descriptorIndex := 335, attributes := #[] }, { accessFlags := 9, nameIndex := 201, descriptorIndex := 121, attributes := #[] }] 49 4 #[] #[{ accessFlags := 25, nameIndex := 354, descriptorIndex := 339, attributes := #[] }, { accessFlags := 25, nameIndex := 358, descriptorIndex := 339, attributes := #[] }, { accessFlags := 25, nameIndex := 361, descriptorIndex := 339, attributes := #[] }, { accessFlags := 26, nameIndex := 364, descriptorIndex := 339, attributes := #[] }, { accessFlags := 26, nameIndex := 365, descriptorIndex := 339, attributes := #[] }, { accessFlags := 26, nameIndex := 172, descriptorIndex := 173, attributes := #[] }, { accessFlags := 26, nameIndex := 176, descriptorIndex := 173, attributes := #[] }, { accessFlags := 8, nameIndex := 344, descriptorIndex := 339, attributes := #[] }, { accessFlags := 8, nameIndex := 338, descriptorIndex := 339, attributes := #[] }, { accessFlags := 4120, nameIndex := 245, descriptorIndex := 246, attributes := #[] }])
  fields := #[{ name := "E", type := .double, accessFlags := 25, slot := 0, constantValue := 0 }, { name := "PI", type := .double, accessFlags := 25, slot := 1, constantValue := 0 }, { name := "TAU", type := .double, accessFlags := 25, slot := 2, constantValue := 0 }, { name := "DEGREES_TO_RADIANS", type := .double, accessFlags := 26, slot := 3, constantValue := 0 }, { name := "RADIANS_TO_DEGREES", type := .double, accessFlags := 26, slot := 4, constantValue := 0 }, { name := "negativeZeroFloatBits", type := .long, accessFlags := 26, slot := 5, constantValue := 0 }, { name := "negativeZeroDoubleBits", type := .long, accessFlags := 26, slot := 6, constantValue := 0 }, { name := "twoToTheDoubleScaleUp", type := .double, accessFlags := 8, slot := 7, constantValue := 0 }, { name := "twoToTheDoubleScaleDown", type := .double, accessFlags := 8, slot := 8, constantValue := 0 }, { name := "$assertionsDisabled", type := .boolean, accessFlags := 4120, slot := 9, constantValue := 0 }]
  methods := #[k4m0, k4m1, k4m2]
  instanceTypes := #[]
  staticTypes := #[.double, .double, .double, .double, .double, .long, .long, .double, .double, .boolean]
  resolved := Array.replicate 460 none
  statics := none }

def pool5 : Array CpInfo := pool [(2, .class_ 4), (1, u "java/lang/Object"), (0, u "<init>"), (0, u "()V"), (1, .class_ 10), (1, u "java/lang/System"), (0, u "allowSecurityManager"), (0, u "I"), (16, u "cons"), (0, u "Ljava/io/Console;"), (77, .class_ 110), (1, u "java/lang/System$CallersHolder"), (43, u "initialErrStream"), (0, u "Ljava/io/PrintStream;"), (19, u "security"), (0, u "Ljava/lang/SecurityManager;"), (31, .class_ 209), (0, u "java/lang/System$1"), (7, u "props"), (0, u "Ljava/util/Properties;"), (2, u "lineSeparator"), (0, u "Ljava/lang/String;"), (96, .class_ 321), (1, u "java/lang/System$LoggerFinder"), (5, .class_ 328), (0, u "java/lang/System$Logger"), (67, u "err"), (2, u "out"), (91, u "notSupportedJnuEncoding"), (15, u "in"), (17, u "initialIn"), (0, u "Ljava/io/InputStream;"), (35, u "bootLayer"), (0, u "Ljava/lang/ModuleLayer;"), (99, .class_ 664), (0, u "java/lang/System$2"), (9, u "NEVER"), (2, u "MAYBE"), (49, u "arraycopy"), (0, u "(Ljava/lang/Object;ILjava/lang/Object;II)V"), (72, .class_ 802), (0, u "java/lang/System$Logger$Level")] 31

def k5m0 : Method := { name := "<init>", desc := "()V", sig := { parameters := [], returnType := none }, accessFlags := 2, code := none }
def k5m1 : Method := { name := "arraycopy", desc := "(Ljava/lang/Object;ILjava/lang/Object;II)V", sig := { parameters := [(.object "java/lang/Object"), .int, (.object "java/lang/Object"), .int, .int], returnType := none }, accessFlags := 265, code := none }
/-- java/lang/System -/
def k5 : Class := { plain "java/lang/System" (some 0) with
  accessFlags := 49
  interfaces := #[]
  cf := some (fileOf pool5 8 #[.nestMembers #[319, 327, 801, 108, 663, 208]] #[{ accessFlags := 2, nameIndex := 5, descriptorIndex := 6, attributes := #[] }, { accessFlags := 265, nameIndex := 727, descriptorIndex := 728, attributes := #[] }] 49 2 #[] #[{ accessFlags := 25, nameIndex := 507, descriptorIndex := 526, attributes := #[] }, { accessFlags := 25, nameIndex := 399, descriptorIndex := 155, attributes := #[] }, { accessFlags := 25, nameIndex := 396, descriptorIndex := 155, attributes := #[] }, { accessFlags := 10, nameIndex := 525, descriptorIndex := 526, attributes := #[] }, { accessFlags := 26, nameIndex := 674, descriptorIndex := 12, attributes := #[] }, { accessFlags := 26, nameIndex := 677, descriptorIndex := 12, attributes := #[] }, { accessFlags := 10, nameIndex := 11, descriptorIndex := 12, attributes := #[] }, { accessFlags := 74, nameIndex := 175, descriptorIndex := 176, attributes := #[] }, { accessFlags := 10, nameIndex := 491, descriptorIndex := 222, attributes := #[] }, { accessFlags := 74, nameIndex := 29, descriptorIndex := 30, attributes := #[] }, { accessFlags := 74, nameIndex := 154, descriptorIndex := 155, attributes := #[] }, { accessFlags := 10, nameIndex := 217, descriptorIndex := 218, attributes := #[] }, { accessFlags := 10, nameIndex := 221, descriptorIndex := 222, attributes := #[] }, { accessFlags := 8, nameIndex := 562, descriptorIndex := 563, attributes := #[] }])
  fields := #[{ name := "in", type := (.object "java/io/InputStream"), accessFlags := 25, slot := 0, constantValue := 0 }, { name := "out", type := (.object "java/io/PrintStream"), accessFlags := 25, slot := 1, constantValue := 0 }, { name := "err", type := (.object "java/io/PrintStream"), accessFlags := 25, slot := 2, constantValue := 0 }, { name := "initialIn", type := (.object "java/io/InputStream"), accessFlags := 10, slot := 3, constantValue := 0 }, { name := "NEVER", type := .int, accessFlags := 26, slot := 4, constantValue := 0 }, { name := "MAYBE", type := .int, accessFlags := 26, slot := 5, constantValue := 0 }, { name := "allowSecurityManager", type := .int, accessFlags := 10, slot := 6, constantValue := 0 }, { name := "security", type := (.object "java/lang/SecurityManager"), accessFlags := 74, slot := 7, constantValue := 0 }, { name := "notSupportedJnuEncoding", type := (.object "java/lang/String"), accessFlags := 10, slot := 8, constantValue := 0 }, { name := "cons", type := (.object "java/io/Console"), accessFlags := 74, slot := 9, constantValue := 0 }, { name := "initialErrStream", type := (.object "java/io/PrintStream"), accessFlags := 74, slot := 10, constantValue := 0 }, { name := "props", type := (.object "java/util/Properties"), accessFlags := 10, slot := 11, constantValue := 0 }, { name := "lineSeparator", type := (.object "java/lang/String"), accessFlags := 10, slot := 12, constantValue := 0 }, { name := "bootLayer", type := (.object "java/lang/ModuleLayer"), accessFlags := 8, slot := 13, constantValue := 0 }]
  methods := #[k5m0, k5m1]
  instanceTypes := #[]
  staticTypes := #[(.object "java/io/InputStream"), (.object "java/io/PrintStream"), (.object "java/io/PrintStream"), (.object "java/io/InputStream"), .int, .int, .int, (.object "java/lang/SecurityManager"), (.object "java/lang/String"), (.object "java/io/Console"), (.object "java/io/PrintStream"), (.object "java/util/Properties"), (.object "java/lang/String"), (.object "java/lang/ModuleLayer")]
  resolved := Array.replicate 834 none
  statics := none }

def pool6 : Array CpInfo := pool [(1, u "java/lang/Cloneable"), (0, .class_ 1), (0, u "java/lang/Object"), (0, .class_ 3)] 3

/-- java/lang/Cloneable -/
def k6 : Class := { plain "java/lang/Cloneable" (some 0) with
  accessFlags := 1537
  interfaces := #[]
  cf := some (fileOf pool6 2 #[] #[] 1537 4 #[] #[])
  fields := #[]
  methods := #[]
  instanceTypes := #[]
  staticTypes := #[]
  resolved := Array.replicate 8 none
  statics := none }

def pool7 : Array CpInfo := pool [(1, u "java/io/Serializable"), (0, .class_ 1), (0, u "java/lang/Object"), (0, .class_ 3)] 3

/-- java/io/Serializable -/
def k7 : Class := { plain "java/io/Serializable" (some 0) with
  accessFlags := 1537
  interfaces := #[]
  cf := some (fileOf pool7 2 #[] #[] 1537 4 #[] #[])
  fields := #[]
  methods := #[]
  instanceTypes := #[]
  staticTypes := #[]
  resolved := Array.replicate 8 none
  statics := none }

/-- the primitive boolean -/
def k8 : Class := { plain "boolean" none with kind := .primitive 'Z', accessFlags := 0x411 }
/-- [Z -/
def k9 : Class := { plain "[Z" (some 0) with kind := .array 8 .boolean, interfaces := #[6, 7], accessFlags := 1041 }

/-- the primitive byte -/
def k10 : Class := { plain "byte" none with kind := .primitive 'B', accessFlags := 0x411 }
/-- [B -/
def k11 : Class := { plain "[B" (some 0) with kind := .array 10 .byte, interfaces := #[6, 7], accessFlags := 1041 }

/-- the primitive int -/
def k12 : Class := { plain "int" none with kind := .primitive 'I', accessFlags := 0x411 }
/-- [I -/
def k13 : Class := { plain "[I" (some 0) with kind := .array 12 .int, interfaces := #[6, 7], accessFlags := 1041 }

/-- the primitive long -/
def k14 : Class := { plain "long" none with kind := .primitive 'J', accessFlags := 0x411 }
/-- [J -/
def k15 : Class := { plain "[J" (some 0) with kind := .array 14 .long, interfaces := #[6, 7], accessFlags := 1041 }

def heap : Heap := #[]
def classes : Array Class := #[k0, k1, k2, k3, k4, k5, k6, k7, k8, k9, k10, k11, k12, k13, k14, k15]
def interned : List (Array UInt16 × Addr) := []
def slotsUsed : Nat := 0
def theMethod : MethodId := ⟨1, 2⟩
def args0 : Array Value := #[.long 5, .long 6, .long 7, .long 1, .long 2, .long 3]
def aboutOver (below : List Frame) : State where
  vm := { classes := classes, interned := interned.toArray }
  heap := heap
  slotsUsed := slotsUsed
  threads := #[{ frames := .invoking theMethod args0 :: below }]
def below0 : List Frame := [.native { method := ⟨0, 0⟩, args := #[] }]
def about1 : State := aboutOver below0
def p0 : Program := .bare "" "" ""
def e0 : Env := launch0.env 0 0 0
theorem w_frames : about1.frames = Frame.invoking theMethod args0 :: below0 := rfl
set_option maxRecDepth 65536 in
theorem w_args : argsFit about1.vm theMethod args0 = true := by decide +kernel
set_option maxRecDepth 65536 in
theorem w_heap : heapFits about1 = true := by decide +kernel
set_option maxRecDepth 65536 in
theorem w_runnable : about1.curStatus? = some .runnable := by decide +kernel
set_option maxRecDepth 65536 in
theorem w_alone : about1.alone = true := by decide +kernel
set_option maxRecDepth 65536 in
theorem w_named : about1.methodNamed? x = some theMethod := by decide +kernel
set_option maxRecDepth 65536 in
theorem w_hears : about1.hears theMethod below0 = true := by decide +kernel
set_option maxRecDepth 65536 in
theorem w_ripe : about1.ripe theMethod args0 below0 = true := by decide +kernel
theorem w_running : about1.status = .running := rfl
set_option maxRecDepth 65536 in
theorem w_room : about1.hasRoom e0.platform room_1 = true :=
  launch0.hasRoom_least _ room_1 (by decide +kernel) (by decide +kernel) (by decide +kernel) (by decide +kernel) (by decide +kernel) (by decide +kernel)
theorem allAtoms_all (ts : List Jvm.Cond) (a : Array Jvm.Value) (st : Jvm.State) : (allAtoms ts).before a st = ts.all (fun c => c.before a st) := by
  induction ts with
  | nil => rfl
  | cons c t ih =>
    show (Jvm.Cond.and c (allAtoms t)).before a st = _
    rw [Jvm.Cond.before_and, ih, List.all_cons]
def words1 : List Jvm.Cond := Jvm.Cond.code x code maxLocals ret :: tables_1
/-- a 'code' word, met by the world's own term for the bytes: nothing is compared byte by byte -/
theorem code_word {y : MethodName} {bytes : ByteArray} {mx : Nat} {rt : Option FieldType} {a : Array Value} {s : State} {m : MethodId} {meth : Method} {c : Code} (h1 : s.methodNamed? y = some m) (h2 : s.vm.method? m = some meth) (h3 : meth.code = some c) (h4 : c.code = bytes)
    (h5 : (c.maxLocals == mx && c.exceptionTable.isEmpty && decide (c.maxStack ≤ mostOperands) && decide (meth.sig.returnType = rt) && !meth.locks && decide (parseMethodDescriptor y.desc = some meth.sig)) = true) : (Jvm.Cond.code y bytes mx rt).before a s = true := by
  simp only [Bool.and_eq_true, beq_iff_eq, Bool.not_eq_true', decide_eq_true_eq] at h5
  obtain ⟨⟨⟨⟨⟨g1, g2⟩, g3⟩, g4⟩, g5⟩, g6⟩ := h5
  simp [Cond.before, Cond.holds, Cond.value, h1, h2, h3, h4, g1, g2, g3, g4, g5, g6]
def isCode : Jvm.Cond → Bool
  | .code _ _ _ _ => true
  | _ => false
theorem all_split {L : List Jvm.Cond} {P : Jvm.Cond → Bool} (h1 : L.all (fun c => isCode c || P c) = true) (h2 : ∀ c ∈ L.filter isCode, P c = true) : L.all P = true := by
  refine List.all_eq_true.mpr fun c hc => ?_
  have h := List.all_eq_true.mp h1 c hc
  rcases Bool.eq_false_or_eq_true (isCode c) with hi | hi
  · exact h2 c (List.mem_filter.mpr ⟨hc, hi⟩)
  · simpa [hi] using h
set_option maxRecDepth 65536 in
theorem w_c0 : (Jvm.Cond.code x code maxLocals ret).before args0 about1 = true := code_word (m := ⟨1, 2⟩) (meth := k1m2) (c := k1c2) (by decide +kernel) rfl rfl rfl (by decide +kernel)
set_option maxRecDepth 65536 in
theorem w_c1 : (Jvm.Cond.code ({ cls := "com/example/ichnos/ichnos/planning/ils/MinCut", name := "<init>", desc := "(I)V" } : Jvm.MethodName) prog_66_method_1_code (2 : Nat) (Option.none : Option Jvm.ClassFile.FieldType)).before args0 about1 = true := code_word (m := ⟨2, 0⟩) (meth := k2m0) (c := k2c0) (by decide +kernel) rfl rfl rfl (by decide +kernel)
set_option maxRecDepth 65536 in
theorem w_c2 : (Jvm.Cond.code ({ cls := "java/lang/Object", name := "<init>", desc := "()V" } : Jvm.MethodName) object_method_1_code (1 : Nat) (Option.none : Option Jvm.ClassFile.FieldType)).before args0 about1 = true := code_word (m := ⟨0, 0⟩) (meth := k0m0) (c := k0c0) (by decide +kernel) rfl rfl rfl (by decide +kernel)
set_option maxRecDepth 65536 in
theorem w_c3 : (Jvm.Cond.code ({ cls := "java/util/Arrays", name := "fill", desc := "([II)V" } : Jvm.MethodName) jdk_65_method_103_code (4 : Nat) (Option.none : Option Jvm.ClassFile.FieldType)).before args0 about1 = true := code_word (m := ⟨3, 1⟩) (meth := k3m1) (c := k3c1) (by decide +kernel) rfl rfl rfl (by decide +kernel)
set_option maxRecDepth 65536 in
theorem w_c4 : (Jvm.Cond.code ({ cls := "com/example/ichnos/ichnos/planning/ils/MinCutAddPinLaw", name := "put", desc := "(Lcom/example/ichnos/ichnos/planning/ils/MinCut;[JJIJ)V" } : Jvm.MethodName) method_2_code (17 : Nat) (Option.none : Option Jvm.ClassFile.FieldType)).before args0 about1 = true := code_word (m := ⟨1, 1⟩) (meth := k1m1) (c := k1c1) (by decide +kernel) rfl rfl rfl (by decide +kernel)
set_option maxRecDepth 65536 in
theorem w_c5 : (Jvm.Cond.code ({ cls := "com/example/ichnos/ichnos/planning/ils/MinCut", name := "add", desc := "(IIJ)V" } : Jvm.MethodName) prog_66_method_2_code (5 : Nat) (Option.none : Option Jvm.ClassFile.FieldType)).before args0 about1 = true := code_word (m := ⟨2, 1⟩) (meth := k2m1) (c := k2c1) (by decide +kernel) rfl rfl rfl (by decide +kernel)
set_option maxRecDepth 65536 in
theorem w_c6 : (Jvm.Cond.code ({ cls := "java/lang/Math", name := "min", desc := "(JJ)J" } : Jvm.MethodName) jdk_29_method_70_code (4 : Nat) (Option.some Jvm.ClassFile.FieldType.long)).before args0 about1 = true := code_word (m := ⟨4, 2⟩) (meth := k4m2) (c := k4c2) (by decide +kernel) rfl rfl rfl (by decide +kernel)
set_option maxRecDepth 65536 in
theorem w_c7 : (Jvm.Cond.code ({ cls := "com/example/ichnos/ichnos/planning/ils/MinCut", name := "link", desc := "(IIJ)V" } : Jvm.MethodName) prog_66_method_3_code (5 : Nat) (Option.none : Option Jvm.ClassFile.FieldType)).before args0 about1 = true := code_word (m := ⟨2, 2⟩) (meth := k2m2) (c := k2c2) (by decide +kernel) rfl rfl rfl (by decide +kernel)
set_option maxRecDepth 65536 in
theorem w_c8 : (Jvm.Cond.code ({ cls := "java/util/Arrays", name := "copyOf", desc := "([II)[I" } : Jvm.MethodName) jdk_65_method_123_code (3 : Nat) (Option.some (Jvm.ClassFile.FieldType.array Jvm.ClassFile.FieldType.int))).before args0 about1 = true := code_word (m := ⟨3, 2⟩) (meth := k3m2) (c := k3c2) (by decide +kernel) rfl rfl rfl (by decide +kernel)
set_option maxRecDepth 65536 in
theorem w_c9 : (Jvm.Cond.code ({ cls := "java/lang/Math", name := "min", desc := "(II)I" } : Jvm.MethodName) jdk_29_method_69_code (2 : Nat) (Option.some Jvm.ClassFile.FieldType.int)).before args0 about1 = true := code_word (m := ⟨4, 1⟩) (meth := k4m1) (c := k4c1) (by decide +kernel) rfl rfl rfl (by decide +kernel)
set_option maxRecDepth 65536 in
theorem w_c10 : (Jvm.Cond.code ({ cls := "java/util/Arrays", name := "copyOf", desc := "([JI)[J" } : Jvm.MethodName) jdk_65_method_124_code (3 : Nat) (Option.some (Jvm.ClassFile.FieldType.array Jvm.ClassFile.FieldType.long))).before args0 about1 = true := code_word (m := ⟨3, 3⟩) (meth := k3m3) (c := k3c3) (by decide +kernel) rfl rfl rfl (by decide +kernel)
set_option maxRecDepth 65536 in
theorem w_c11 : (Jvm.Cond.code ({ cls := "com/example/ichnos/ichnos/planning/ils/MinCut", name := "sourceSide", desc := "(II)[Z" } : Jvm.MethodName) prog_66_method_4_code (11 : Nat) (Option.some (Jvm.ClassFile.FieldType.array Jvm.ClassFile.FieldType.boolean))).before args0 about1 = true := code_word (m := ⟨2, 3⟩) (meth := k2m3) (c := k2c3) (by decide +kernel) rfl rfl rfl (by decide +kernel)
set_option maxRecDepth 65536 in
theorem w_c12 : (Jvm.Cond.code ({ cls := "com/example/ichnos/ichnos/planning/ils/MinCut", name := "level", desc := "(II[I[I)Z" } : Jvm.MethodName) prog_66_method_5_code (9 : Nat) (Option.some Jvm.ClassFile.FieldType.boolean)).before args0 about1 = true := code_word (m := ⟨2, 4⟩) (meth := k2m4) (c := k2c4) (by decide +kernel) rfl rfl rfl (by decide +kernel)
set_option maxRecDepth 65536 in
theorem w_c13 : (Jvm.Cond.code ({ cls := "com/example/ichnos/ichnos/planning/ils/MinCut", name := "push", desc := "(II[I[I[I)J" } : Jvm.MethodName) prog_66_method_6_code (13 : Nat) (Option.some Jvm.ClassFile.FieldType.long)).before args0 about1 = true := code_word (m := ⟨2, 5⟩) (meth := k2m5) (c := k2c5) (by decide +kernel) rfl rfl rfl (by decide +kernel)
set_option maxRecDepth 65536 in
theorem w_c14 : (Jvm.Cond.code ({ cls := "com/example/ichnos/ichnos/planning/ils/MinCut", name := "admissible", desc := "(III[I)Z" } : Jvm.MethodName) prog_66_method_7_code (6 : Nat) (Option.some Jvm.ClassFile.FieldType.boolean)).before args0 about1 = true := code_word (m := ⟨2, 6⟩) (meth := k2m6) (c := k2c6) (by decide +kernel) rfl rfl rfl (by decide +kernel)
def codes1 : List Jvm.Cond := [Jvm.Cond.code x code maxLocals ret, Jvm.Cond.code ({ cls := "com/example/ichnos/ichnos/planning/ils/MinCut", name := "<init>", desc := "(I)V" } : Jvm.MethodName) prog_66_method_1_code (2 : Nat) (Option.none : Option Jvm.ClassFile.FieldType), Jvm.Cond.code ({ cls := "java/lang/Object", name := "<init>", desc := "()V" } : Jvm.MethodName) object_method_1_code (1 : Nat) (Option.none : Option Jvm.ClassFile.FieldType), Jvm.Cond.code ({ cls := "java/util/Arrays", name := "fill", desc := "([II)V" } : Jvm.MethodName) jdk_65_method_103_code (4 : Nat) (Option.none : Option Jvm.ClassFile.FieldType), Jvm.Cond.code ({ cls := "com/example/ichnos/ichnos/planning/ils/MinCutAddPinLaw", name := "put", desc := "(Lcom/example/ichnos/ichnos/planning/ils/MinCut;[JJIJ)V" } : Jvm.MethodName) method_2_code (17 : Nat) (Option.none : Option Jvm.ClassFile.FieldType), Jvm.Cond.code ({ cls := "com/example/ichnos/ichnos/planning/ils/MinCut", name := "add", desc := "(IIJ)V" } : Jvm.MethodName) prog_66_method_2_code (5 : Nat) (Option.none : Option Jvm.ClassFile.FieldType), Jvm.Cond.code ({ cls := "java/lang/Math", name := "min", desc := "(JJ)J" } : Jvm.MethodName) jdk_29_method_70_code (4 : Nat) (Option.some Jvm.ClassFile.FieldType.long), Jvm.Cond.code ({ cls := "com/example/ichnos/ichnos/planning/ils/MinCut", name := "link", desc := "(IIJ)V" } : Jvm.MethodName) prog_66_method_3_code (5 : Nat) (Option.none : Option Jvm.ClassFile.FieldType), Jvm.Cond.code ({ cls := "java/util/Arrays", name := "copyOf", desc := "([II)[I" } : Jvm.MethodName) jdk_65_method_123_code (3 : Nat) (Option.some (Jvm.ClassFile.FieldType.array Jvm.ClassFile.FieldType.int)), Jvm.Cond.code ({ cls := "java/lang/Math", name := "min", desc := "(II)I" } : Jvm.MethodName) jdk_29_method_69_code (2 : Nat) (Option.some Jvm.ClassFile.FieldType.int), Jvm.Cond.code ({ cls := "java/util/Arrays", name := "copyOf", desc := "([JI)[J" } : Jvm.MethodName) jdk_65_method_124_code (3 : Nat) (Option.some (Jvm.ClassFile.FieldType.array Jvm.ClassFile.FieldType.long)), Jvm.Cond.code ({ cls := "com/example/ichnos/ichnos/planning/ils/MinCut", name := "sourceSide", desc := "(II)[Z" } : Jvm.MethodName) prog_66_method_4_code (11 : Nat) (Option.some (Jvm.ClassFile.FieldType.array Jvm.ClassFile.FieldType.boolean)), Jvm.Cond.code ({ cls := "com/example/ichnos/ichnos/planning/ils/MinCut", name := "level", desc := "(II[I[I)Z" } : Jvm.MethodName) prog_66_method_5_code (9 : Nat) (Option.some Jvm.ClassFile.FieldType.boolean), Jvm.Cond.code ({ cls := "com/example/ichnos/ichnos/planning/ils/MinCut", name := "push", desc := "(II[I[I[I)J" } : Jvm.MethodName) prog_66_method_6_code (13 : Nat) (Option.some Jvm.ClassFile.FieldType.long), Jvm.Cond.code ({ cls := "com/example/ichnos/ichnos/planning/ils/MinCut", name := "admissible", desc := "(III[I)Z" } : Jvm.MethodName) prog_66_method_7_code (6 : Nat) (Option.some Jvm.ClassFile.FieldType.boolean)]
set_option maxRecDepth 65536 in
theorem codes_eq : words1.filter isCode = codes1 := rfl
theorem w_codes : ∀ c ∈ words1.filter isCode, c.before args0 about1 = true := by
  rw [codes_eq]
  intro c hc
  simp only [codes1, List.mem_cons, List.not_mem_nil, or_false] at hc
  rcases hc with rfl | rfl | rfl | rfl | rfl | rfl | rfl | rfl | rfl | rfl | rfl | rfl | rfl | rfl | rfl
  · exact w_c0
  · exact w_c1
  · exact w_c2
  · exact w_c3
  · exact w_c4
  · exact w_c5
  · exact w_c6
  · exact w_c7
  · exact w_c8
  · exact w_c9
  · exact w_c10
  · exact w_c11
  · exact w_c12
  · exact w_c13
  · exact w_c14
set_option maxRecDepth 65536 in
theorem w_t1 : (words1.take 24).all (fun c => isCode c || c.before args0 about1) = true := by decide +kernel
set_option maxRecDepth 65536 in
theorem w_t2 : ((words1.drop 24).take 24).all (fun c => isCode c || c.before args0 about1) = true := by decide +kernel
set_option maxRecDepth 65536 in
theorem w_t3 : (((words1.drop 24).drop 24).take 24).all (fun c => isCode c || c.before args0 about1) = true := by decide +kernel
set_option maxRecDepth 65536 in
theorem w_t4 : (((words1.drop 24).drop 24).drop 24).all (fun c => isCode c || c.before args0 about1) = true := by decide +kernel
theorem w_tables : (allAtoms (Jvm.Cond.code x code maxLocals ret :: tables_1)).before args0 about1 = true := by
  rw [allAtoms_all]
  show words1.all (fun c => c.before args0 about1) = true
  refine all_split ?_ w_codes
  rw [← List.take_append_drop 24 words1, List.all_append, w_t1, ← List.take_append_drop 24 (words1.drop 24), List.all_append, w_t2, ← List.take_append_drop 24 ((words1.drop 24).drop 24), List.all_append, w_t3, w_t4]
  rfl
set_option maxRecDepth 65536 in
theorem w_case : (Jvm.Cond.and given_1 narrow_1).before args0 about1 = true := by decide +kernel
theorem w_applies : (headSpec (Jvm.Cond.code x code maxLocals ret :: tables_1) room_1).applies x e0.platform about1 = true :=
  (Spec.applies_iff w_frames).mpr ⟨w_running, w_runnable, w_alone, w_named, w_hears, w_ripe, w_room, w_tables⟩
theorem atStart : AtStart classFile x code maxLocals ret World_1 tables_1 room_1 Calls_1 rest_1 Pre_1 launch0 p0 e0 about1 theMethod args0 below0 :=
  ⟨lists_1, trivial, launch0.admits_env _ _ _, launch0.least_env, fairChoices_fair.cas, fairChoices_fair.clock, w_frames, w_args, w_heap, w_applies, trivial, trivial, w_case⟩
end start1
theorem witness_1 : WitnessClaimed_1 := ⟨start1.p0, start1.e0, start1.about1, start1.theMethod, start1.args0, start1.below0, start1.atStart⟩
end Jvm.Pilot.@@N@@
