import JvmDerived
import JvmDerived.Pilot.@@N@@Statement
import JvmDerived.Pilot.@@N@@Code
set_option linter.unusedVariables false
set_option linter.unusedSimpArgs false
set_option maxRecDepth 65536
namespace Jvm.Pilot.@@N@@
open Jvm Jvm.ClassFile Sem Op Lib Jvm.Free Jvm.Stand Jvm.LawKit Jvm.RoadKit Bundle Jvm.Pilot.@@N@@.Jvm.D
section OwnBase
/-- where a walk stands: the Stand, that nothing old was written, the heap -/
def Wd (p : Program) (l : Launch) (e : Env) (R : Room) (s : State) (m : MethodId) (args : Array Value) (below : List Frame) (meth : Method) (c : Code) (n0 : Nat) (T : State) (h : Heap) (cs ss : Nat) : Prop :=
  ∃ locs, Stand p l e R s m args below meth c T locs cs ss ∧ Fr n0 locs ∧ T.heap = h ∧ n0 ≤ s.heap.size
/-- from the frame g on the body comes to its end, and Q holds of what it returns and of the heap -/
def Go (p : Program) (e : Env) (below : List Frame) (s : State) (n0 : Nat) (Q : Option Value → Heap → Prop) (rc rs : Nat) (T : State) (g : JFrame) : Prop :=
  ∃ s₂ o, Steps p.tables e below (T.setTop g) s₂ ∧ s₂.status = .running ∧ Ended s₂ below o ∧ ∃ v L, o = .returned v ∧ (Q v s₂.heap ∧ Fr n0 L) ∧ FrameEnd s o s₂ L rc rs
/-- what a walk knows of the body that it walks -/
def Cx (p : Program) (s : State) (m : MethodId) (meth : Method) (c : Code) (Z : State) (own nm : String) (bytes : ByteArray) (maxL : Nat) (ret : Option FieldType) : Prop :=
  p.tables.exec = Jvm.exec ∧ Z.Warmed39 s.vm ∧ c.code = bytes ∧ c.maxLocals = maxL ∧ s.vm.findClass own = some m.cls ∧ meth.sig.returnType = ret ∧ meth.locks = false ∧ meth.name = nm
/-- a body's contract -/
def Mt (l : Launch) (Z : State) (y : MethodName) (bytes : ByteArray) (maxL : Nat) (ret : Option FieldType) (rm : Room) (n0 : Nat) (as' : Array Value) (h0 : Heap) (Q : Option Value → Heap → Prop) : Prop :=
  ∀ ws : List Jvm.Cond, MetFree l y (head1 (Jvm.Cond.code y bytes maxL ret :: ws) rm) (fun a U => a = as' ∧ Z.Warmed39 U.vm ∧ U.heap = h0) (fun _ _ _ _ _ => True) (fun _ U o U' => ∃ v L, o = .returned v ∧ (Q v U'.heap ∧ Fr n0 L) ∧ FrameEnd U o U' L rm.cells rm.slots)
variable {p : Program} {l : Launch} {e : Env} {R : Room} {s : State} {m : MethodId} {args : Array Value} {below : List Frame} {meth : Method} {c : Code} {Z : State} {own nm : String} {bytes : ByteArray} {maxL : Nat} {ret : Option FieldType} {T : State} {h : Heap} {cs ss n0 : Nat} {Q : Option Value → Heap → Prop} {rc rs : Nat} {pc pc' pf pt : Nat} {Ls Ls' : Array Slot} {st rest : List Value} {a0 : Array Value}
theorem Go.stp {T' : State} {g g' : JFrame} (q : ∀ target, Steps p.tables e below (T'.setTop g') target → Steps p.tables e below (T.setTop g) target) (G : Go p e below s n0 Q rc rs T' g') : Go p e below s n0 Q rc rs T g := by
  obtain ⟨s₂, o, h1, r⟩ := G
  exact ⟨s₂, o, q _ h1, r⟩
theorem Wd.mono {cs' ss' : Nat} (W : Wd p l e R s m args below meth c n0 T h cs ss) (h1 : cs ≤ cs') (h2 : ss ≤ ss') : Wd p l e R s m args below meth c n0 T h cs' ss' := by
  obtain ⟨locs, X, r⟩ := W
  exact ⟨locs, ⟨X.admits, X.cas, X.clock, X.frames, X.room, X.hears, X.method, X.code, X.here, X.tail, X.warmed, X.limits, X.bytes, X.same.mono h1 h2⟩, r⟩
theorem met_of {y : MethodName} {rm : Room} {as' : Array Value} {h0 : Heap} (hpl : plainFor y = true) (hent : ∀ m, entryFrame m as' maxL = mkF m 0 Ls []) (hn : n0 ≤ h0.size)
    (H : ∀ p e s m below meth c T, Cx p s m meth c Z y.cls y.name bytes maxL ret → Wd p l e rm s m as' below meth c n0 T h0 0 0 → Go p e below s n0 Q rm.cells rm.slots T (mkF m 0 Ls [])) :
    Mt l Z y bytes maxL ret rm n0 as' h0 Q := by
  intro ws
  refine MetFree.of_bodySF hpl hisR ?_
  intro p e s m args below meth c s₁ Bd hml0 hP hK
  obtain ⟨rfl, hZ, hh⟩ := hP
  have X0 := Stand.of_body Bd
  have e0 : s₁.heap = h0 := by rw [← hh, Bd.state]; rfl
  have G := H p e s m below meth c s₁ ⟨Bd.exec, hZ, Bd.bytes, hml0, findClass_of_methodNamed Bd.named, Bd.returns, Bd.notSynchronized, (name_of_methodNamed Bd.named Bd.method).1⟩ ⟨[], X0, Fr.nil n0, e0, by rw [hh]; exact hn⟩
  obtain ⟨s₂, o, h1, h2, h3, v, L, h4, h5, h6⟩ := G
  exact ⟨s₂, o, castTop (hent m) h1, h2, h3, v, L, h4, h5, h6⟩
/-! the single steps -/
theorem g_iload (K : Cx p s m meth c Z own nm bytes maxL ret) (W : Wd p l e R s m args below meth c n0 T h cs ss) {k : Nat} {v : Int32} (hd : decode bytes pc = .ok (.iload k, 2)) (hl : Ls[k]? = some (.val (.int v))) (hp : pc + 2 = pc') (G : Go p e below s n0 Q rc rs T (mkF m pc' Ls (.int v :: st))) : Go p e below s n0 Q rc rs T (mkF m pc Ls st) := by
  obtain ⟨_, X, -⟩ := W; subst hp
  exact Go.stp (g' := mkF m (pc + 2) Ls (.int v :: st)) (fun _ hr => XS.iload X.here K.1 rfl (hb K.2.2.1 hd) hl hr) G
theorem g_iloadN (K : Cx p s m meth c Z own nm bytes maxL ret) (W : Wd p l e R s m args below meth c n0 T h cs ss) {k : Fin 4} {v : Int32} (hd : decode bytes pc = .ok (.iload_n k, 1)) (hl : Ls[k.val]? = some (.val (.int v))) (hp : pc + 1 = pc') (G : Go p e below s n0 Q rc rs T (mkF m pc' Ls (.int v :: st))) : Go p e below s n0 Q rc rs T (mkF m pc Ls st) := by
  obtain ⟨_, X, -⟩ := W; subst hp
  exact Go.stp (g' := mkF m (pc + 1) Ls (.int v :: st)) (fun _ hr => XS.iloadN X.here K.1 rfl (hb K.2.2.1 hd) hl hr) G
theorem g_lload (K : Cx p s m meth c Z own nm bytes maxL ret) (W : Wd p l e R s m args below meth c n0 T h cs ss) {k : Nat} {v : Int64} (hd : decode bytes pc = .ok (.lload k, 2)) (hl : Ls[k]? = some (.val (.long v))) (hp : pc + 2 = pc') (G : Go p e below s n0 Q rc rs T (mkF m pc' Ls (.long v :: st))) : Go p e below s n0 Q rc rs T (mkF m pc Ls st) := by
  obtain ⟨_, X, -⟩ := W; subst hp
  exact Go.stp (g' := mkF m (pc + 2) Ls (.long v :: st)) (fun _ hr => XS.lload X.here K.1 rfl (hb K.2.2.1 hd) hl hr) G
theorem g_lloadN (K : Cx p s m meth c Z own nm bytes maxL ret) (W : Wd p l e R s m args below meth c n0 T h cs ss) {k : Fin 4} {v : Int64} (hd : decode bytes pc = .ok (.lload_n k, 1)) (hl : Ls[k.val]? = some (.val (.long v))) (hp : pc + 1 = pc') (G : Go p e below s n0 Q rc rs T (mkF m pc' Ls (.long v :: st))) : Go p e below s n0 Q rc rs T (mkF m pc Ls st) := by
  obtain ⟨_, X, -⟩ := W; subst hp
  exact Go.stp (g' := mkF m (pc + 1) Ls (.long v :: st)) (fun _ hr => XS.lloadN X.here K.1 rfl (hb K.2.2.1 hd) hl hr) G
theorem g_aload (K : Cx p s m meth c Z own nm bytes maxL ret) (W : Wd p l e R s m args below meth c n0 T h cs ss) {k : Nat} {v : Value} (hd : decode bytes pc = .ok (.aload k, 2)) (hl : Ls[k]? = some (.val v)) (hv : v.isRef = true) (hp : pc + 2 = pc') (G : Go p e below s n0 Q rc rs T (mkF m pc' Ls (v :: st))) : Go p e below s n0 Q rc rs T (mkF m pc Ls st) := by
  obtain ⟨_, X, -⟩ := W; subst hp
  exact Go.stp (g' := mkF m (pc + 2) Ls (v :: st)) (fun _ hr => XS.aload X.here K.1 rfl (hb K.2.2.1 hd) hl hv hr) G
theorem g_aloadN (K : Cx p s m meth c Z own nm bytes maxL ret) (W : Wd p l e R s m args below meth c n0 T h cs ss) {k : Fin 4} {v : Value} (hd : decode bytes pc = .ok (.aload_n k, 1)) (hl : Ls[k.val]? = some (.val v)) (hv : v.isRef = true) (hp : pc + 1 = pc') (G : Go p e below s n0 Q rc rs T (mkF m pc' Ls (v :: st))) : Go p e below s n0 Q rc rs T (mkF m pc Ls st) := by
  obtain ⟨_, X, -⟩ := W; subst hp
  exact Go.stp (g' := mkF m (pc + 1) Ls (v :: st)) (fun _ hr => XS.aloadN X.here K.1 rfl (hb K.2.2.1 hd) hl hv hr) G
theorem g_istore (K : Cx p s m meth c Z own nm bytes maxL ret) (W : Wd p l e R s m args below meth c n0 T h cs ss) {k : Nat} {x : Int32} (hd : decode bytes pc = .ok (.istore k, 2)) (hl : storeLocals Ls k (.int x) = some Ls') (hp : pc + 2 = pc') (G : Go p e below s n0 Q rc rs T (mkF m pc' Ls' st)) : Go p e below s n0 Q rc rs T (mkF m pc Ls (.int x :: st)) := by
  obtain ⟨_, X, -⟩ := W; subst hp
  exact Go.stp (g' := mkF m (pc + 2) Ls' st) (fun _ hr => XS.istore X.here K.1 rfl (hb K.2.2.1 hd) rfl hl hr) G
theorem g_istoreN (K : Cx p s m meth c Z own nm bytes maxL ret) (W : Wd p l e R s m args below meth c n0 T h cs ss) {k : Fin 4} {x : Int32} (hd : decode bytes pc = .ok (.istore_n k, 1)) (hl : storeLocals Ls k.val (.int x) = some Ls') (hp : pc + 1 = pc') (G : Go p e below s n0 Q rc rs T (mkF m pc' Ls' st)) : Go p e below s n0 Q rc rs T (mkF m pc Ls (.int x :: st)) := by
  obtain ⟨_, X, -⟩ := W; subst hp
  exact Go.stp (g' := mkF m (pc + 1) Ls' st) (fun _ hr => XS.istoreN X.here K.1 rfl (hb K.2.2.1 hd) rfl hl hr) G
theorem g_lstore (K : Cx p s m meth c Z own nm bytes maxL ret) (W : Wd p l e R s m args below meth c n0 T h cs ss) {k : Nat} {x : Int64} (hd : decode bytes pc = .ok (.lstore k, 2)) (hl : storeLocals Ls k (.long x) = some Ls') (hp : pc + 2 = pc') (G : Go p e below s n0 Q rc rs T (mkF m pc' Ls' st)) : Go p e below s n0 Q rc rs T (mkF m pc Ls (.long x :: st)) := by
  obtain ⟨_, X, -⟩ := W; subst hp
  exact Go.stp (g' := mkF m (pc + 2) Ls' st) (fun _ hr => XS.lstore X.here K.1 rfl (hb K.2.2.1 hd) rfl hl hr) G
theorem g_lstoreN (K : Cx p s m meth c Z own nm bytes maxL ret) (W : Wd p l e R s m args below meth c n0 T h cs ss) {k : Fin 4} {x : Int64} (hd : decode bytes pc = .ok (.lstore_n k, 1)) (hl : storeLocals Ls k.val (.long x) = some Ls') (hp : pc + 1 = pc') (G : Go p e below s n0 Q rc rs T (mkF m pc' Ls' st)) : Go p e below s n0 Q rc rs T (mkF m pc Ls (.long x :: st)) := by
  obtain ⟨_, X, -⟩ := W; subst hp
  exact Go.stp (g' := mkF m (pc + 1) Ls' st) (fun _ hr => XS.lstoreN X.here K.1 rfl (hb K.2.2.1 hd) rfl hl hr) G
theorem g_astore (K : Cx p s m meth c Z own nm bytes maxL ret) (W : Wd p l e R s m args below meth c n0 T h cs ss) {k : Nat} {x : Value} (hd : decode bytes pc = .ok (.astore k, 2)) (hv : x.isRef = true) (hl : storeLocals Ls k x = some Ls') (hp : pc + 2 = pc') (G : Go p e below s n0 Q rc rs T (mkF m pc' Ls' st)) : Go p e below s n0 Q rc rs T (mkF m pc Ls (x :: st)) := by
  obtain ⟨_, X, -⟩ := W; subst hp
  exact Go.stp (g' := mkF m (pc + 2) Ls' st) (fun _ hr => XS.astore X.here K.1 rfl (hb K.2.2.1 hd) rfl hv hl hr) G
theorem g_astoreN (K : Cx p s m meth c Z own nm bytes maxL ret) (W : Wd p l e R s m args below meth c n0 T h cs ss) {k : Fin 4} {x : Value} (hd : decode bytes pc = .ok (.astore_n k, 1)) (hv : x.isRef = true) (hl : storeLocals Ls k.val x = some Ls') (hp : pc + 1 = pc') (G : Go p e below s n0 Q rc rs T (mkF m pc' Ls' st)) : Go p e below s n0 Q rc rs T (mkF m pc Ls (x :: st)) := by
  obtain ⟨_, X, -⟩ := W; subst hp
  exact Go.stp (g' := mkF m (pc + 1) Ls' st) (fun _ hr => XS.astoreN X.here K.1 rfl (hb K.2.2.1 hd) rfl hv hl hr) G
theorem g_iconst (K : Cx p s m meth c Z own nm bytes maxL ret) (W : Wd p l e R s m args below meth c n0 T h cs ss) {i : Int} {v : Int32} (hd : decode bytes pc = .ok (.iconst i, 1)) (hv : Int32.ofInt i = v) (hp : pc + 1 = pc') (G : Go p e below s n0 Q rc rs T (mkF m pc' Ls (.int v :: st))) : Go p e below s n0 Q rc rs T (mkF m pc Ls st) := by
  obtain ⟨_, X, -⟩ := W; subst hp hv
  exact Go.stp (g' := mkF m (pc + 1) Ls (.int (Int32.ofInt i) :: st)) (fun _ hr => XS.iconst X.here K.1 rfl (hb K.2.2.1 hd) hr) G
theorem g_bipush (K : Cx p s m meth c Z own nm bytes maxL ret) (W : Wd p l e R s m args below meth c n0 T h cs ss) {i : Int} {v : Int32} (hd : decode bytes pc = .ok (.bipush i, 2)) (hv : (Int8.ofInt i).toInt32 = v) (hp : pc + 2 = pc') (G : Go p e below s n0 Q rc rs T (mkF m pc' Ls (.int v :: st))) : Go p e below s n0 Q rc rs T (mkF m pc Ls st) := by
  obtain ⟨_, X, -⟩ := W; subst hp hv
  exact Go.stp (g' := mkF m (pc + 2) Ls (.int ((Int8.ofInt i).toInt32) :: st)) (fun _ hr => XS.bipush X.here K.1 rfl (hb K.2.2.1 hd) hr) G
theorem g_sipush (K : Cx p s m meth c Z own nm bytes maxL ret) (W : Wd p l e R s m args below meth c n0 T h cs ss) {i : Int} {v : Int32} (hd : decode bytes pc = .ok (.sipush i, 3)) (hv : (Int16.ofInt i).toInt32 = v) (hp : pc + 3 = pc') (G : Go p e below s n0 Q rc rs T (mkF m pc' Ls (.int v :: st))) : Go p e below s n0 Q rc rs T (mkF m pc Ls st) := by
  obtain ⟨_, X, -⟩ := W; subst hp hv
  exact Go.stp (g' := mkF m (pc + 3) Ls (.int ((Int16.ofInt i).toInt32) :: st)) (fun _ hr => XS.sipush X.here K.1 rfl (hb K.2.2.1 hd) hr) G
theorem g_lconst (K : Cx p s m meth c Z own nm bytes maxL ret) (W : Wd p l e R s m args below meth c n0 T h cs ss) {k : Fin 2} {v : Int64} (hd : decode bytes pc = .ok (.lconst k, 1)) (hv : Int64.ofNat k = v) (hp : pc + 1 = pc') (G : Go p e below s n0 Q rc rs T (mkF m pc' Ls (.long v :: st))) : Go p e below s n0 Q rc rs T (mkF m pc Ls st) := by
  obtain ⟨_, X, -⟩ := W; subst hp hv
  exact Go.stp (g' := mkF m (pc + 1) Ls (.long (Int64.ofNat k) :: st)) (fun _ hr => XS.lconst X.here K.1 rfl (hb K.2.2.1 hd) hr) G
theorem g_null (K : Cx p s m meth c Z own nm bytes maxL ret) (W : Wd p l e R s m args below meth c n0 T h cs ss) (hd : decode bytes pc = .ok (.aconst_null, 1)) (hp : pc + 1 = pc') (G : Go p e below s n0 Q rc rs T (mkF m pc' Ls (.null :: st))) : Go p e below s n0 Q rc rs T (mkF m pc Ls st) := by
  obtain ⟨_, X, -⟩ := W; subst hp
  exact Go.stp (g' := mkF m (pc + 1) Ls (.null :: st)) (fun _ hr => XS.aconstNull X.here K.1 rfl (hb K.2.2.1 hd) hr) G
theorem g_ldc (K : Cx p s m meth c Z own nm bytes maxL ret) (W : Wd p l e R s m args below meth c n0 T h cs ss) {index : Nat} {v : Int32} (w : (Jvm.Cond.constant own index v).before a0 Z = true) (hd : decode bytes pc = .ok (.ldc index, 2)) (hp : pc + 2 = pc') (G : Go p e below s n0 Q rc rs T (mkF m pc' Ls (.int v :: st))) : Go p e below s n0 Q rc rs T (mkF m pc Ls st) := by
  obtain ⟨_, X, -⟩ := W; subst hp
  exact Go.stp (g' := mkF m (pc + 2) Ls (.int v :: st)) (X.ldcInt K.1 K.2.2.2.2.1 (mvT K.2.1 w) (g := mkF m pc Ls st) rfl (hb K.2.2.1 hd)) G
theorem g_ldc2 (K : Cx p s m meth c Z own nm bytes maxL ret) (W : Wd p l e R s m args below meth c n0 T h cs ss) {index : Nat} {v : Int64} (w : (Jvm.Cond.constantLong own index v).before a0 Z = true) (hd : decode bytes pc = .ok (.ldc2_w index, 3)) (hp : pc + 3 = pc') (G : Go p e below s n0 Q rc rs T (mkF m pc' Ls (.long v :: st))) : Go p e below s n0 Q rc rs T (mkF m pc Ls st) := by
  obtain ⟨_, X, -⟩ := W; subst hp
  exact Go.stp (g' := mkF m (pc + 3) Ls (.long v :: st)) (X.ldc2Long K.1 K.2.2.2.2.1 (mvT K.2.1 w) (g := mkF m pc Ls st) rfl (hb K.2.2.1 hd)) G
theorem g_iadd (K : Cx p s m meth c Z own nm bytes maxL ret) (W : Wd p l e R s m args below meth c n0 T h cs ss) {x y : Int32} (hd : decode bytes pc = .ok (.iadd, 1)) (hp : pc + 1 = pc') (G : Go p e below s n0 Q rc rs T (mkF m pc' Ls (.int (x + y) :: st))) : Go p e below s n0 Q rc rs T (mkF m pc Ls (.int y :: .int x :: st)) := by
  obtain ⟨_, X, -⟩ := W; subst hp
  exact Go.stp (g' := mkF m (pc + 1) Ls (.int (x + y) :: st)) (fun _ hr => XS.iadd X.here K.1 rfl (hb K.2.2.1 hd) rfl hr) G
theorem g_isub (K : Cx p s m meth c Z own nm bytes maxL ret) (W : Wd p l e R s m args below meth c n0 T h cs ss) {x y : Int32} (hd : decode bytes pc = .ok (.isub, 1)) (hp : pc + 1 = pc') (G : Go p e below s n0 Q rc rs T (mkF m pc' Ls (.int (x - y) :: st))) : Go p e below s n0 Q rc rs T (mkF m pc Ls (.int y :: .int x :: st)) := by
  obtain ⟨_, X, -⟩ := W; subst hp
  exact Go.stp (g' := mkF m (pc + 1) Ls (.int (x - y) :: st)) (fun _ hr => XS.isub X.here K.1 rfl (hb K.2.2.1 hd) rfl hr) G
theorem g_imul (K : Cx p s m meth c Z own nm bytes maxL ret) (W : Wd p l e R s m args below meth c n0 T h cs ss) {x y : Int32} (hd : decode bytes pc = .ok (.imul, 1)) (hp : pc + 1 = pc') (G : Go p e below s n0 Q rc rs T (mkF m pc' Ls (.int (x * y) :: st))) : Go p e below s n0 Q rc rs T (mkF m pc Ls (.int y :: .int x :: st)) := by
  obtain ⟨_, X, -⟩ := W; subst hp
  exact Go.stp (g' := mkF m (pc + 1) Ls (.int (x * y) :: st)) (fun _ hr => XS.imul X.here K.1 rfl (hb K.2.2.1 hd) rfl hr) G
theorem g_iand (K : Cx p s m meth c Z own nm bytes maxL ret) (W : Wd p l e R s m args below meth c n0 T h cs ss) {x y : Int32} (hd : decode bytes pc = .ok (.iand, 1)) (hp : pc + 1 = pc') (G : Go p e below s n0 Q rc rs T (mkF m pc' Ls (.int (x &&& y) :: st))) : Go p e below s n0 Q rc rs T (mkF m pc Ls (.int y :: .int x :: st)) := by
  obtain ⟨_, X, -⟩ := W; subst hp
  exact Go.stp (g' := mkF m (pc + 1) Ls (.int (x &&& y) :: st)) (fun _ hr => XS.iand X.here K.1 rfl (hb K.2.2.1 hd) rfl hr) G
theorem g_ior (K : Cx p s m meth c Z own nm bytes maxL ret) (W : Wd p l e R s m args below meth c n0 T h cs ss) {x y : Int32} (hd : decode bytes pc = .ok (.ior, 1)) (hp : pc + 1 = pc') (G : Go p e below s n0 Q rc rs T (mkF m pc' Ls (.int (x ||| y) :: st))) : Go p e below s n0 Q rc rs T (mkF m pc Ls (.int y :: .int x :: st)) := by
  obtain ⟨_, X, -⟩ := W; subst hp
  exact Go.stp (g' := mkF m (pc + 1) Ls (.int (x ||| y) :: st)) (fun _ hr => XS.ior X.here K.1 rfl (hb K.2.2.1 hd) rfl hr) G
theorem g_ixor (K : Cx p s m meth c Z own nm bytes maxL ret) (W : Wd p l e R s m args below meth c n0 T h cs ss) {x y : Int32} (hd : decode bytes pc = .ok (.ixor, 1)) (hp : pc + 1 = pc') (G : Go p e below s n0 Q rc rs T (mkF m pc' Ls (.int (x ^^^ y) :: st))) : Go p e below s n0 Q rc rs T (mkF m pc Ls (.int y :: .int x :: st)) := by
  obtain ⟨_, X, -⟩ := W; subst hp
  exact Go.stp (g' := mkF m (pc + 1) Ls (.int (x ^^^ y) :: st)) (fun _ hr => XS.ixor X.here K.1 rfl (hb K.2.2.1 hd) rfl hr) G
theorem g_ishl (K : Cx p s m meth c Z own nm bytes maxL ret) (W : Wd p l e R s m args below meth c n0 T h cs ss) {x y : Int32} (hd : decode bytes pc = .ok (.ishl, 1)) (hp : pc + 1 = pc') (G : Go p e below s n0 Q rc rs T (mkF m pc' Ls (.int (x <<< (y &&& 31)) :: st))) : Go p e below s n0 Q rc rs T (mkF m pc Ls (.int y :: .int x :: st)) := by
  obtain ⟨_, X, -⟩ := W; subst hp
  exact Go.stp (g' := mkF m (pc + 1) Ls (.int (x <<< (y &&& 31)) :: st)) (fun _ hr => XS.ishl X.here K.1 rfl (hb K.2.2.1 hd) rfl hr) G
theorem g_ishr (K : Cx p s m meth c Z own nm bytes maxL ret) (W : Wd p l e R s m args below meth c n0 T h cs ss) {x y : Int32} (hd : decode bytes pc = .ok (.ishr, 1)) (hp : pc + 1 = pc') (G : Go p e below s n0 Q rc rs T (mkF m pc' Ls (.int (x >>> (y &&& 31)) :: st))) : Go p e below s n0 Q rc rs T (mkF m pc Ls (.int y :: .int x :: st)) := by
  obtain ⟨_, X, -⟩ := W; subst hp
  exact Go.stp (g' := mkF m (pc + 1) Ls (.int (x >>> (y &&& 31)) :: st)) (fun _ hr => XS.ishr X.here K.1 rfl (hb K.2.2.1 hd) rfl hr) G
theorem g_iushr (K : Cx p s m meth c Z own nm bytes maxL ret) (W : Wd p l e R s m args below meth c n0 T h cs ss) {x y : Int32} (hd : decode bytes pc = .ok (.iushr, 1)) (hp : pc + 1 = pc') (G : Go p e below s n0 Q rc rs T (mkF m pc' Ls (.int ((x.toUInt32 >>> (y &&& 31).toUInt32).toInt32) :: st))) : Go p e below s n0 Q rc rs T (mkF m pc Ls (.int y :: .int x :: st)) := by
  obtain ⟨_, X, -⟩ := W; subst hp
  exact Go.stp (g' := mkF m (pc + 1) Ls (.int ((x.toUInt32 >>> (y &&& 31).toUInt32).toInt32) :: st)) (fun _ hr => XS.iushr X.here K.1 rfl (hb K.2.2.1 hd) rfl hr) G
theorem g_idiv (K : Cx p s m meth c Z own nm bytes maxL ret) (W : Wd p l e R s m args below meth c n0 T h cs ss) {x y : Int32} (hy : y ≠ 0) (hd : decode bytes pc = .ok (.idiv, 1)) (hp : pc + 1 = pc') (G : Go p e below s n0 Q rc rs T (mkF m pc' Ls (.int (x / y) :: st))) : Go p e below s n0 Q rc rs T (mkF m pc Ls (.int y :: .int x :: st)) := by
  obtain ⟨_, X, -⟩ := W; subst hp
  exact Go.stp (g' := mkF m (pc + 1) Ls (.int (x / y) :: st)) (fun _ hr => XS.idiv X.here K.1 rfl (hb K.2.2.1 hd) rfl hy hr) G
theorem g_irem (K : Cx p s m meth c Z own nm bytes maxL ret) (W : Wd p l e R s m args below meth c n0 T h cs ss) {x y : Int32} (hy : y ≠ 0) (hd : decode bytes pc = .ok (.irem, 1)) (hp : pc + 1 = pc') (G : Go p e below s n0 Q rc rs T (mkF m pc' Ls (.int (x % y) :: st))) : Go p e below s n0 Q rc rs T (mkF m pc Ls (.int y :: .int x :: st)) := by
  obtain ⟨_, X, -⟩ := W; subst hp
  exact Go.stp (g' := mkF m (pc + 1) Ls (.int (x % y) :: st)) (fun _ hr => iremM X K.1 rfl (hb K.2.2.1 hd) rfl hy hr) G
theorem g_ladd (K : Cx p s m meth c Z own nm bytes maxL ret) (W : Wd p l e R s m args below meth c n0 T h cs ss) {x y : Int64} (hd : decode bytes pc = .ok (.ladd, 1)) (hp : pc + 1 = pc') (G : Go p e below s n0 Q rc rs T (mkF m pc' Ls (.long (x + y) :: st))) : Go p e below s n0 Q rc rs T (mkF m pc Ls (.long y :: .long x :: st)) := by
  obtain ⟨_, X, -⟩ := W; subst hp
  exact Go.stp (g' := mkF m (pc + 1) Ls (.long (x + y) :: st)) (fun _ hr => XS.ladd X.here K.1 rfl (hb K.2.2.1 hd) rfl hr) G
theorem g_lsub (K : Cx p s m meth c Z own nm bytes maxL ret) (W : Wd p l e R s m args below meth c n0 T h cs ss) {x y : Int64} (hd : decode bytes pc = .ok (.lsub, 1)) (hp : pc + 1 = pc') (G : Go p e below s n0 Q rc rs T (mkF m pc' Ls (.long (x - y) :: st))) : Go p e below s n0 Q rc rs T (mkF m pc Ls (.long y :: .long x :: st)) := by
  obtain ⟨_, X, -⟩ := W; subst hp
  exact Go.stp (g' := mkF m (pc + 1) Ls (.long (x - y) :: st)) (fun _ hr => XS.lsub X.here K.1 rfl (hb K.2.2.1 hd) rfl hr) G
theorem g_lmul (K : Cx p s m meth c Z own nm bytes maxL ret) (W : Wd p l e R s m args below meth c n0 T h cs ss) {x y : Int64} (hd : decode bytes pc = .ok (.lmul, 1)) (hp : pc + 1 = pc') (G : Go p e below s n0 Q rc rs T (mkF m pc' Ls (.long (x * y) :: st))) : Go p e below s n0 Q rc rs T (mkF m pc Ls (.long y :: .long x :: st)) := by
  obtain ⟨_, X, -⟩ := W; subst hp
  exact Go.stp (g' := mkF m (pc + 1) Ls (.long (x * y) :: st)) (fun _ hr => XS.lmul X.here K.1 rfl (hb K.2.2.1 hd) rfl hr) G
theorem g_land (K : Cx p s m meth c Z own nm bytes maxL ret) (W : Wd p l e R s m args below meth c n0 T h cs ss) {x y : Int64} (hd : decode bytes pc = .ok (.land, 1)) (hp : pc + 1 = pc') (G : Go p e below s n0 Q rc rs T (mkF m pc' Ls (.long (x &&& y) :: st))) : Go p e below s n0 Q rc rs T (mkF m pc Ls (.long y :: .long x :: st)) := by
  obtain ⟨_, X, -⟩ := W; subst hp
  exact Go.stp (g' := mkF m (pc + 1) Ls (.long (x &&& y) :: st)) (fun _ hr => XS.land X.here K.1 rfl (hb K.2.2.1 hd) rfl hr) G
theorem g_lor (K : Cx p s m meth c Z own nm bytes maxL ret) (W : Wd p l e R s m args below meth c n0 T h cs ss) {x y : Int64} (hd : decode bytes pc = .ok (.lor, 1)) (hp : pc + 1 = pc') (G : Go p e below s n0 Q rc rs T (mkF m pc' Ls (.long (x ||| y) :: st))) : Go p e below s n0 Q rc rs T (mkF m pc Ls (.long y :: .long x :: st)) := by
  obtain ⟨_, X, -⟩ := W; subst hp
  exact Go.stp (g' := mkF m (pc + 1) Ls (.long (x ||| y) :: st)) (fun _ hr => XS.lor X.here K.1 rfl (hb K.2.2.1 hd) rfl hr) G
theorem g_lxor (K : Cx p s m meth c Z own nm bytes maxL ret) (W : Wd p l e R s m args below meth c n0 T h cs ss) {x y : Int64} (hd : decode bytes pc = .ok (.lxor, 1)) (hp : pc + 1 = pc') (G : Go p e below s n0 Q rc rs T (mkF m pc' Ls (.long (x ^^^ y) :: st))) : Go p e below s n0 Q rc rs T (mkF m pc Ls (.long y :: .long x :: st)) := by
  obtain ⟨_, X, -⟩ := W; subst hp
  exact Go.stp (g' := mkF m (pc + 1) Ls (.long (x ^^^ y) :: st)) (fun _ hr => XS.lxor X.here K.1 rfl (hb K.2.2.1 hd) rfl hr) G
theorem g_lshl (K : Cx p s m meth c Z own nm bytes maxL ret) (W : Wd p l e R s m args below meth c n0 T h cs ss) {x : Int64} {y : Int32} (hd : decode bytes pc = .ok (.lshl, 1)) (hp : pc + 1 = pc') (G : Go p e below s n0 Q rc rs T (mkF m pc' Ls (.long (x <<< (y &&& 0x3f).toInt64) :: st))) : Go p e below s n0 Q rc rs T (mkF m pc Ls (.int y :: .long x :: st)) := by
  obtain ⟨_, X, -⟩ := W; subst hp
  exact Go.stp (g' := mkF m (pc + 1) Ls (.long (x <<< (y &&& 0x3f).toInt64) :: st)) (fun _ hr => XS.lshl X.here K.1 rfl (hb K.2.2.1 hd) rfl hr) G
theorem g_lshr (K : Cx p s m meth c Z own nm bytes maxL ret) (W : Wd p l e R s m args below meth c n0 T h cs ss) {x : Int64} {y : Int32} (hd : decode bytes pc = .ok (.lshr, 1)) (hp : pc + 1 = pc') (G : Go p e below s n0 Q rc rs T (mkF m pc' Ls (.long (x >>> (y &&& 0x3f).toInt64) :: st))) : Go p e below s n0 Q rc rs T (mkF m pc Ls (.int y :: .long x :: st)) := by
  obtain ⟨_, X, -⟩ := W; subst hp
  exact Go.stp (g' := mkF m (pc + 1) Ls (.long (x >>> (y &&& 0x3f).toInt64) :: st)) (fun _ hr => XS.lshr X.here K.1 rfl (hb K.2.2.1 hd) rfl hr) G
theorem g_lushr (K : Cx p s m meth c Z own nm bytes maxL ret) (W : Wd p l e R s m args below meth c n0 T h cs ss) {x : Int64} {y : Int32} (hd : decode bytes pc = .ok (.lushr, 1)) (hp : pc + 1 = pc') (G : Go p e below s n0 Q rc rs T (mkF m pc' Ls (.long ((x.toUInt64 >>> (y &&& 0x3f).toInt64.toUInt64).toInt64) :: st))) : Go p e below s n0 Q rc rs T (mkF m pc Ls (.int y :: .long x :: st)) := by
  obtain ⟨_, X, -⟩ := W; subst hp
  exact Go.stp (g' := mkF m (pc + 1) Ls (.long ((x.toUInt64 >>> (y &&& 0x3f).toInt64.toUInt64).toInt64) :: st)) (fun _ hr => XS.lushr X.here K.1 rfl (hb K.2.2.1 hd) rfl hr) G
theorem g_ldiv (K : Cx p s m meth c Z own nm bytes maxL ret) (W : Wd p l e R s m args below meth c n0 T h cs ss) {x y : Int64} (hy : y ≠ 0) (hd : decode bytes pc = .ok (.ldiv, 1)) (hp : pc + 1 = pc') (G : Go p e below s n0 Q rc rs T (mkF m pc' Ls (.long (x / y) :: st))) : Go p e below s n0 Q rc rs T (mkF m pc Ls (.long y :: .long x :: st)) := by
  obtain ⟨_, X, -⟩ := W; subst hp
  exact Go.stp (g' := mkF m (pc + 1) Ls (.long (x / y) :: st)) (fun _ hr => XS.ldiv X.here K.1 rfl (hb K.2.2.1 hd) rfl hy hr) G
theorem g_lrem (K : Cx p s m meth c Z own nm bytes maxL ret) (W : Wd p l e R s m args below meth c n0 T h cs ss) {x y : Int64} (hy : y ≠ 0) (hd : decode bytes pc = .ok (.lrem, 1)) (hp : pc + 1 = pc') (G : Go p e below s n0 Q rc rs T (mkF m pc' Ls (.long (x - (x / y) * y) :: st))) : Go p e below s n0 Q rc rs T (mkF m pc Ls (.long y :: .long x :: st)) := by
  obtain ⟨_, X, -⟩ := W; subst hp
  exact Go.stp (g' := mkF m (pc + 1) Ls (.long (x - (x / y) * y) :: st)) (fun _ hr => XS.lrem X.here K.1 rfl (hb K.2.2.1 hd) rfl hy hr) G
theorem g_ineg (K : Cx p s m meth c Z own nm bytes maxL ret) (W : Wd p l e R s m args below meth c n0 T h cs ss) {x : Int32} (hd : decode bytes pc = .ok (.ineg, 1)) (hp : pc + 1 = pc') (G : Go p e below s n0 Q rc rs T (mkF m pc' Ls (.int (-x) :: st))) : Go p e below s n0 Q rc rs T (mkF m pc Ls (.int x :: st)) := by
  obtain ⟨_, X, -⟩ := W; subst hp
  exact Go.stp (g' := mkF m (pc + 1) Ls (.int (-x) :: st)) (fun _ hr => XS.ineg X.here K.1 rfl (hb K.2.2.1 hd) rfl hr) G
theorem g_i2b (K : Cx p s m meth c Z own nm bytes maxL ret) (W : Wd p l e R s m args below meth c n0 T h cs ss) {x : Int32} (hd : decode bytes pc = .ok (.i2b, 1)) (hp : pc + 1 = pc') (G : Go p e below s n0 Q rc rs T (mkF m pc' Ls (.int (x.toInt8.toInt32) :: st))) : Go p e below s n0 Q rc rs T (mkF m pc Ls (.int x :: st)) := by
  obtain ⟨_, X, -⟩ := W; subst hp
  exact Go.stp (g' := mkF m (pc + 1) Ls (.int (x.toInt8.toInt32) :: st)) (fun _ hr => XS.i2b X.here K.1 rfl (hb K.2.2.1 hd) rfl hr) G
theorem g_i2c (K : Cx p s m meth c Z own nm bytes maxL ret) (W : Wd p l e R s m args below meth c n0 T h cs ss) {x : Int32} (hd : decode bytes pc = .ok (.i2c, 1)) (hp : pc + 1 = pc') (G : Go p e below s n0 Q rc rs T (mkF m pc' Ls (.int (x.toUInt32.toUInt16.toUInt32.toInt32) :: st))) : Go p e below s n0 Q rc rs T (mkF m pc Ls (.int x :: st)) := by
  obtain ⟨_, X, -⟩ := W; subst hp
  exact Go.stp (g' := mkF m (pc + 1) Ls (.int (x.toUInt32.toUInt16.toUInt32.toInt32) :: st)) (fun _ hr => XS.i2c X.here K.1 rfl (hb K.2.2.1 hd) rfl hr) G
theorem g_i2s (K : Cx p s m meth c Z own nm bytes maxL ret) (W : Wd p l e R s m args below meth c n0 T h cs ss) {x : Int32} (hd : decode bytes pc = .ok (.i2s, 1)) (hp : pc + 1 = pc') (G : Go p e below s n0 Q rc rs T (mkF m pc' Ls (.int (x.toInt16.toInt32) :: st))) : Go p e below s n0 Q rc rs T (mkF m pc Ls (.int x :: st)) := by
  obtain ⟨_, X, -⟩ := W; subst hp
  exact Go.stp (g' := mkF m (pc + 1) Ls (.int (x.toInt16.toInt32) :: st)) (fun _ hr => XS.i2s X.here K.1 rfl (hb K.2.2.1 hd) rfl hr) G
theorem g_i2l (K : Cx p s m meth c Z own nm bytes maxL ret) (W : Wd p l e R s m args below meth c n0 T h cs ss) {x : Int32} (hd : decode bytes pc = .ok (.i2l, 1)) (hp : pc + 1 = pc') (G : Go p e below s n0 Q rc rs T (mkF m pc' Ls (.long (x.toInt64) :: st))) : Go p e below s n0 Q rc rs T (mkF m pc Ls (.int x :: st)) := by
  obtain ⟨_, X, -⟩ := W; subst hp
  exact Go.stp (g' := mkF m (pc + 1) Ls (.long (x.toInt64) :: st)) (fun _ hr => XS.i2l X.here K.1 rfl (hb K.2.2.1 hd) rfl hr) G
theorem g_l2i (K : Cx p s m meth c Z own nm bytes maxL ret) (W : Wd p l e R s m args below meth c n0 T h cs ss) {x : Int64} (hd : decode bytes pc = .ok (.l2i, 1)) (hp : pc + 1 = pc') (G : Go p e below s n0 Q rc rs T (mkF m pc' Ls (.int (x.toInt32) :: st))) : Go p e below s n0 Q rc rs T (mkF m pc Ls (.long x :: st)) := by
  obtain ⟨_, X, -⟩ := W; subst hp
  exact Go.stp (g' := mkF m (pc + 1) Ls (.int (x.toInt32) :: st)) (fun _ hr => XS.l2i X.here K.1 rfl (hb K.2.2.1 hd) rfl hr) G
theorem g_lneg (K : Cx p s m meth c Z own nm bytes maxL ret) (W : Wd p l e R s m args below meth c n0 T h cs ss) {x : Int64} (hd : decode bytes pc = .ok (.lneg, 1)) (hp : pc + 1 = pc') (G : Go p e below s n0 Q rc rs T (mkF m pc' Ls (.long (-x) :: st))) : Go p e below s n0 Q rc rs T (mkF m pc Ls (.long x :: st)) := by
  obtain ⟨_, X, -⟩ := W; subst hp
  exact Go.stp (g' := mkF m (pc + 1) Ls (.long (-x) :: st)) (fun _ hr => XS.lneg X.here K.1 rfl (hb K.2.2.1 hd) rfl hr) G
theorem g_iinc (K : Cx p s m meth c Z own nm bytes maxL ret) (W : Wd p l e R s m args below meth c n0 T h cs ss) {k : Nat} {cst : Int} {x : Int32} (hd : decode bytes pc = .ok (.iinc k cst, 3)) (hl : Ls[k]? = some (.val (.int x))) (hl' : storeLocals Ls k (.int (x + Int32.ofInt cst)) = some Ls') (hp : pc + 3 = pc') (G : Go p e below s n0 Q rc rs T (mkF m pc' Ls' st)) : Go p e below s n0 Q rc rs T (mkF m pc Ls st) := by
  obtain ⟨_, X, -⟩ := W; subst hp
  exact Go.stp (g' := mkF m (pc + 3) Ls' st) (fun _ hr => XS.iinc X.here K.1 rfl (hb K.2.2.1 hd) hl hl' hr) G
theorem g_dup (K : Cx p s m meth c Z own nm bytes maxL ret) (W : Wd p l e R s m args below meth c n0 T h cs ss) {x : Value} (hd : decode bytes pc = .ok (.dup, 1)) (hc : x.category = 1) (hp : pc + 1 = pc') (G : Go p e below s n0 Q rc rs T (mkF m pc' Ls (x :: x :: st))) : Go p e below s n0 Q rc rs T (mkF m pc Ls (x :: st)) := by
  obtain ⟨_, X, -⟩ := W; subst hp
  exact Go.stp (g' := mkF m (pc + 1) Ls (x :: x :: st)) (fun _ hr => XS.dup X.here K.1 rfl (hb K.2.2.1 hd) rfl hc hr) G
theorem g_pop (K : Cx p s m meth c Z own nm bytes maxL ret) (W : Wd p l e R s m args below meth c n0 T h cs ss) {x : Value} (hd : decode bytes pc = .ok (.pop, 1)) (hc : x.category = 1) (hp : pc + 1 = pc') (G : Go p e below s n0 Q rc rs T (mkF m pc' Ls st)) : Go p e below s n0 Q rc rs T (mkF m pc Ls (x :: st)) := by
  obtain ⟨_, X, -⟩ := W; subst hp
  exact Go.stp (g' := mkF m (pc + 1) Ls st) (fun _ hr => XS.pop X.here K.1 rfl (hb K.2.2.1 hd) rfl hc hr) G
theorem g_dup_x1 (K : Cx p s m meth c Z own nm bytes maxL ret) (W : Wd p l e R s m args below meth c n0 T h cs ss) {x y : Value} (hd : decode bytes pc = .ok (.dup_x1, 1)) (hc : x.category = 1) (hc2 : y.category = 1) (hp : pc + 1 = pc') (G : Go p e below s n0 Q rc rs T (mkF m pc' Ls (x :: y :: x :: st))) : Go p e below s n0 Q rc rs T (mkF m pc Ls (x :: y :: st)) := by
  obtain ⟨_, X, -⟩ := W; subst hp
  exact Go.stp (g' := mkF m (pc + 1) Ls (x :: y :: x :: st)) (fun _ hr => XS.dupX1 X.here K.1 rfl (hb K.2.2.1 hd) rfl hc hc2 hr) G
theorem g_dup2 (K : Cx p s m meth c Z own nm bytes maxL ret) (W : Wd p l e R s m args below meth c n0 T h cs ss) {x y : Value} (hd : decode bytes pc = .ok (.dup2, 1)) (hc : x.category = 1) (hc2 : y.category = 1) (hp : pc + 1 = pc') (G : Go p e below s n0 Q rc rs T (mkF m pc' Ls (x :: y :: x :: y :: st))) : Go p e below s n0 Q rc rs T (mkF m pc Ls (x :: y :: st)) := by
  obtain ⟨_, X, -⟩ := W; subst hp
  exact Go.stp (g' := mkF m (pc + 1) Ls (x :: y :: x :: y :: st)) (fun _ hr => XT.dup2 X.here K.1 rfl (hb K.2.2.1 hd) rfl hc hc2 hr) G
theorem g_dup2L (K : Cx p s m meth c Z own nm bytes maxL ret) (W : Wd p l e R s m args below meth c n0 T h cs ss) {x : Int64} (hd : decode bytes pc = .ok (.dup2, 1)) (hp : pc + 1 = pc') (G : Go p e below s n0 Q rc rs T (mkF m pc' Ls (.long x :: .long x :: st))) : Go p e below s n0 Q rc rs T (mkF m pc Ls (.long x :: st)) := by
  obtain ⟨_, X, -⟩ := W; subst hp
  exact Go.stp (g' := mkF m (pc + 1) Ls (.long x :: .long x :: st)) (fun _ hr => XT.dup2L X.here K.1 rfl (hb K.2.2.1 hd) rfl hr) G
theorem own_jmp {o : Int} (ht : (pc : Int) + o = (pt : Int)) : 0 ≤ (pc : Int) + o ∧ ((pc : Int) + o).toNat = pt := by omega
theorem g_goto (K : Cx p s m meth c Z own nm bytes maxL ret) (W : Wd p l e R s m args below meth c n0 T h cs ss) {o : Int} (hd : decode bytes pc = .ok (.goto o, 3)) (ht : (pc : Int) + o = (pt : Int)) (G : Go p e below s n0 Q rc rs T (mkF m pt Ls st)) : Go p e below s n0 Q rc rs T (mkF m pc Ls st) := by
  obtain ⟨_, X, -⟩ := W
  exact Go.stp (g' := mkF m pt Ls st) (fun _ hr => XS.goto X.here K.1 rfl (pc0 := pc) rfl (hb K.2.2.1 hd) (own_jmp ht).1 (own_jmp ht).2 hr) G
theorem g_icmp_eq (K : Cx p s m meth c Z own nm bytes maxL ret) (W : Wd p l e R s m args below meth c n0 T h cs ss) {x y : Int32} {o : Int} (hd : decode bytes pc = .ok (.if_icmp .eq o, 3)) (ht : (pc : Int) + o = (pt : Int)) (hp : pc + 3 = pf) (Gp : x = y → Go p e below s n0 Q rc rs T (mkF m pt Ls st)) (Gn : ¬ (x = y) → Go p e below s n0 Q rc rs T (mkF m pf Ls st)) : Go p e below s n0 Q rc rs T (mkF m pc Ls (.int y :: .int x :: st)) := by
  obtain ⟨_, X, -⟩ := W; subst hp
  by_cases q : x = y
  · exact Go.stp (g' := mkF m pt Ls st) (fun _ hr => XS.icmpYes X.here K.1 rfl (pc0 := pc) rfl (hb K.2.2.1 hd) rfl (Jvm.Free.XT.ii_eq_t q) (own_jmp ht).1 (own_jmp ht).2 hr) (Gp q)
  · exact Go.stp (g' := mkF m (pc + 3) Ls st) (fun _ hr => XS.icmpNo X.here K.1 rfl (hb K.2.2.1 hd) rfl (Jvm.Free.XT.ii_eq_f q) hr) (Gn q)
theorem g_if_eq (K : Cx p s m meth c Z own nm bytes maxL ret) (W : Wd p l e R s m args below meth c n0 T h cs ss) {x : Int32} {o : Int} (hd : decode bytes pc = .ok (.ifCond .eq o, 3)) (ht : (pc : Int) + o = (pt : Int)) (hp : pc + 3 = pf) (Gp : x = 0 → Go p e below s n0 Q rc rs T (mkF m pt Ls st)) (Gn : ¬ (x = 0) → Go p e below s n0 Q rc rs T (mkF m pf Ls st)) : Go p e below s n0 Q rc rs T (mkF m pc Ls (.int x :: st)) := by
  obtain ⟨_, X, -⟩ := W; subst hp
  by_cases q : x = 0
  · exact Go.stp (g' := mkF m pt Ls st) (fun _ hr => XS.ifYes X.here K.1 rfl (pc0 := pc) rfl (hb K.2.2.1 hd) rfl (Jvm.Free.XT.i0_eq_t q) (own_jmp ht).1 (own_jmp ht).2 hr) (Gp q)
  · exact Go.stp (g' := mkF m (pc + 3) Ls st) (fun _ hr => XS.ifNo X.here K.1 rfl (hb K.2.2.1 hd) rfl (Jvm.Free.XT.i0_eq_f q) hr) (Gn q)
theorem g_lcmp_eq (K : Cx p s m meth c Z own nm bytes maxL ret) (W : Wd p l e R s m args below meth c n0 T h cs ss) {x y : Int64} {o : Int} {pc1 : Nat} (hd0 : decode bytes pc = .ok (.lcmp, 1)) (hp0 : pc + 1 = pc1) (hd : decode bytes pc1 = .ok (.ifCond .eq o, 3)) (ht : (pc1 : Int) + o = (pt : Int)) (hp : pc1 + 3 = pf) (Gp : x = y → Go p e below s n0 Q rc rs T (mkF m pt Ls st)) (Gn : ¬ (x = y) → Go p e below s n0 Q rc rs T (mkF m pf Ls st)) : Go p e below s n0 Q rc rs T (mkF m pc Ls (.long y :: .long x :: st)) := by
  obtain ⟨_, X, -⟩ := W; subst hp hp0
  refine Go.stp (g' := mkF m (pc + 1) Ls (.int (Jvm.Free.XT.cmpL x y) :: st)) (fun _ hr => XS.lcmp X.here K.1 rfl (hb K.2.2.1 hd0) rfl hr) ?_
  by_cases q : x = y
  · exact Go.stp (g' := mkF m pt Ls st) (fun _ hr => XS.ifYes X.here K.1 rfl (pc0 := pc + 1) rfl (hb K.2.2.1 hd) rfl (Jvm.Free.XT.ll_eq_t q) (own_jmp ht).1 (own_jmp ht).2 hr) (Gp q)
  · exact Go.stp (g' := mkF m (pc + 1 + 3) Ls st) (fun _ hr => XS.ifNo X.here K.1 rfl (hb K.2.2.1 hd) rfl (Jvm.Free.XT.ll_eq_f q) hr) (Gn q)
theorem g_icmp_ne (K : Cx p s m meth c Z own nm bytes maxL ret) (W : Wd p l e R s m args below meth c n0 T h cs ss) {x y : Int32} {o : Int} (hd : decode bytes pc = .ok (.if_icmp .ne o, 3)) (ht : (pc : Int) + o = (pt : Int)) (hp : pc + 3 = pf) (Gp : x = y → Go p e below s n0 Q rc rs T (mkF m pf Ls st)) (Gn : ¬ (x = y) → Go p e below s n0 Q rc rs T (mkF m pt Ls st)) : Go p e below s n0 Q rc rs T (mkF m pc Ls (.int y :: .int x :: st)) := by
  obtain ⟨_, X, -⟩ := W; subst hp
  by_cases q : x = y
  · exact Go.stp (g' := mkF m (pc + 3) Ls st) (fun _ hr => XS.icmpNo X.here K.1 rfl (hb K.2.2.1 hd) rfl (Jvm.Free.XT.ii_ne_f q) hr) (Gp q)
  · exact Go.stp (g' := mkF m pt Ls st) (fun _ hr => XS.icmpYes X.here K.1 rfl (pc0 := pc) rfl (hb K.2.2.1 hd) rfl (Jvm.Free.XT.ii_ne_t q) (own_jmp ht).1 (own_jmp ht).2 hr) (Gn q)
theorem g_if_ne (K : Cx p s m meth c Z own nm bytes maxL ret) (W : Wd p l e R s m args below meth c n0 T h cs ss) {x : Int32} {o : Int} (hd : decode bytes pc = .ok (.ifCond .ne o, 3)) (ht : (pc : Int) + o = (pt : Int)) (hp : pc + 3 = pf) (Gp : x = 0 → Go p e below s n0 Q rc rs T (mkF m pf Ls st)) (Gn : ¬ (x = 0) → Go p e below s n0 Q rc rs T (mkF m pt Ls st)) : Go p e below s n0 Q rc rs T (mkF m pc Ls (.int x :: st)) := by
  obtain ⟨_, X, -⟩ := W; subst hp
  by_cases q : x = 0
  · exact Go.stp (g' := mkF m (pc + 3) Ls st) (fun _ hr => XS.ifNo X.here K.1 rfl (hb K.2.2.1 hd) rfl (Jvm.Free.XT.i0_ne_f q) hr) (Gp q)
  · exact Go.stp (g' := mkF m pt Ls st) (fun _ hr => XS.ifYes X.here K.1 rfl (pc0 := pc) rfl (hb K.2.2.1 hd) rfl (Jvm.Free.XT.i0_ne_t q) (own_jmp ht).1 (own_jmp ht).2 hr) (Gn q)
theorem g_lcmp_ne (K : Cx p s m meth c Z own nm bytes maxL ret) (W : Wd p l e R s m args below meth c n0 T h cs ss) {x y : Int64} {o : Int} {pc1 : Nat} (hd0 : decode bytes pc = .ok (.lcmp, 1)) (hp0 : pc + 1 = pc1) (hd : decode bytes pc1 = .ok (.ifCond .ne o, 3)) (ht : (pc1 : Int) + o = (pt : Int)) (hp : pc1 + 3 = pf) (Gp : x = y → Go p e below s n0 Q rc rs T (mkF m pf Ls st)) (Gn : ¬ (x = y) → Go p e below s n0 Q rc rs T (mkF m pt Ls st)) : Go p e below s n0 Q rc rs T (mkF m pc Ls (.long y :: .long x :: st)) := by
  obtain ⟨_, X, -⟩ := W; subst hp hp0
  refine Go.stp (g' := mkF m (pc + 1) Ls (.int (Jvm.Free.XT.cmpL x y) :: st)) (fun _ hr => XS.lcmp X.here K.1 rfl (hb K.2.2.1 hd0) rfl hr) ?_
  by_cases q : x = y
  · exact Go.stp (g' := mkF m (pc + 1 + 3) Ls st) (fun _ hr => XS.ifNo X.here K.1 rfl (hb K.2.2.1 hd) rfl (Jvm.Free.XT.ll_ne_f q) hr) (Gp q)
  · exact Go.stp (g' := mkF m pt Ls st) (fun _ hr => XS.ifYes X.here K.1 rfl (pc0 := pc + 1) rfl (hb K.2.2.1 hd) rfl (Jvm.Free.XT.ll_ne_t q) (own_jmp ht).1 (own_jmp ht).2 hr) (Gn q)
theorem g_icmp_lt (K : Cx p s m meth c Z own nm bytes maxL ret) (W : Wd p l e R s m args below meth c n0 T h cs ss) {x y : Int32} {o : Int} (hd : decode bytes pc = .ok (.if_icmp .lt o, 3)) (ht : (pc : Int) + o = (pt : Int)) (hp : pc + 3 = pf) (Gp : x < y → Go p e below s n0 Q rc rs T (mkF m pt Ls st)) (Gn : ¬ (x < y) → Go p e below s n0 Q rc rs T (mkF m pf Ls st)) : Go p e below s n0 Q rc rs T (mkF m pc Ls (.int y :: .int x :: st)) := by
  obtain ⟨_, X, -⟩ := W; subst hp
  by_cases q : x < y
  · exact Go.stp (g' := mkF m pt Ls st) (fun _ hr => XS.icmpYes X.here K.1 rfl (pc0 := pc) rfl (hb K.2.2.1 hd) rfl (Jvm.Free.XT.ii_lt_t q) (own_jmp ht).1 (own_jmp ht).2 hr) (Gp q)
  · exact Go.stp (g' := mkF m (pc + 3) Ls st) (fun _ hr => XS.icmpNo X.here K.1 rfl (hb K.2.2.1 hd) rfl (Jvm.Free.XT.ii_lt_f q) hr) (Gn q)
theorem g_if_lt (K : Cx p s m meth c Z own nm bytes maxL ret) (W : Wd p l e R s m args below meth c n0 T h cs ss) {x : Int32} {o : Int} (hd : decode bytes pc = .ok (.ifCond .lt o, 3)) (ht : (pc : Int) + o = (pt : Int)) (hp : pc + 3 = pf) (Gp : x < 0 → Go p e below s n0 Q rc rs T (mkF m pt Ls st)) (Gn : ¬ (x < 0) → Go p e below s n0 Q rc rs T (mkF m pf Ls st)) : Go p e below s n0 Q rc rs T (mkF m pc Ls (.int x :: st)) := by
  obtain ⟨_, X, -⟩ := W; subst hp
  by_cases q : x < 0
  · exact Go.stp (g' := mkF m pt Ls st) (fun _ hr => XS.ifYes X.here K.1 rfl (pc0 := pc) rfl (hb K.2.2.1 hd) rfl (Jvm.Free.XT.i0_lt_t q) (own_jmp ht).1 (own_jmp ht).2 hr) (Gp q)
  · exact Go.stp (g' := mkF m (pc + 3) Ls st) (fun _ hr => XS.ifNo X.here K.1 rfl (hb K.2.2.1 hd) rfl (Jvm.Free.XT.i0_lt_f q) hr) (Gn q)
theorem g_lcmp_lt (K : Cx p s m meth c Z own nm bytes maxL ret) (W : Wd p l e R s m args below meth c n0 T h cs ss) {x y : Int64} {o : Int} {pc1 : Nat} (hd0 : decode bytes pc = .ok (.lcmp, 1)) (hp0 : pc + 1 = pc1) (hd : decode bytes pc1 = .ok (.ifCond .lt o, 3)) (ht : (pc1 : Int) + o = (pt : Int)) (hp : pc1 + 3 = pf) (Gp : x < y → Go p e below s n0 Q rc rs T (mkF m pt Ls st)) (Gn : ¬ (x < y) → Go p e below s n0 Q rc rs T (mkF m pf Ls st)) : Go p e below s n0 Q rc rs T (mkF m pc Ls (.long y :: .long x :: st)) := by
  obtain ⟨_, X, -⟩ := W; subst hp hp0
  refine Go.stp (g' := mkF m (pc + 1) Ls (.int (Jvm.Free.XT.cmpL x y) :: st)) (fun _ hr => XS.lcmp X.here K.1 rfl (hb K.2.2.1 hd0) rfl hr) ?_
  by_cases q : x < y
  · exact Go.stp (g' := mkF m pt Ls st) (fun _ hr => XS.ifYes X.here K.1 rfl (pc0 := pc + 1) rfl (hb K.2.2.1 hd) rfl (Jvm.Free.XT.ll_lt_t q) (own_jmp ht).1 (own_jmp ht).2 hr) (Gp q)
  · exact Go.stp (g' := mkF m (pc + 1 + 3) Ls st) (fun _ hr => XS.ifNo X.here K.1 rfl (hb K.2.2.1 hd) rfl (Jvm.Free.XT.ll_lt_f q) hr) (Gn q)
theorem g_icmp_ge (K : Cx p s m meth c Z own nm bytes maxL ret) (W : Wd p l e R s m args below meth c n0 T h cs ss) {x y : Int32} {o : Int} (hd : decode bytes pc = .ok (.if_icmp .ge o, 3)) (ht : (pc : Int) + o = (pt : Int)) (hp : pc + 3 = pf) (Gp : x < y → Go p e below s n0 Q rc rs T (mkF m pf Ls st)) (Gn : ¬ (x < y) → Go p e below s n0 Q rc rs T (mkF m pt Ls st)) : Go p e below s n0 Q rc rs T (mkF m pc Ls (.int y :: .int x :: st)) := by
  obtain ⟨_, X, -⟩ := W; subst hp
  by_cases q : x < y
  · exact Go.stp (g' := mkF m (pc + 3) Ls st) (fun _ hr => XS.icmpNo X.here K.1 rfl (hb K.2.2.1 hd) rfl (Jvm.Free.XT.ii_ge_f q) hr) (Gp q)
  · exact Go.stp (g' := mkF m pt Ls st) (fun _ hr => XS.icmpYes X.here K.1 rfl (pc0 := pc) rfl (hb K.2.2.1 hd) rfl (Jvm.Free.XT.ii_ge_t q) (own_jmp ht).1 (own_jmp ht).2 hr) (Gn q)
theorem g_if_ge (K : Cx p s m meth c Z own nm bytes maxL ret) (W : Wd p l e R s m args below meth c n0 T h cs ss) {x : Int32} {o : Int} (hd : decode bytes pc = .ok (.ifCond .ge o, 3)) (ht : (pc : Int) + o = (pt : Int)) (hp : pc + 3 = pf) (Gp : x < 0 → Go p e below s n0 Q rc rs T (mkF m pf Ls st)) (Gn : ¬ (x < 0) → Go p e below s n0 Q rc rs T (mkF m pt Ls st)) : Go p e below s n0 Q rc rs T (mkF m pc Ls (.int x :: st)) := by
  obtain ⟨_, X, -⟩ := W; subst hp
  by_cases q : x < 0
  · exact Go.stp (g' := mkF m (pc + 3) Ls st) (fun _ hr => XS.ifNo X.here K.1 rfl (hb K.2.2.1 hd) rfl (Jvm.Free.XT.i0_ge_f q) hr) (Gp q)
  · exact Go.stp (g' := mkF m pt Ls st) (fun _ hr => XS.ifYes X.here K.1 rfl (pc0 := pc) rfl (hb K.2.2.1 hd) rfl (Jvm.Free.XT.i0_ge_t q) (own_jmp ht).1 (own_jmp ht).2 hr) (Gn q)
theorem g_lcmp_ge (K : Cx p s m meth c Z own nm bytes maxL ret) (W : Wd p l e R s m args below meth c n0 T h cs ss) {x y : Int64} {o : Int} {pc1 : Nat} (hd0 : decode bytes pc = .ok (.lcmp, 1)) (hp0 : pc + 1 = pc1) (hd : decode bytes pc1 = .ok (.ifCond .ge o, 3)) (ht : (pc1 : Int) + o = (pt : Int)) (hp : pc1 + 3 = pf) (Gp : x < y → Go p e below s n0 Q rc rs T (mkF m pf Ls st)) (Gn : ¬ (x < y) → Go p e below s n0 Q rc rs T (mkF m pt Ls st)) : Go p e below s n0 Q rc rs T (mkF m pc Ls (.long y :: .long x :: st)) := by
  obtain ⟨_, X, -⟩ := W; subst hp hp0
  refine Go.stp (g' := mkF m (pc + 1) Ls (.int (Jvm.Free.XT.cmpL x y) :: st)) (fun _ hr => XS.lcmp X.here K.1 rfl (hb K.2.2.1 hd0) rfl hr) ?_
  by_cases q : x < y
  · exact Go.stp (g' := mkF m (pc + 1 + 3) Ls st) (fun _ hr => XS.ifNo X.here K.1 rfl (hb K.2.2.1 hd) rfl (Jvm.Free.XT.ll_ge_f q) hr) (Gp q)
  · exact Go.stp (g' := mkF m pt Ls st) (fun _ hr => XS.ifYes X.here K.1 rfl (pc0 := pc + 1) rfl (hb K.2.2.1 hd) rfl (Jvm.Free.XT.ll_ge_t q) (own_jmp ht).1 (own_jmp ht).2 hr) (Gn q)
theorem g_icmp_gt (K : Cx p s m meth c Z own nm bytes maxL ret) (W : Wd p l e R s m args below meth c n0 T h cs ss) {x y : Int32} {o : Int} (hd : decode bytes pc = .ok (.if_icmp .gt o, 3)) (ht : (pc : Int) + o = (pt : Int)) (hp : pc + 3 = pf) (Gp : y < x → Go p e below s n0 Q rc rs T (mkF m pt Ls st)) (Gn : ¬ (y < x) → Go p e below s n0 Q rc rs T (mkF m pf Ls st)) : Go p e below s n0 Q rc rs T (mkF m pc Ls (.int y :: .int x :: st)) := by
  obtain ⟨_, X, -⟩ := W; subst hp
  by_cases q : y < x
  · exact Go.stp (g' := mkF m pt Ls st) (fun _ hr => XS.icmpYes X.here K.1 rfl (pc0 := pc) rfl (hb K.2.2.1 hd) rfl (Jvm.Free.XT.ii_gt_t q) (own_jmp ht).1 (own_jmp ht).2 hr) (Gp q)
  · exact Go.stp (g' := mkF m (pc + 3) Ls st) (fun _ hr => XS.icmpNo X.here K.1 rfl (hb K.2.2.1 hd) rfl (Jvm.Free.XT.ii_gt_f q) hr) (Gn q)
theorem g_if_gt (K : Cx p s m meth c Z own nm bytes maxL ret) (W : Wd p l e R s m args below meth c n0 T h cs ss) {x : Int32} {o : Int} (hd : decode bytes pc = .ok (.ifCond .gt o, 3)) (ht : (pc : Int) + o = (pt : Int)) (hp : pc + 3 = pf) (Gp : 0 < x → Go p e below s n0 Q rc rs T (mkF m pt Ls st)) (Gn : ¬ (0 < x) → Go p e below s n0 Q rc rs T (mkF m pf Ls st)) : Go p e below s n0 Q rc rs T (mkF m pc Ls (.int x :: st)) := by
  obtain ⟨_, X, -⟩ := W; subst hp
  by_cases q : 0 < x
  · exact Go.stp (g' := mkF m pt Ls st) (fun _ hr => XS.ifYes X.here K.1 rfl (pc0 := pc) rfl (hb K.2.2.1 hd) rfl (Jvm.Free.XT.i0_gt_t q) (own_jmp ht).1 (own_jmp ht).2 hr) (Gp q)
  · exact Go.stp (g' := mkF m (pc + 3) Ls st) (fun _ hr => XS.ifNo X.here K.1 rfl (hb K.2.2.1 hd) rfl (Jvm.Free.XT.i0_gt_f q) hr) (Gn q)
theorem g_lcmp_gt (K : Cx p s m meth c Z own nm bytes maxL ret) (W : Wd p l e R s m args below meth c n0 T h cs ss) {x y : Int64} {o : Int} {pc1 : Nat} (hd0 : decode bytes pc = .ok (.lcmp, 1)) (hp0 : pc + 1 = pc1) (hd : decode bytes pc1 = .ok (.ifCond .gt o, 3)) (ht : (pc1 : Int) + o = (pt : Int)) (hp : pc1 + 3 = pf) (Gp : y < x → Go p e below s n0 Q rc rs T (mkF m pt Ls st)) (Gn : ¬ (y < x) → Go p e below s n0 Q rc rs T (mkF m pf Ls st)) : Go p e below s n0 Q rc rs T (mkF m pc Ls (.long y :: .long x :: st)) := by
  obtain ⟨_, X, -⟩ := W; subst hp hp0
  refine Go.stp (g' := mkF m (pc + 1) Ls (.int (Jvm.Free.XT.cmpL x y) :: st)) (fun _ hr => XS.lcmp X.here K.1 rfl (hb K.2.2.1 hd0) rfl hr) ?_
  by_cases q : y < x
  · exact Go.stp (g' := mkF m pt Ls st) (fun _ hr => XS.ifYes X.here K.1 rfl (pc0 := pc + 1) rfl (hb K.2.2.1 hd) rfl (Jvm.Free.XT.ll_gt_t q) (own_jmp ht).1 (own_jmp ht).2 hr) (Gp q)
  · exact Go.stp (g' := mkF m (pc + 1 + 3) Ls st) (fun _ hr => XS.ifNo X.here K.1 rfl (hb K.2.2.1 hd) rfl (Jvm.Free.XT.ll_gt_f q) hr) (Gn q)
theorem g_icmp_le (K : Cx p s m meth c Z own nm bytes maxL ret) (W : Wd p l e R s m args below meth c n0 T h cs ss) {x y : Int32} {o : Int} (hd : decode bytes pc = .ok (.if_icmp .le o, 3)) (ht : (pc : Int) + o = (pt : Int)) (hp : pc + 3 = pf) (Gp : y < x → Go p e below s n0 Q rc rs T (mkF m pf Ls st)) (Gn : ¬ (y < x) → Go p e below s n0 Q rc rs T (mkF m pt Ls st)) : Go p e below s n0 Q rc rs T (mkF m pc Ls (.int y :: .int x :: st)) := by
  obtain ⟨_, X, -⟩ := W; subst hp
  by_cases q : y < x
  · exact Go.stp (g' := mkF m (pc + 3) Ls st) (fun _ hr => XS.icmpNo X.here K.1 rfl (hb K.2.2.1 hd) rfl (Jvm.Free.XT.ii_le_f q) hr) (Gp q)
  · exact Go.stp (g' := mkF m pt Ls st) (fun _ hr => XS.icmpYes X.here K.1 rfl (pc0 := pc) rfl (hb K.2.2.1 hd) rfl (Jvm.Free.XT.ii_le_t q) (own_jmp ht).1 (own_jmp ht).2 hr) (Gn q)
theorem g_if_le (K : Cx p s m meth c Z own nm bytes maxL ret) (W : Wd p l e R s m args below meth c n0 T h cs ss) {x : Int32} {o : Int} (hd : decode bytes pc = .ok (.ifCond .le o, 3)) (ht : (pc : Int) + o = (pt : Int)) (hp : pc + 3 = pf) (Gp : 0 < x → Go p e below s n0 Q rc rs T (mkF m pf Ls st)) (Gn : ¬ (0 < x) → Go p e below s n0 Q rc rs T (mkF m pt Ls st)) : Go p e below s n0 Q rc rs T (mkF m pc Ls (.int x :: st)) := by
  obtain ⟨_, X, -⟩ := W; subst hp
  by_cases q : 0 < x
  · exact Go.stp (g' := mkF m (pc + 3) Ls st) (fun _ hr => XS.ifNo X.here K.1 rfl (hb K.2.2.1 hd) rfl (Jvm.Free.XT.i0_le_f q) hr) (Gp q)
  · exact Go.stp (g' := mkF m pt Ls st) (fun _ hr => XS.ifYes X.here K.1 rfl (pc0 := pc) rfl (hb K.2.2.1 hd) rfl (Jvm.Free.XT.i0_le_t q) (own_jmp ht).1 (own_jmp ht).2 hr) (Gn q)
theorem g_lcmp_le (K : Cx p s m meth c Z own nm bytes maxL ret) (W : Wd p l e R s m args below meth c n0 T h cs ss) {x y : Int64} {o : Int} {pc1 : Nat} (hd0 : decode bytes pc = .ok (.lcmp, 1)) (hp0 : pc + 1 = pc1) (hd : decode bytes pc1 = .ok (.ifCond .le o, 3)) (ht : (pc1 : Int) + o = (pt : Int)) (hp : pc1 + 3 = pf) (Gp : y < x → Go p e below s n0 Q rc rs T (mkF m pf Ls st)) (Gn : ¬ (y < x) → Go p e below s n0 Q rc rs T (mkF m pt Ls st)) : Go p e below s n0 Q rc rs T (mkF m pc Ls (.long y :: .long x :: st)) := by
  obtain ⟨_, X, -⟩ := W; subst hp hp0
  refine Go.stp (g' := mkF m (pc + 1) Ls (.int (Jvm.Free.XT.cmpL x y) :: st)) (fun _ hr => XS.lcmp X.here K.1 rfl (hb K.2.2.1 hd0) rfl hr) ?_
  by_cases q : y < x
  · exact Go.stp (g' := mkF m (pc + 1 + 3) Ls st) (fun _ hr => XS.ifNo X.here K.1 rfl (hb K.2.2.1 hd) rfl (Jvm.Free.XT.ll_le_f q) hr) (Gp q)
  · exact Go.stp (g' := mkF m pt Ls st) (fun _ hr => XS.ifYes X.here K.1 rfl (pc0 := pc + 1) rfl (hb K.2.2.1 hd) rfl (Jvm.Free.XT.ll_le_t q) (own_jmp ht).1 (own_jmp ht).2 hr) (Gn q)
theorem g_ifnull_t (K : Cx p s m meth c Z own nm bytes maxL ret) (W : Wd p l e R s m args below meth c n0 T h cs ss) {o : Int} (hd : decode bytes pc = .ok (.ifnull o, 3)) (ht : (pc : Int) + o = (pt : Int)) (G : Go p e below s n0 Q rc rs T (mkF m pt Ls st)) : Go p e below s n0 Q rc rs T (mkF m pc Ls (.null :: st)) := by
  obtain ⟨_, X, -⟩ := W
  exact Go.stp (g' := mkF m pt Ls st) (fun _ hr => XS.ifnullYes X.here K.1 rfl (pc0 := pc) rfl (hb K.2.2.1 hd) rfl (own_jmp ht).1 (own_jmp ht).2 hr) G
theorem g_ifnull_f (K : Cx p s m meth c Z own nm bytes maxL ret) (W : Wd p l e R s m args below meth c n0 T h cs ss) {o : Int} {b : Addr} (hd : decode bytes pc = .ok (.ifnull o, 3)) (hp : pc + 3 = pf) (G : Go p e below s n0 Q rc rs T (mkF m pf Ls st)) : Go p e below s n0 Q rc rs T (mkF m pc Ls (.ref b :: st)) := by
  obtain ⟨_, X, -⟩ := W; subst hp
  exact Go.stp (g' := mkF m (pc + 3) Ls st) (fun _ hr => XS.ifnullNo X.here K.1 rfl (hb K.2.2.1 hd) rfl hr) G
theorem g_ifnonnull_t (K : Cx p s m meth c Z own nm bytes maxL ret) (W : Wd p l e R s m args below meth c n0 T h cs ss) {o : Int} {b : Addr} (hd : decode bytes pc = .ok (.ifnonnull o, 3)) (ht : (pc : Int) + o = (pt : Int)) (G : Go p e below s n0 Q rc rs T (mkF m pt Ls st)) : Go p e below s n0 Q rc rs T (mkF m pc Ls (.ref b :: st)) := by
  obtain ⟨_, X, -⟩ := W
  exact Go.stp (g' := mkF m pt Ls st) (fun _ hr => XS.ifnonnullYes X.here K.1 rfl (pc0 := pc) rfl (hb K.2.2.1 hd) rfl (own_jmp ht).1 (own_jmp ht).2 hr) G
theorem g_ifnonnull_f (K : Cx p s m meth c Z own nm bytes maxL ret) (W : Wd p l e R s m args below meth c n0 T h cs ss) {o : Int} (hd : decode bytes pc = .ok (.ifnonnull o, 3)) (hp : pc + 3 = pf) (G : Go p e below s n0 Q rc rs T (mkF m pf Ls st)) : Go p e below s n0 Q rc rs T (mkF m pc Ls (.null :: st)) := by
  obtain ⟨_, X, -⟩ := W; subst hp
  exact Go.stp (g' := mkF m (pc + 3) Ls st) (fun _ hr => XS.ifnonnullNo X.here K.1 rfl (hb K.2.2.1 hd) rfl hr) G
/-! the steps that read the tables or the heap -/
theorem Wd.sz (W : Wd p l e R s m args below meth c n0 T h cs ss) : n0 ≤ h.size := by
  obtain ⟨_, X, _, eT, q⟩ := W
  have r : s.heap.size ≤ T.heap.size := X.same.2.1
  rw [eT] at r
  exact Nat.le_trans q r
theorem g_getF (K : Cx p s m meth c Z own nm bytes maxL ret) (W : Wd p l e R s m args below meth c n0 T h cs ss) {R0 O n d host : String} {index : Nat} {a : Addr} {v : Value} (w : (Jvm.Cond.fieldLink own index R0 n d).before a0 Z = true ∨ (Jvm.Cond.fieldLinkNest own index R0 n d host).before a0 Z = true) (via : Via Z R0 O n d) (F : Fld Z h a O n d v) (hd : decode bytes pc = .ok (.getfield index, 3)) (hp : pc + 3 = pc')
    (G : ∀ T', Wd p l e R s m args below meth c n0 T' h cs ss → Go p e below s n0 Q rc rs T' (mkF m pc' Ls (v :: st))) : Go p e below s n0 Q rc rs T (mkF m pc Ls (.ref a :: st)) := by
  obtain ⟨locs, X, N, eT, z⟩ := W; subst hp
  obtain ⟨T', X', e', q⟩ := getF X K.1 K.2.1 K.2.2.2.2.1 w via eT F (g := mkF m pc Ls (.ref a :: st)) rfl rfl (hb K.2.2.1 hd)
  exact Go.stp q (G T' ⟨locs, X', N, e', z⟩)
theorem g_putF (K : Cx p s m meth c Z own nm bytes maxL ret) (W : Wd p l e R s m args below meth c n0 T h cs ss) {R0 O n d host C : String} {index kk : Nat} {ty : FieldType} {a : Addr} {v old : Value} (w : (Jvm.Cond.fieldLink own index R0 n d).before a0 Z = true ∨ (Jvm.Cond.fieldLinkNest own index R0 n d host).before a0 Z = true) (via : Via Z R0 O n d) (F : Fld Z h a O n d old) (E : Exa Z h a C)
    (L : (Jvm.Cond.lays C O n d).before a0 Z = true ∨ ((Jvm.Cond.laysFinal C O n d).before a0 Z = true ∧ own = O ∧ nm = "<init>")) (wi : (Jvm.Cond.instantiable C kk).before a0 Z = true) (hty : parseFieldDescriptor d = some ty) (hn : narrow ty v = v) (hf : fits ty v = true) (ha : n0 ≤ a) (hd : decode bytes pc = .ok (.putfield index, 3)) (hp : pc + 3 = pc')
    (G : ∀ T' h', Wd p l e R s m args below meth c n0 T' h' cs ss → Wr h h' a (Jvm.RoadKit.slotOf Z O n d) v → Go p e below s n0 Q rc rs T' (mkF m pc' Ls st)) : Go p e below s n0 Q rc rs T (mkF m pc Ls (v :: .ref a :: st)) := by
  obtain ⟨locs, X, N, eT, z⟩ := W; subst hp
  obtain ⟨T', h', X', e', w', q⟩ := putF X K.1 K.2.1 K.2.2.2.2.1 w via eT F E (L.imp id fun y => ⟨y.1, y.2.1, K.2.2.2.2.2.2.2.trans y.2.2⟩) wi hty hn hf (g := mkF m pc Ls (v :: .ref a :: st)) rfl rfl (hb K.2.2.1 hd)
  exact Go.stp q (G T' h' ⟨_, X', Fr.snoc X' N ha, e', z⟩ w')
theorem g_new (K : Cx p s m meth c Z own nm bytes maxL ret) (W : Wd p l e R s m args below meth c n0 T h cs ss) {C : String} {index n : Nat} (w : (Jvm.Cond.classLink own index C).before a0 Z = true) (wi : (Jvm.Cond.instantiable C n).before a0 Z = true) (wz : (Jvm.Cond.initialized C).before a0 Z = true) (hd : decode bytes pc = .ok (.new index, 3)) (hp : pc + 3 = pc') (hc : cs + 1 ≤ R.cells) (hl : ss + n ≤ R.slots)
    (G : ∀ T' h' a, Wd p l e R s m args below meth c n0 T' h' (cs + 1) (ss + n) → Ext h h' → a = h.size → n0 ≤ a → Exa Z h' a C → (∀ {O nm d : String} {ty : FieldType}, Laid Z a0 C O nm d → parseFieldDescriptor d = some ty → Fld Z h' a O nm d (defaultValue ty)) → Go p e below s n0 Q rc rs T' (mkF m pc' Ls (.ref a :: st))) : Go p e below s n0 Q rc rs T (mkF m pc Ls st) := by
  have zz := W.sz
  obtain ⟨locs, X, N, eT, z⟩ := W; subst hp
  obtain ⟨T', h', X', e', E, A, D, -, q⟩ := newO X K.1 K.2.1 K.2.2.2.2.1 w wi wz eT (g := mkF m pc Ls st) rfl (hb K.2.2.1 hd) hc hl
  exact Go.stp q (G T' h' _ ⟨_, X', N, e', z⟩ E rfl zz A (fun {O nm d ty} a b => D a b))
/-! the ways out -/
theorem g_ret0 (K : Cx p s m meth c Z own nm bytes maxL none) (W : Wd p l e R s m args below meth c n0 T h cs ss) (hd : decode bytes pc = .ok (.return_, 1)) (h1 : cs ≤ rc) (h2 : ss ≤ rs) (q : Q none h) : Go p e below s n0 Q rc rs T (mkF m pc Ls []) := by
  obtain ⟨locs, X, N, eT, z⟩ := W
  obtain ⟨fs, hr, hrun, hended, hW, hsame⟩ := X.leave (v := none) (fun _ => rfl) K.2.2.2.2.2.2.1
  exact ⟨_, _, X.returnOut K.1 K.2.2.2.2.2.1 (hb K.2.2.1 hd) hr, hrun, hended, _, _, rfl, ⟨by show Q none T.heap; rw [eT]; exact q, N⟩, ⟨_, rfl⟩, hW, hsame.mono h1 h2⟩
theorem g_retN {t : FieldType} {x v : Int32} (K : Cx p s m meth c Z own nm bytes maxL (some t)) (W : Wd p l e R s m args below meth c n0 T h cs ss) (ht : t = .boolean ∨ t = .byte ∨ t = .char ∨ t = .short) (hd : decode bytes pc = .ok (.ireturn, 1)) (h1 : cs ≤ rc) (h2 : ss ≤ rs) (hv : nar t x = v) (q : Q (some (.int v)) h) : Go p e below s n0 Q rc rs T (mkF m pc Ls (.int x :: st)) := by
  obtain ⟨locs, X, N, eT, z⟩ := W; subst hv
  obtain ⟨fs, hr, hrun, hended, hW, hsame⟩ := X.leave (v := some (.int (nar t x))) (fun y => by rw [K.2.2.2.2.2.1] at y; cases y) K.2.2.2.2.2.2.1
  exact ⟨_, _, retN X K.1 K.2.2.2.2.2.1 ht (hb K.2.2.1 hd) hr, hrun, hended, _, _, rfl, ⟨by show Q _ T.heap; rw [eT]; exact q, N⟩, ⟨_, rfl⟩, hW, hsame.mono h1 h2⟩
theorem g_retI {x : Int32} (K : Cx p s m meth c Z own nm bytes maxL (some .int)) (W : Wd p l e R s m args below meth c n0 T h cs ss) (hd : decode bytes pc = .ok (.ireturn, 1)) (h1 : cs ≤ rc) (h2 : ss ≤ rs) (q : Q (some (.int x)) h) : Go p e below s n0 Q rc rs T (mkF m pc Ls (.int x :: st)) := by
  obtain ⟨locs, X, N, eT, z⟩ := W
  obtain ⟨fs, hr, hrun, hended, hW, hsame⟩ := X.leave (v := some (.int x)) (fun y => by rw [K.2.2.2.2.2.1] at y; cases y) K.2.2.2.2.2.2.1
  exact ⟨_, _, retOut X K.1 K.2.2.2.2.2.1 rfl (Or.inl ⟨rfl, Or.inl rfl, _, rfl⟩) (hb K.2.2.1 hd) hr, hrun, hended, _, _, rfl, ⟨by show Q _ T.heap; rw [eT]; exact q, N⟩, ⟨_, rfl⟩, hW, hsame.mono h1 h2⟩
theorem g_retL {x : Int64} (K : Cx p s m meth c Z own nm bytes maxL (some .long)) (W : Wd p l e R s m args below meth c n0 T h cs ss) (hd : decode bytes pc = .ok (.lreturn, 1)) (h1 : cs ≤ rc) (h2 : ss ≤ rs) (q : Q (some (.long x)) h) : Go p e below s n0 Q rc rs T (mkF m pc Ls (.long x :: st)) := by
  obtain ⟨locs, X, N, eT, z⟩ := W
  obtain ⟨fs, hr, hrun, hended, hW, hsame⟩ := X.leave (v := some (.long x)) (fun y => by rw [K.2.2.2.2.2.1] at y; cases y) K.2.2.2.2.2.2.1
  exact ⟨_, _, retOut X K.1 K.2.2.2.2.2.1 rfl (Or.inr (Or.inl ⟨rfl, rfl, _, rfl⟩)) (hb K.2.2.1 hd) hr, hrun, hended, _, _, rfl, ⟨by show Q _ T.heap; rw [eT]; exact q, N⟩, ⟨_, rfl⟩, hW, hsame.mono h1 h2⟩
theorem g_retA {t : FieldType} {x : Value} (K : Cx p s m meth c Z own nm bytes maxL (some t)) (W : Wd p l e R s m args below meth c n0 T h cs ss) (ht : t.isReference = true) (hn : narrow t x = x) (hx : x.isRef = true) (hd : decode bytes pc = .ok (.areturn, 1)) (h1 : cs ≤ rc) (h2 : ss ≤ rs) (q : Q (some x) h) : Go p e below s n0 Q rc rs T (mkF m pc Ls (x :: st)) := by
  obtain ⟨locs, X, N, eT, z⟩ := W
  obtain ⟨fs, hr, hrun, hended, hW, hsame⟩ := X.leave (v := some x) (fun y => by rw [K.2.2.2.2.2.1] at y; cases y) K.2.2.2.2.2.2.1
  exact ⟨_, _, retOut X K.1 K.2.2.2.2.2.1 hn (Or.inr (Or.inr (Or.inr (Or.inr ⟨rfl, ht, hx⟩)))) (hb K.2.2.1 hd) hr, hrun, hended, _, _, rfl, ⟨by show Q _ T.heap; rw [eT]; exact q, N⟩, ⟨_, rfl⟩, hW, hsame.mono h1 h2⟩
/-! the calls, each by its callee's contract -/
theorem g_callS {y : MethodName} {yb : ByteArray} {yl : Nat} {yr : Option FieldType} {rm : Room} {argsL : List Value} {Qc : Option Value → Heap → Prop} {index : Nat} (M : Mt l Z y yb yl yr rm n0 argsL.toArray h Qc) (K : Cx p s m meth c Z own nm bytes maxL ret) (W : Wd p l e R s m args below meth c n0 T h cs ss)
    (wl : (Jvm.Cond.methodLink own index y).before a0 Z = true) (ws : (Jvm.Cond.static y).before a0 Z = true) (wi : (Jvm.Cond.initialized y.cls).before a0 Z = true) (wc : (Jvm.Cond.code y yb yl yr).before a0 Z = true) (hy : y.cls ≠ "java/lang/invoke/MethodHandle" ∧ y.cls ≠ "java/lang/invoke/VarHandle")
    (hlen : ∀ sig, parseMethodDescriptor y.desc = some sig → argsL.length = sig.parameters.length) (hd : decode bytes pc = .ok (.invokestatic index, 3)) (hp : pc + 3 = pc') (hst : st = argsL.reverse ++ rest) (hsz : Ls.size = maxL) (hf : rm.frames + 1 ≤ R.frames) {wt : Nat} (hwt : (rest.map fun v => v.category).sum = wt) (hl : wt + (yl + 11) + rm.locals ≤ R.locals) (hc : cs + rm.cells ≤ R.cells) (hs : ss + rm.slots ≤ R.slots)
    (G : ∀ T' h' v, Wd p l e R s m args below meth c n0 T' h' (cs + rm.cells) (ss + rm.slots) → Qc v h' → Go p e below s n0 Q rc rs T' (mkF m pc' Ls (v.toList ++ rest))) : Go p e below s n0 Q rc rs T (mkF m pc Ls st) := by
  obtain ⟨locs, X, N, eT, z⟩ := W; subst hp hwt
  obtain ⟨v, _, ⟨T', L', k', n'⟩, -, X', ⟨Lc, hQ, l1, l2, l3⟩, q⟩ := Jvm.LawKit.callS X K.1 (y := y) K.2.2.2.2.1 (mvT K.2.1 wl) (mvT K.2.1 ws) (mvT K.2.1 wi) (mvT K.2.1 wc) hy (backOf (W := (rest.map fun v => v.category).sum) (Q := fun v hh L => Qc v hh ∧ Fr n0 L) (M []) K.2.1 wc wi hf hl) (g := mkF m pc Ls st) rfl (hsz.trans K.2.2.2.1.symm) (argsL := argsL) (rest := rest) hlen hst (by show 2 * 0 + _ ≤ _; omega) (hb K.2.2.1 hd) (fun _ _ => ⟨rfl, eT, hc, hs⟩)
  dsimp only [Pt.U, Pt.locs, Pt.cells, Pt.slots] at X' l1 l2 l3 q hQ
  subst l1 l2 l3
  exact Go.stp q (G T' T'.heap v ⟨_, X', Fr.app N hQ.2, rfl, z⟩ hQ.1)
theorem g_callN {y : MethodName} {yb : ByteArray} {yl : Nat} {rm : Room} {argsL : List Value} {Qc : Option Value → Heap → Prop} {index : Nat} {a : Addr} (M : Mt l Z y yb yl none rm n0 (.ref a :: argsL).toArray h Qc) (K : Cx p s m meth c Z own nm bytes maxL ret) (W : Wd p l e R s m args below meth c n0 T h cs ss) (hy1 : y.name = "<init>")
    (wl : (Jvm.Cond.methodLink own index y).before a0 Z = true) (ws : (Jvm.Cond.instanceMethod y).before a0 Z = true) (wi : (Jvm.Cond.initialized y.cls).before a0 Z = true) (wc : (Jvm.Cond.code y yb yl none).before a0 Z = true) (hy : y.cls ≠ "java/lang/invoke/MethodHandle" ∧ y.cls ≠ "java/lang/invoke/VarHandle")
    (hlen : ∀ sig, parseMethodDescriptor y.desc = some sig → argsL.length = sig.parameters.length) (hd : decode bytes pc = .ok (.invokespecial index, 3)) (hp : pc + 3 = pc') (hst : st = argsL.reverse ++ .ref a :: rest) (hsz : Ls.size = maxL) (hf : rm.frames + 1 ≤ R.frames) {wt : Nat} (hwt : (rest.map fun v => v.category).sum = wt) (hl : wt + (yl + 11) + rm.locals ≤ R.locals) (hc : cs + rm.cells ≤ R.cells) (hs : ss + rm.slots ≤ R.slots)
    (G : ∀ T' h' v, Wd p l e R s m args below meth c n0 T' h' (cs + rm.cells) (ss + rm.slots) → Qc v h' → Go p e below s n0 Q rc rs T' (mkF m pc' Ls (v.toList ++ rest))) : Go p e below s n0 Q rc rs T (mkF m pc Ls st) := by
  obtain ⟨locs, X, N, eT, z⟩ := W; subst hp hwt
  obtain ⟨v, _, ⟨T', L', k', n'⟩, -, X', ⟨Lc, hQ, l1, l2, l3⟩, q⟩ := X.specialBack K.1 (y := y) hy1 K.2.2.2.2.1 (mvT K.2.1 wl) (mvT K.2.1 ws) (mvT K.2.1 wc) hy (backOf (W := (rest.map fun v => v.category).sum) (Q := fun v hh L => Qc v hh ∧ Fr n0 L) (M []) K.2.1 wc wi hf hl) (g := mkF m pc Ls st) rfl (hsz.trans K.2.2.2.1.symm) (Steps.refl _) (a := a) (argsL := argsL) (rest := rest) hlen hst (by show 2 * 0 + _ ≤ _; omega) (hb K.2.2.1 hd) (fun _ _ => ⟨rfl, eT, hc, hs⟩)
  dsimp only [Pt.U, Pt.locs, Pt.cells, Pt.slots] at X' l1 l2 l3 q hQ
  subst l1 l2 l3
  exact Go.stp (fun _ k => q.trans k) (G T' T'.heap v ⟨_, X', Fr.app N hQ.2, rfl, z⟩ hQ.1)
theorem g_callV {y : MethodName} {yb : ByteArray} {yl : Nat} {yr : Option FieldType} {rm : Room} {argsL : List Value} {Qc : Option Value → Heap → Prop} {index : Nat} {C : String} {a : Addr} {x : MethodName} (M : Mt l Z y yb yl yr rm n0 (.ref a :: argsL).toArray h Qc) (K : Cx p s m meth c Z own nm bytes maxL ret) (W : Wd p l e R s m args below meth c n0 T h cs ss) (E : Exa Z h a C)
    (wl : (Jvm.Cond.methodLink own index x).before a0 Z = true) (wd : (Jvm.Cond.declares x).before a0 Z = true) (wx : (Jvm.Cond.selects x.cls x x).before a0 Z = true) (wsel : (Jvm.Cond.selects C x y).before a0 Z = true) (ws : (Jvm.Cond.instanceMethod y).before a0 Z = true) (wi : (Jvm.Cond.initialized y.cls).before a0 Z = true) (wc : (Jvm.Cond.code y yb yl yr).before a0 Z = true) (hy : x.cls ≠ "java/lang/invoke/MethodHandle" ∧ x.cls ≠ "java/lang/invoke/VarHandle")
    (hlen : ∀ sig, parseMethodDescriptor x.desc = some sig → argsL.length = sig.parameters.length) (hd : decode bytes pc = .ok (.invokevirtual index, 3)) (hp : pc + 3 = pc') (hst : st = argsL.reverse ++ .ref a :: rest) (hsz : Ls.size = maxL) (hf : rm.frames + 1 ≤ R.frames) {wt : Nat} (hwt : (rest.map fun v => v.category).sum = wt) (hl : wt + (yl + 11) + rm.locals ≤ R.locals) (hc : cs + rm.cells ≤ R.cells) (hs : ss + rm.slots ≤ R.slots)
    (G : ∀ T' h' v, Wd p l e R s m args below meth c n0 T' h' (cs + rm.cells) (ss + rm.slots) → Qc v h' → Go p e below s n0 Q rc rs T' (mkF m pc' Ls (v.toList ++ rest))) : Go p e below s n0 Q rc rs T (mkF m pc Ls st) := by
  obtain ⟨locs, X, N, eT, z⟩ := W; subst hp hwt
  obtain ⟨cq, kq, qa, qb, qc⟩ := isOf K.2.1 eT E
  obtain ⟨v, _, ⟨T', L', k', n'⟩, -, X', ⟨Lc, hQ, l1, l2, l3⟩, q⟩ := X.virtualBack K.1 (y := x) (z := y) K.2.2.2.2.1 (mvT K.2.1 wl) (mvT K.2.1 wd) (notFace_of_selects (args := #[]) (mvT K.2.1 wx)) (mvT K.2.1 wsel) (mvT K.2.1 ws) hy (backOf (W := (rest.map fun v => v.category).sum) (Q := fun v hh L => Qc v hh ∧ Fr n0 L) (M []) K.2.1 wc wi hf hl) qa qc (g := mkF m pc Ls st) rfl (hsz.trans K.2.2.2.1.symm) (Steps.refl _) (argsL := argsL) (rest := rest) hlen hst (by show 2 * 0 + _ ≤ _; omega) (hb K.2.2.1 hd) (fun _ _ => ⟨rfl, eT, hc, hs⟩)
  dsimp only [Pt.U, Pt.locs, Pt.cells, Pt.slots] at X' l1 l2 l3 q hQ
  subst l1 l2 l3
  exact Go.stp (fun _ k => q.trans k) (G T' T'.heap v ⟨_, X', Fr.app N hQ.2, rfl, z⟩ hQ.1)
theorem g_callP {y : MethodName} {yb : ByteArray} {yl : Nat} {yr : Option FieldType} {rm : Room} {argsL : List Value} {Qc : Option Value → Heap → Prop} {index : Nat} {a : Addr} (M : Mt l Z y yb yl yr rm n0 (.ref a :: argsL).toArray h Qc) (K : Cx p s m meth c Z own nm bytes maxL ret) (W : Wd p l e R s m args below meth c n0 T h cs ss) (hcell : ∃ c : Cell, h[a]? = some c ∧ ∀ q, c.vm ≠ .statics q)
    (wl : (Jvm.Cond.methodLink own index y).before a0 Z = true) (ws : (Jvm.Cond.instanceMethod y).before a0 Z = true) {kk : Nat} (wk : (Jvm.Cond.instantiable y.cls kk).before a0 Z = true) (wp : (Jvm.Cond.privateMethod y).before a0 Z = true) (wi : (Jvm.Cond.initialized y.cls).before a0 Z = true) (wc : (Jvm.Cond.code y yb yl yr).before a0 Z = true) (hy : y.cls ≠ "java/lang/invoke/MethodHandle" ∧ y.cls ≠ "java/lang/invoke/VarHandle")
    (hlen : ∀ sig, parseMethodDescriptor y.desc = some sig → argsL.length = sig.parameters.length) (hd : decode bytes pc = .ok (.invokevirtual index, 3)) (hp : pc + 3 = pc') (hst : st = argsL.reverse ++ .ref a :: rest) (hsz : Ls.size = maxL) (hf : rm.frames + 1 ≤ R.frames) {wt : Nat} (hwt : (rest.map fun v => v.category).sum = wt) (hl : wt + (yl + 11) + rm.locals ≤ R.locals) (hc : cs + rm.cells ≤ R.cells) (hs : ss + rm.slots ≤ R.slots)
    (G : ∀ T' h' v, Wd p l e R s m args below meth c n0 T' h' (cs + rm.cells) (ss + rm.slots) → Qc v h' → Go p e below s n0 Q rc rs T' (mkF m pc' Ls (v.toList ++ rest))) : Go p e below s n0 Q rc rs T (mkF m pc Ls st) := by
  obtain ⟨locs, X, N, eT, z⟩ := W; subst hp hwt
  obtain ⟨cl, hc1, hc2⟩ := hcell
  have wk' : (Jvm.Cond.instantiable y.cls kk).before args s = true := mvT K.2.1 wk
  obtain ⟨ck, kc, f1, f2, f3, f4, -⟩ := Jvm.Cond.instantiable_spec wk'
  have hpr : s.PrivateAt y := Jvm.Cond.privateMethod_at (mvP K.2.1 wp (args := #[]))
  have hsel : (Jvm.Cond.selects y.cls y y).before args s = true := Jvm.Stand.selects_self_of_private f1 f2 (by simpa using (Bool.or_eq_false_iff.mp f4).1) hpr (mvT K.2.1 ws) hy
  obtain ⟨v, _, ⟨T', L', k', n'⟩, -, X', ⟨Lc, hQ, l1, l2, l3⟩, q⟩ := X.privateBack K.1 (y := y) K.2.2.2.2.1 (mvT K.2.1 wl) (mvT K.2.1 ws) hsel hpr (mvT K.2.1 wc) hy (backOf (W := (rest.map fun v => v.category).sum) (Q := fun v hh L => Qc v hh ∧ Fr n0 L) (M []) K.2.1 wc wi hf hl) (g := mkF m pc Ls st) rfl (hsz.trans K.2.2.2.1.symm) (Steps.refl _) (a := a) (by rw [eT]; exact hc1) hc2 (argsL := argsL) (rest := rest) hlen hst (by show 2 * 0 + _ ≤ _; omega) (hb K.2.2.1 hd) (fun _ _ => ⟨rfl, eT, hc, hs⟩)
  dsimp only [Pt.U, Pt.locs, Pt.cells, Pt.slots] at X' l1 l2 l3 q hQ
  subst l1 l2 l3
  exact Go.stp (fun _ k => q.trans k) (G T' T'.heap v ⟨_, X', Fr.app N hQ.2, rfl, z⟩ hQ.1)
/-! arrays: n places, place j holds f j -/
def AyI (Z : State) (h : Heap) (a : Addr) (ty : FieldType) (n : Nat) (f : Nat → Int32) : Prop := ∃ cl : Cell, Arr Z h a cl ty ∧ cl.slots.size = n ∧ ∀ j, j < n → cl.slots[j]? = some (.int (f j))
def AyJ (Z : State) (h : Heap) (a : Addr) (n : Nat) (f : Nat → Int64) : Prop := ∃ cl : Cell, Arr Z h a cl .long ∧ cl.slots.size = n ∧ ∀ j, j < n → cl.slots[j]? = some (.long (f j))
def upd {α : Type} (f : Nat → α) (k : Nat) (v : α) : Nat → α := fun j => if j = k then v else f j
theorem upd_same {α : Type} (f : Nat → α) (k : Nat) (v : α) : upd f k v k = v := if_pos rfl
theorem upd_ne {α : Type} (f : Nat → α) {k j : Nat} (v : α) (q : j ≠ k) : upd f k v j = f j := if_neg q
theorem own_ix {j : Int32} {k : Nat} (hj : j.toInt = (k : Int)) : ¬ j < 0 ∧ j.toNatClampNeg = k := by
  refine ⟨fun q => ?_, ?_⟩
  · rw [Int32.lt_iff_toInt_lt, hj, show (0 : Int32).toInt = 0 from rfl] at q; omega
  · rw [Int32.toNatClampNeg, hj]; rfl
theorem own_in {j : Int32} {k n : Nat} (hj : j.toInt = (k : Int)) (hk : k < n) {cl : Cell} (hs : cl.slots.size = n) : ¬ (j < 0 ∨ cl.slots.size ≤ j.toNatClampNeg) := by
  rw [(own_ix hj).2, hs]
  exact fun q => q.elim (own_ix hj).1 (fun q => by omega)
theorem AyI.lt {a : Addr} {ty : FieldType} {n : Nat} {f : Nat → Int32} (A : AyI Z h a ty n f) : a < h.size := by obtain ⟨_, q, -⟩ := A; exact q.lt
theorem AyJ.lt {a : Addr} {n : Nat} {f : Nat → Int64} (A : AyJ Z h a n f) : a < h.size := by obtain ⟨_, q, -⟩ := A; exact q.lt
theorem AyI.ext {h' : Heap} {a : Addr} {ty : FieldType} {n : Nat} {f : Nat → Int32} (A : AyI Z h a ty n f) (E : Ext h h') : AyI Z h' a ty n f := by obtain ⟨cl, q, r⟩ := A; exact ⟨cl, q.ext E, r⟩
theorem AyJ.ext {h' : Heap} {a : Addr} {n : Nat} {f : Nat → Int64} (A : AyJ Z h a n f) (E : Ext h h') : AyJ Z h' a n f := by obtain ⟨cl, q, r⟩ := A; exact ⟨cl, q.ext E, r⟩
theorem AyI.other {h' : Heap} {a b : Addr} {sl : Nat} {v : Value} {ty : FieldType} {n : Nat} {f : Nat → Int32} (A : AyI Z h b ty n f) (w : Wr h h' a sl v) (q : b ≠ a) : AyI Z h' b ty n f := by obtain ⟨cl, x, r⟩ := A; exact ⟨cl, x.other w q, r⟩
theorem AyJ.other {h' : Heap} {a b : Addr} {sl : Nat} {v : Value} {n : Nat} {f : Nat → Int64} (A : AyJ Z h b n f) (w : Wr h h' a sl v) (q : b ≠ a) : AyJ Z h' b n f := by obtain ⟨cl, x, r⟩ := A; exact ⟨cl, x.other w q, r⟩
theorem AyI.keep {h' : Heap} {a : Addr} {ws : List Addr} {ty : FieldType} {n : Nat} {f : Nat → Int32} (A : AyI Z h a ty n f) (k : Keep h h' ws) (q : a ∉ ws) : AyI Z h' a ty n f := by obtain ⟨cl, x, r⟩ := A; exact ⟨cl, ⟨k.2.1 a cl x.1 q, x.2⟩, r⟩
theorem AyJ.keep {h' : Heap} {a : Addr} {ws : List Addr} {n : Nat} {f : Nat → Int64} (A : AyJ Z h a n f) (k : Keep h h' ws) (q : a ∉ ws) : AyJ Z h' a n f := by obtain ⟨cl, x, r⟩ := A; exact ⟨cl, ⟨k.2.1 a cl x.1 q, x.2⟩, r⟩
theorem AyI.same {h' : Heap} {a : Addr} {k : Nat} {x : Int32} {ty : FieldType} {n : Nat} {f : Nat → Int32} (A : AyI Z h a ty n f) (w : Wr h h' a k (.int x)) : AyI Z h' a ty n (upd f k x) := by
  obtain ⟨cl, q, r1, r2⟩ := A
  refine ⟨_, q.same w, by simpa [Cell.setSlot] using r1, fun j hj => ?_⟩
  by_cases e : j = k
  · subst e; rw [upd_same]; simp [Cell.setSlot, Array.getElem?_setIfInBounds, r1, hj]
  · rw [upd_ne f x e, ← r2 j hj]; simp [Cell.setSlot, Array.getElem?_setIfInBounds, Ne.symm e]
theorem AyJ.same {h' : Heap} {a : Addr} {k : Nat} {x : Int64} {n : Nat} {f : Nat → Int64} (A : AyJ Z h a n f) (w : Wr h h' a k (.long x)) : AyJ Z h' a n (upd f k x) := by
  obtain ⟨cl, q, r1, r2⟩ := A
  refine ⟨_, q.same w, by simpa [Cell.setSlot] using r1, fun j hj => ?_⟩
  by_cases e : j = k
  · subst e; rw [upd_same]; simp [Cell.setSlot, Array.getElem?_setIfInBounds, r1, hj]
  · rw [upd_ne f x e, ← r2 j hj]; simp [Cell.setSlot, Array.getElem?_setIfInBounds, Ne.symm e]
theorem g_alenI (K : Cx p s m meth c Z own nm bytes maxL ret) (W : Wd p l e R s m args below meth c n0 T h cs ss) {a : Addr} {ty : FieldType} {n : Nat} {f : Nat → Int32} (A : AyI Z h a ty n f) {v : Int32} (hv : Int32.ofNat n = v) (hd : decode bytes pc = .ok (.arraylength, 1)) (hp : pc + 1 = pc')
    (G : Go p e below s n0 Q rc rs T (mkF m pc' Ls (.int v :: st))) : Go p e below s n0 Q rc rs T (mkF m pc Ls (.ref a :: st)) := by
  obtain ⟨_, X, N, eT, z⟩ := W; subst hp
  obtain ⟨cl, q, r1, r2⟩ := A
  refine Go.stp (g' := mkF m (pc + 1) Ls (.int v :: st)) (fun _ hr => X.arraylength K.1 (cell := cl) (by rw [eT]; exact q.1) (State.isArrayOf_alike K.2.1.alike q.2.1) (g := mkF m pc Ls (.ref a :: st)) rfl (rest := st) rfl (hb K.2.2.1 hd) _ ?_) G
  rw [r1, show n.toInt32 = v from hv]
  exact hr
theorem g_alenJ (K : Cx p s m meth c Z own nm bytes maxL ret) (W : Wd p l e R s m args below meth c n0 T h cs ss) {a : Addr} {n : Nat} {f : Nat → Int64} (A : AyJ Z h a n f) {v : Int32} (hv : Int32.ofNat n = v) (hd : decode bytes pc = .ok (.arraylength, 1)) (hp : pc + 1 = pc')
    (G : Go p e below s n0 Q rc rs T (mkF m pc' Ls (.int v :: st))) : Go p e below s n0 Q rc rs T (mkF m pc Ls (.ref a :: st)) := by
  obtain ⟨_, X, N, eT, z⟩ := W; subst hp
  obtain ⟨cl, q, r1, r2⟩ := A
  refine Go.stp (g' := mkF m (pc + 1) Ls (.int v :: st)) (fun _ hr => X.arraylength K.1 (cell := cl) (by rw [eT]; exact q.1) (State.isArrayOf_alike K.2.1.alike q.2.1) (g := mkF m pc Ls (.ref a :: st)) rfl (rest := st) rfl (hb K.2.2.1 hd) _ ?_) G
  rw [r1, show n.toInt32 = v from hv]
  exact hr
theorem g_iaload (K : Cx p s m meth c Z own nm bytes maxL ret) (W : Wd p l e R s m args below meth c n0 T h cs ss) {a : Addr} {n k : Nat} {f : Nat → Int32} {j v : Int32} (A : AyI Z h a .int n f) (hj : j.toInt = (k : Int)) (hk : k < n) (hv : f k = v) (hd : decode bytes pc = .ok (.iaload, 1)) (hp : pc + 1 = pc')
    (G : Go p e below s n0 Q rc rs T (mkF m pc' Ls (.int v :: st))) : Go p e below s n0 Q rc rs T (mkF m pc Ls (.int j :: .ref a :: st)) := by
  obtain ⟨_, X, N, eT, z⟩ := W; subst hp hv
  obtain ⟨cl, q, r1, r2⟩ := A
  exact Go.stp (g' := mkF m (pc + 1) Ls (.int (f k) :: st)) (fun _ hr => X.iaload K.1 (by rw [eT]; exact q.1) (State.isArrayOf_alike K.2.1.alike q.2.1) q.2.2 (own_in hj hk r1) (by rw [(own_ix hj).2]; exact r2 k hk) (g := mkF m pc Ls (.int j :: .ref a :: st)) rfl rfl (hb K.2.2.1 hd) _ hr) G
theorem g_baload (K : Cx p s m meth c Z own nm bytes maxL ret) (W : Wd p l e R s m args below meth c n0 T h cs ss) {a : Addr} {n k : Nat} {f : Nat → Int32} {j v : Int32} (A : AyI Z h a .byte n f) (hj : j.toInt = (k : Int)) (hk : k < n) (hv : f k = v) (hd : decode bytes pc = .ok (.baload, 1)) (hp : pc + 1 = pc')
    (G : Go p e below s n0 Q rc rs T (mkF m pc' Ls (.int v :: st))) : Go p e below s n0 Q rc rs T (mkF m pc Ls (.int j :: .ref a :: st)) := by
  obtain ⟨_, X, N, eT, z⟩ := W; subst hp hv
  obtain ⟨cl, q, r1, r2⟩ := A
  exact Go.stp (g' := mkF m (pc + 1) Ls (.int (f k) :: st)) (fun _ hr => X.baloadBytes K.1 (by rw [eT]; exact q.1) (State.isArrayOf_alike K.2.1.alike q.2.1) q.2.2 (own_in hj hk r1) (by rw [(own_ix hj).2]; exact r2 k hk) (g := mkF m pc Ls (.int j :: .ref a :: st)) rfl rfl (hb K.2.2.1 hd) _ hr) G
theorem g_zaload (K : Cx p s m meth c Z own nm bytes maxL ret) (W : Wd p l e R s m args below meth c n0 T h cs ss) {a : Addr} {n k : Nat} {f : Nat → Int32} {j v : Int32} (A : AyI Z h a .boolean n f) (hj : j.toInt = (k : Int)) (hk : k < n) (hv : f k = v) (hd : decode bytes pc = .ok (.baload, 1)) (hp : pc + 1 = pc')
    (G : Go p e below s n0 Q rc rs T (mkF m pc' Ls (.int v :: st))) : Go p e below s n0 Q rc rs T (mkF m pc Ls (.int j :: .ref a :: st)) := by
  obtain ⟨_, X, N, eT, z⟩ := W; subst hp hv
  obtain ⟨cl, q, r1, r2⟩ := A
  exact Go.stp (g' := mkF m (pc + 1) Ls (.int (f k) :: st)) (fun _ hr => X.baloadBooleans K.1 (by rw [eT]; exact q.1) (State.isArrayOf_alike K.2.1.alike q.2.1) q.2.2 (own_in hj hk r1) (by rw [(own_ix hj).2]; exact r2 k hk) (g := mkF m pc Ls (.int j :: .ref a :: st)) rfl rfl (hb K.2.2.1 hd) _ hr) G
theorem g_laload (K : Cx p s m meth c Z own nm bytes maxL ret) (W : Wd p l e R s m args below meth c n0 T h cs ss) {a : Addr} {n k : Nat} {f : Nat → Int64} {j : Int32} {v : Int64} (A : AyJ Z h a n f) (hj : j.toInt = (k : Int)) (hk : k < n) (hv : f k = v) (hd : decode bytes pc = .ok (.laload, 1)) (hp : pc + 1 = pc')
    (G : Go p e below s n0 Q rc rs T (mkF m pc' Ls (.long v :: st))) : Go p e below s n0 Q rc rs T (mkF m pc Ls (.int j :: .ref a :: st)) := by
  obtain ⟨_, X, N, eT, z⟩ := W; subst hp hv
  obtain ⟨cl, q, r1, r2⟩ := A
  exact Go.stp (g' := mkF m (pc + 1) Ls (.long (f k) :: st)) (fun _ hr => X.laload K.1 (by rw [eT]; exact q.1) (State.isArrayOf_alike K.2.1.alike q.2.1) q.2.2 (own_in hj hk r1) (by rw [(own_ix hj).2]; exact r2 k hk) (g := mkF m pc Ls (.int j :: .ref a :: st)) rfl rfl (hb K.2.2.1 hd) _ hr) G
theorem g_bastore (K : Cx p s m meth c Z own nm bytes maxL ret) (W : Wd p l e R s m args below meth c n0 T h cs ss) {a : Addr} {n k : Nat} {f : Nat → Int32} {j x : Int32} (A : AyI Z h a .byte n f) (hj : j.toInt = (k : Int)) (hk : k < n) (ha : n0 ≤ a) (hd : decode bytes pc = .ok (.bastore, 1)) (hp : pc + 1 = pc')
    (G : ∀ T' h', Wd p l e R s m args below meth c n0 T' h' cs ss → Wr h h' a k (.int x.toInt8.toInt32) → AyI Z h' a .byte n (upd f k x.toInt8.toInt32) → Go p e below s n0 Q rc rs T' (mkF m pc' Ls st)) : Go p e below s n0 Q rc rs T (mkF m pc Ls (.int x :: .int j :: .ref a :: st)) := by
  obtain ⟨locs, X, N, eT, z⟩ := W; subst hp
  have A0 := A
  obtain ⟨cl, q, r1, r2⟩ := A
  obtain ⟨T', h', X', e', w', st'⟩ := stB X K.1 K.2.1 eT q (own_in hj hk r1) (g := mkF m pc Ls (.int x :: .int j :: .ref a :: st)) rfl rfl (hb K.2.2.1 hd)
  rw [(own_ix hj).2] at w' X'
  exact Go.stp st' (G T' h' ⟨_, X', Fr.snoc X' N ha, e', z⟩ w' (A0.same w'))
theorem g_zastore (K : Cx p s m meth c Z own nm bytes maxL ret) (W : Wd p l e R s m args below meth c n0 T h cs ss) {a : Addr} {n k : Nat} {f : Nat → Int32} {j x : Int32} (A : AyI Z h a .boolean n f) (hj : j.toInt = (k : Int)) (hk : k < n) (ha : n0 ≤ a) (hd : decode bytes pc = .ok (.bastore, 1)) (hp : pc + 1 = pc')
    (G : ∀ T' h', Wd p l e R s m args below meth c n0 T' h' cs ss → Wr h h' a k (.int (x &&& 1)) → AyI Z h' a .boolean n (upd f k (x &&& 1)) → Go p e below s n0 Q rc rs T' (mkF m pc' Ls st)) : Go p e below s n0 Q rc rs T (mkF m pc Ls (.int x :: .int j :: .ref a :: st)) := by
  obtain ⟨locs, X, N, eT, z⟩ := W; subst hp
  have A0 := A
  obtain ⟨cl, q, r1, r2⟩ := A
  obtain ⟨T', h', X', e', w', st'⟩ := stZ X K.1 K.2.1 eT q (own_in hj hk r1) (g := mkF m pc Ls (.int x :: .int j :: .ref a :: st)) rfl rfl (hb K.2.2.1 hd)
  rw [(own_ix hj).2] at w' X'
  exact Go.stp st' (G T' h' ⟨_, X', Fr.snoc X' N ha, e', z⟩ w' (A0.same w'))
theorem g_iastore (K : Cx p s m meth c Z own nm bytes maxL ret) (W : Wd p l e R s m args below meth c n0 T h cs ss) {a : Addr} {n k : Nat} {f : Nat → Int32} {j x : Int32} (A : AyI Z h a .int n f) (hj : j.toInt = (k : Int)) (hk : k < n) (ha : n0 ≤ a) (hd : decode bytes pc = .ok (.iastore, 1)) (hp : pc + 1 = pc')
    (G : ∀ T' h', Wd p l e R s m args below meth c n0 T' h' cs ss → Wr h h' a k (.int x) → AyI Z h' a .int n (upd f k x) → Go p e below s n0 Q rc rs T' (mkF m pc' Ls st)) : Go p e below s n0 Q rc rs T (mkF m pc Ls (.int x :: .int j :: .ref a :: st)) := by
  obtain ⟨locs, X, N, eT, z⟩ := W; subst hp
  have A0 := A
  obtain ⟨cl, q, r1, r2⟩ := A
  obtain ⟨T', h', X', e', w', st'⟩ := stI X K.1 K.2.1 eT q (own_in hj hk r1) (g := mkF m pc Ls (.int x :: .int j :: .ref a :: st)) rfl rfl (hb K.2.2.1 hd)
  rw [(own_ix hj).2] at w' X'
  exact Go.stp st' (G T' h' ⟨_, X', Fr.snoc X' N ha, e', z⟩ w' (A0.same w'))
theorem g_lastore (K : Cx p s m meth c Z own nm bytes maxL ret) (W : Wd p l e R s m args below meth c n0 T h cs ss) {a : Addr} {n k : Nat} {f : Nat → Int64} {j : Int32} {x : Int64} (A : AyJ Z h a n f) (hj : j.toInt = (k : Int)) (hk : k < n) (ha : n0 ≤ a) (hd : decode bytes pc = .ok (.lastore, 1)) (hp : pc + 1 = pc')
    (G : ∀ T' h', Wd p l e R s m args below meth c n0 T' h' cs ss → Wr h h' a k (.long x) → AyJ Z h' a n (upd f k x) → Go p e below s n0 Q rc rs T' (mkF m pc' Ls st)) : Go p e below s n0 Q rc rs T (mkF m pc Ls (.long x :: .int j :: .ref a :: st)) := by
  obtain ⟨locs, X, N, eT, z⟩ := W; subst hp
  have A0 := A
  obtain ⟨cl, q, r1, r2⟩ := A
  obtain ⟨T', h', X', e', w', st'⟩ := stJ X K.1 K.2.1 eT q (own_in hj hk r1) (g := mkF m pc Ls (.long x :: .int j :: .ref a :: st)) rfl rfl (hb K.2.2.1 hd)
  rw [(own_ix hj).2] at w' X'
  exact Go.stp st' (G T' h' ⟨_, X', Fr.snoc X' N ha, e', z⟩ w' (A0.same w'))
theorem g_newI (K : Cx p s m meth c Z own nm bytes maxL ret) (W : Wd p l e R s m args below meth c n0 T h cs ss) {aty : ArrayType} {ty : FieldType} {j : Int32} {n cap : Nat} (w : (Jvm.Cond.arrayClass ty).before a0 Z = true) (hty : newarray.typeOf aty = ty) (hdf : defaultValue ty = .int 0) (hj : j.toInt = (n : Int)) (hcap : n ≤ cap) (hd : decode bytes pc = .ok (.newarray aty, 2)) (hp : pc + 2 = pc') (hb8 : cap * 8 ≤ 536870912) (hc : cs + 1 ≤ R.cells) (hl : ss + cap ≤ R.slots)
    (G : ∀ T' h' a, Wd p l e R s m args below meth c n0 T' h' (cs + 1) (ss + cap) → Ext h h' → a = h.size → n0 ≤ a → AyI Z h' a ty n (fun _ => 0) → Go p e below s n0 Q rc rs T' (mkF m pc' Ls (.ref a :: st))) : Go p e below s n0 Q rc rs T (mkF m pc Ls (.int j :: st)) := by
  have zz := W.sz
  obtain ⟨locs, X, N, eT, z⟩ := W; subst hp hty
  obtain ⟨T', h', kA, X', e', E, A, q⟩ := newP X K.1 K.2.1 w eT (g := mkF m pc Ls (.int j :: st)) rfl (hb K.2.2.1 hd) rfl (own_ix hj).1 (cap := cap) (by rw [(own_ix hj).2]; exact hcap) hb8 hc hl
  refine Go.stp q (G T' h' _ ⟨_, X', N, e', z⟩ E rfl zz ⟨_, A, by rw [sz_new, (own_ix hj).2], fun i hi => ?_⟩)
  rw [← hdf]
  simp [newA, (own_ix hj).2, hi]
theorem g_newJ (K : Cx p s m meth c Z own nm bytes maxL ret) (W : Wd p l e R s m args below meth c n0 T h cs ss) {j : Int32} {n cap : Nat} (w : (Jvm.Cond.arrayClass .long).before a0 Z = true) (hj : j.toInt = (n : Int)) (hcap : n ≤ cap) (hd : decode bytes pc = .ok (.newarray .long, 2)) (hp : pc + 2 = pc') (hb8 : cap * 8 ≤ 536870912) (hc : cs + 1 ≤ R.cells) (hl : ss + cap ≤ R.slots)
    (G : ∀ T' h' a, Wd p l e R s m args below meth c n0 T' h' (cs + 1) (ss + cap) → Ext h h' → a = h.size → n0 ≤ a → AyJ Z h' a n (fun _ => 0) → Go p e below s n0 Q rc rs T' (mkF m pc' Ls (.ref a :: st))) : Go p e below s n0 Q rc rs T (mkF m pc Ls (.int j :: st)) := by
  have zz := W.sz
  obtain ⟨locs, X, N, eT, z⟩ := W; subst hp
  obtain ⟨T', h', kA, X', e', E, A, q⟩ := newP X K.1 K.2.1 (aty := .long) w eT (g := mkF m pc Ls (.int j :: st)) rfl (hb K.2.2.1 hd) rfl (own_ix hj).1 (cap := cap) (by rw [(own_ix hj).2]; exact hcap) hb8 hc hl
  refine Go.stp q (G T' h' _ ⟨_, X', N, e', z⟩ E rfl zz ⟨_, A, by rw [sz_new, (own_ix hj).2], fun i hi => ?_⟩)
  rw [show (Value.long 0) = defaultValue .long from rfl]
  simp [newA, (own_ix hj).2, hi, newarray.typeOf]
end OwnBase
section OwnObj
variable {p : Program} {l : Launch} {e : Env} {R : Room} {s : State} {m : MethodId} {args : Array Value} {below : List Frame} {meth : Method} {c : Code} {Z : State} {own nm : String} {bytes : ByteArray} {maxL : Nat} {ret : Option FieldType} {T : State} {h : Heap} {cs ss n0 : Nat} {Q : Option Value → Heap → Prop} {rc rs : Nat} {pc pc' pf pt : Nat} {Ls Ls' : Array Slot} {st rest : List Value} {a0 : Array Value}
theorem g_initO (K : Cx p s m meth c Z own nm bytes maxL ret) (W : Wd p l e R s m args below meth c n0 T h cs ss) {idx : Nat} {a : Addr} (w1 : (Jvm.Cond.methodLink own idx Lib.objectInit).before a0 Z = true) (w2 : (Jvm.Cond.instanceMethod Lib.objectInit).before a0 Z = true) (w3 : (Jvm.Cond.code Lib.objectInit object_method_1_code 1 none).before a0 Z = true) (hsz : Ls.size = maxL) (hd : decode bytes pc = .ok (.invokespecial idx, 3)) (hp : pc + 3 = pc') (hf : 1 ≤ R.frames) {wt : Nat} (hwt : (st.map fun v => v.category).sum = wt) (hl : wt + 12 ≤ R.locals)
    (G : ∀ T', Wd p l e R s m args below meth c n0 T' h cs ss → Go p e below s n0 Q rc rs T' (mkF m pc' Ls st)) : Go p e below s n0 Q rc rs T (mkF m pc Ls (.ref a :: st)) := by
  obtain ⟨locs, X, N, eT, z⟩ := W; subst hp hwt
  obtain ⟨T', X', e', q⟩ := initO X K.1 K.2.1 K.2.2.2.2.1 w1 w2 w3 eT (g := mkF m pc Ls (.ref a :: st)) rfl (hsz.trans K.2.2.2.1.symm) rfl (hb K.2.2.1 hd) hf (W := (st.map fun v => v.category).sum) (by show 2 * 0 + _ ≤ _; omega) hl
  exact Go.stp q (G T' ⟨locs, X', N, e', z⟩)
end OwnObj
section OwnCp
variable {p : Program} {l : Launch} {e : Env} {R : Room} {s : State} {m : MethodId} {args : Array Value} {below : List Frame} {meth : Method} {c : Code} {Z : State} {own nm : String} {bytes : ByteArray} {maxL : Nat} {ret : Option FieldType} {T : State} {h : Heap} {cs ss n0 : Nat} {Q : Option Value → Heap → Prop} {rc rs : Nat} {pc pc' pf pt : Nat} {Ls Ls' : Array Slot} {st rest : List Value} {a0 : Array Value}
theorem own_cplist {α : Type} (f g : Nat → α) (d : α) {n n' len : Nat} (h1 : len ≤ n) (h2 : len ≤ n') (j : Nat) (hj : j < n') :
    ((((List.range n').map g).take 0 ++ ((List.range len).map fun i => ((List.range n).map f).getD (0 + i) d)) ++ ((List.range n').map g).drop (0 + len)).getD j d = if j < len then f j else g j := by
  simp only [List.take_zero, List.nil_append, List.getD_eq_getElem?_getD]
  by_cases q : j < len
  · rw [if_pos q, List.getElem?_append_left (by simp; exact q)]
    simp [q, show j < n by omega]
  · rw [if_neg q, List.getElem?_append_right (by simp; omega)]
    simp [show len + (j - len) = j by omega, hj]
theorem AyI.arv {a : Addr} {n : Nat} {f : Nat → Int32} (hn : n < 2147483648) (A : AyI Z h a .int n f) : ∃ k, Arv Z h a k .int (Int32.ofNat n) ((List.range n).map fun j => .int (f j)) (.int 0) := by
  obtain ⟨cl, q, r1, r2⟩ := A
  have z := own_ix (Int32.toInt_ofNat_of_lt hn)
  have e : ∀ j, j < n → ((List.range n).map fun j => Value.int (f j)).getD j (.int 0) = .int (f j) := fun j hj => by simp [List.getD_eq_getElem?_getD, hj]
  refine ⟨cl.cls, cl, q, rfl, by rw [r1, z.2], z.1, fun j hj => ?_, fun j hj => ?_⟩
  · rw [r1] at hj; rw [e j hj]; exact r2 j hj
  · rw [r1] at hj; rw [e j hj]; rfl
theorem AyJ.arv {a : Addr} {n : Nat} {f : Nat → Int64} (hn : n < 2147483648) (A : AyJ Z h a n f) : ∃ k, Arv Z h a k .long (Int32.ofNat n) ((List.range n).map fun j => .long (f j)) (.int 0) := by
  obtain ⟨cl, q, r1, r2⟩ := A
  have z := own_ix (Int32.toInt_ofNat_of_lt hn)
  have e : ∀ j, j < n → ((List.range n).map fun j => Value.long (f j)).getD j (.int 0) = .long (f j) := fun j hj => by simp [List.getD_eq_getElem?_getD, hj]
  refine ⟨cl.cls, cl, q, rfl, by rw [r1, z.2], z.1, fun j hj => ?_, fun j hj => ?_⟩
  · rw [r1] at hj; rw [e j hj]; exact r2 j hj
  · rw [r1] at hj; rw [e j hj]; rfl
theorem g_cpI (K : Cx p s m meth c Z own nm bytes maxL ret) (W : Wd p l e R s m args below meth c n0 T h cs ss) {index : Nat} {a b : Addr} {n n' len : Nat} {f g : Nat → Int32} {nn : Int32} (w1 : (Jvm.Cond.methodLink own index Jvm.Stand.acN).before a0 Z = true) (w2 : (Jvm.Cond.native Jvm.Stand.acN).before a0 Z = true) (w3 : (Jvm.Cond.static Jvm.Stand.acN).before a0 Z = true) (w4 : (Jvm.Cond.initialized "java/lang/System").before a0 Z = true)
    (A : AyI Z h a .int n f) (B : AyI Z h b .int n' g) (hn : n < 2147483648) (hn' : n' < 2147483648) (hm : nn.toInt = (len : Int)) (h1 : len ≤ n) (h2 : len ≤ n') (ge : n0 ≤ b) (hsz : Ls.size = maxL) (hd : decode bytes pc = .ok (.invokestatic index, 3)) (hp : pc + 3 = pc') (hf : 1 ≤ R.frames) {wt : Nat} (hwt : (st.map fun v => v.category).sum = wt) (hl : wt + 18 ≤ R.locals)
    (G : ∀ T' h', Wd p l e R s m args below meth c n0 T' h' cs ss → Keep h h' [b] → AyI Z h' b .int n' (fun j => if j < len then f j else g j) → Go p e below s n0 Q rc rs T' (mkF m pc' Ls st)) : Go p e below s n0 Q rc rs T (mkF m pc Ls (.int nn :: .int 0 :: .ref b :: .int 0 :: .ref a :: st)) := by
  obtain ⟨locs, X, N, eT, z⟩ := W; subst hp hwt
  obtain ⟨k1, A1⟩ := A.arv hn
  obtain ⟨k2, B1⟩ := B.arv hn'
  have zn := own_ix (Int32.toInt_ofNat_of_lt hn); have zn' := own_ix (Int32.toInt_ofNat_of_lt hn'); have zl := own_ix hm
  have z0 := own_ix (j := 0) (k := 0) rfl
  obtain ⟨T', h', L, X', e', N', kq, B2, q⟩ := cpA X K.1 K.2.1 K.2.2.2.2.1 w1 w2 w3 w4 eT A1 B1 (Or.inl ⟨rfl, rfl⟩) z0.1 z0.1 zl.1 (by rw [z0.2, zl.2, zn.2]; omega) (by rw [z0.2, zl.2, zn'.2]; omega) rfl (by rw [z0.2, zl.2]; simp; exact h2) N ge (g := mkF m pc Ls (.int nn :: .int 0 :: .ref b :: .int 0 :: .ref a :: st)) rfl (hsz.trans K.2.2.2.1.symm) rfl (hb K.2.2.1 hd) hf (W := (st.map fun v => v.category).sum) (by show 2 * 0 + _ ≤ _; omega) (by rw [show nativeFrameWords "java/lang/System" "arraycopy" 5 = 7 by decide +kernel]; exact hl)
  refine Go.stp q (G T' h' ⟨L, X', N', e', z⟩ kq ?_)
  obtain ⟨cl, r0, -, r1, -, r2, -⟩ := B2
  rw [zn'.2] at r1
  refine ⟨cl, r0, r1, fun j hj => ?_⟩
  have y := r2 j (by rw [r1]; exact hj)
  rw [z0.2, zl.2] at y
  rw [y, own_cplist (fun j => Value.int (f j)) (fun j => Value.int (g j)) (.int 0) h1 h2 j hj]
  show _ = some (Value.int (if j < len then f j else g j))
  by_cases x : j < len
  · rw [if_pos x, if_pos x]
  · rw [if_neg x, if_neg x]
theorem g_cpJ (K : Cx p s m meth c Z own nm bytes maxL ret) (W : Wd p l e R s m args below meth c n0 T h cs ss) {index : Nat} {a b : Addr} {n n' len : Nat} {f g : Nat → Int64} {nn : Int32} (w1 : (Jvm.Cond.methodLink own index Jvm.Stand.acN).before a0 Z = true) (w2 : (Jvm.Cond.native Jvm.Stand.acN).before a0 Z = true) (w3 : (Jvm.Cond.static Jvm.Stand.acN).before a0 Z = true) (w4 : (Jvm.Cond.initialized "java/lang/System").before a0 Z = true)
    (A : AyJ Z h a n f) (B : AyJ Z h b n' g) (hn : n < 2147483648) (hn' : n' < 2147483648) (hm : nn.toInt = (len : Int)) (h1 : len ≤ n) (h2 : len ≤ n') (ge : n0 ≤ b) (hsz : Ls.size = maxL) (hd : decode bytes pc = .ok (.invokestatic index, 3)) (hp : pc + 3 = pc') (hf : 1 ≤ R.frames) {wt : Nat} (hwt : (st.map fun v => v.category).sum = wt) (hl : wt + 18 ≤ R.locals)
    (G : ∀ T' h', Wd p l e R s m args below meth c n0 T' h' cs ss → Keep h h' [b] → AyJ Z h' b n' (fun j => if j < len then f j else g j) → Go p e below s n0 Q rc rs T' (mkF m pc' Ls st)) : Go p e below s n0 Q rc rs T (mkF m pc Ls (.int nn :: .int 0 :: .ref b :: .int 0 :: .ref a :: st)) := by
  obtain ⟨locs, X, N, eT, z⟩ := W; subst hp hwt
  obtain ⟨k1, A1⟩ := A.arv hn
  obtain ⟨k2, B1⟩ := B.arv hn'
  have zn := own_ix (Int32.toInt_ofNat_of_lt hn); have zn' := own_ix (Int32.toInt_ofNat_of_lt hn'); have zl := own_ix hm
  have z0 := own_ix (j := 0) (k := 0) rfl
  obtain ⟨T', h', L, X', e', N', kq, B2, q⟩ := cpA X K.1 K.2.1 K.2.2.2.2.1 w1 w2 w3 w4 eT A1 B1 (Or.inl ⟨rfl, rfl⟩) z0.1 z0.1 zl.1 (by rw [z0.2, zl.2, zn.2]; omega) (by rw [z0.2, zl.2, zn'.2]; omega) rfl (by rw [z0.2, zl.2]; simp; exact h2) N ge (g := mkF m pc Ls (.int nn :: .int 0 :: .ref b :: .int 0 :: .ref a :: st)) rfl (hsz.trans K.2.2.2.1.symm) rfl (hb K.2.2.1 hd) hf (W := (st.map fun v => v.category).sum) (by show 2 * 0 + _ ≤ _; omega) (by rw [show nativeFrameWords "java/lang/System" "arraycopy" 5 = 7 by decide +kernel]; exact hl)
  refine Go.stp q (G T' h' ⟨L, X', N', e', z⟩ kq ?_)
  obtain ⟨cl, r0, -, r1, -, r2, -⟩ := B2
  rw [zn'.2] at r1
  refine ⟨cl, r0, r1, fun j hj => ?_⟩
  have y := r2 j (by rw [r1]; exact hj)
  rw [z0.2, zl.2] at y
  rw [y, own_cplist (fun j => Value.long (f j)) (fun j => Value.long (g j)) (.int 0) h1 h2 j hj]
  show _ = some (Value.long (if j < len then f j else g j))
  by_cases x : j < len
  · rw [if_pos x, if_pos x]
  · rw [if_neg x, if_neg x]
end OwnCp
theorem d8_0 : decode jdk_29_method_70_code 0 = .ok (.lload_n 0, 1) := by decide +kernel
theorem d8_1 : decode jdk_29_method_70_code 1 = .ok (.lload_n 2, 1) := by decide +kernel
theorem d8_2 : decode jdk_29_method_70_code 2 = .ok (.lcmp, 1) := by decide +kernel
theorem d8_3 : decode jdk_29_method_70_code 3 = .ok (.ifCond .gt 7, 3) := by decide +kernel
theorem d8_6 : decode jdk_29_method_70_code 6 = .ok (.lload_n 0, 1) := by decide +kernel
theorem d8_7 : decode jdk_29_method_70_code 7 = .ok (.goto 4, 3) := by decide +kernel
theorem d8_10 : decode jdk_29_method_70_code 10 = .ok (.lload_n 2, 1) := by decide +kernel
theorem d8_11 : decode jdk_29_method_70_code 11 = .ok (.lreturn, 1) := by decide +kernel
theorem pn_0 : plainName "java/util/Arrays" = true := by first | (simp [plainName, overriddenIn]; done) | decide +kernel
theorem d5_0 : decode jdk_65_method_103_code 0 = .ok (.iconst 0, 1) := by decide +kernel
theorem d5_1 : decode jdk_65_method_103_code 1 = .ok (.istore_n 2, 1) := by decide +kernel
theorem d5_2 : decode jdk_65_method_103_code 2 = .ok (.aload_n 0, 1) := by decide +kernel
theorem d5_3 : decode jdk_65_method_103_code 3 = .ok (.arraylength, 1) := by decide +kernel
theorem d5_4 : decode jdk_65_method_103_code 4 = .ok (.istore_n 3, 1) := by decide +kernel
theorem d5_5 : decode jdk_65_method_103_code 5 = .ok (.iload_n 2, 1) := by decide +kernel
theorem d5_6 : decode jdk_65_method_103_code 6 = .ok (.iload_n 3, 1) := by decide +kernel
theorem d5_7 : decode jdk_65_method_103_code 7 = .ok (.if_icmp .ge 13, 3) := by decide +kernel
theorem d5_10 : decode jdk_65_method_103_code 10 = .ok (.aload_n 0, 1) := by decide +kernel
theorem d5_11 : decode jdk_65_method_103_code 11 = .ok (.iload_n 2, 1) := by decide +kernel
theorem d5_12 : decode jdk_65_method_103_code 12 = .ok (.iload_n 1, 1) := by decide +kernel
theorem d5_13 : decode jdk_65_method_103_code 13 = .ok (.iastore, 1) := by decide +kernel
theorem d5_14 : decode jdk_65_method_103_code 14 = .ok (.iinc 2 1, 3) := by decide +kernel
theorem d5_17 : decode jdk_65_method_103_code 17 = .ok (.goto (-12), 3) := by decide +kernel
theorem d5_20 : decode jdk_65_method_103_code 20 = .ok (.return_, 1) := by decide +kernel
theorem pn_1 : plainName "com/example/ichnos/ichnos/planning/ils/MinCut" = true := by first | (simp [plainName, overriddenIn]; done) | decide +kernel
theorem d11_0 : decode prog_66_method_5_code 0 = .ok (.aload_n 3, 1) := by decide +kernel
theorem d11_1 : decode prog_66_method_5_code 1 = .ok (.iconst (-1), 1) := by decide +kernel
theorem d11_2 : decode prog_66_method_5_code 2 = .ok (.invokestatic 29, 3) := by decide +kernel
theorem d11_5 : decode prog_66_method_5_code 5 = .ok (.aload_n 3, 1) := by decide +kernel
theorem d11_6 : decode prog_66_method_5_code 6 = .ok (.iload_n 1, 1) := by decide +kernel
theorem d11_7 : decode prog_66_method_5_code 7 = .ok (.iconst 0, 1) := by decide +kernel
theorem d11_8 : decode prog_66_method_5_code 8 = .ok (.iastore, 1) := by decide +kernel
theorem d11_9 : decode prog_66_method_5_code 9 = .ok (.aload 4, 2) := by decide +kernel
theorem d11_11 : decode prog_66_method_5_code 11 = .ok (.iconst 0, 1) := by decide +kernel
theorem d11_12 : decode prog_66_method_5_code 12 = .ok (.iload_n 1, 1) := by decide +kernel
theorem d11_13 : decode prog_66_method_5_code 13 = .ok (.iastore, 1) := by decide +kernel
theorem d11_14 : decode prog_66_method_5_code 14 = .ok (.iconst 1, 1) := by decide +kernel
theorem d11_15 : decode prog_66_method_5_code 15 = .ok (.istore 5, 2) := by decide +kernel
theorem d11_17 : decode prog_66_method_5_code 17 = .ok (.iconst 0, 1) := by decide +kernel
theorem d11_18 : decode prog_66_method_5_code 18 = .ok (.istore 6, 2) := by decide +kernel
theorem d11_20 : decode prog_66_method_5_code 20 = .ok (.iload 6, 2) := by decide +kernel
theorem d11_22 : decode prog_66_method_5_code 22 = .ok (.iload 5, 2) := by decide +kernel
theorem d11_24 : decode prog_66_method_5_code 24 = .ok (.if_icmp .ge 96, 3) := by decide +kernel
theorem d11_27 : decode prog_66_method_5_code 27 = .ok (.aload 4, 2) := by decide +kernel
theorem d11_29 : decode prog_66_method_5_code 29 = .ok (.iload 6, 2) := by decide +kernel
theorem d11_31 : decode prog_66_method_5_code 31 = .ok (.iaload, 1) := by decide +kernel
theorem d11_32 : decode prog_66_method_5_code 32 = .ok (.istore 7, 2) := by decide +kernel
theorem d11_34 : decode prog_66_method_5_code 34 = .ok (.aload_n 0, 1) := by decide +kernel
theorem d11_35 : decode prog_66_method_5_code 35 = .ok (.getfield 26, 3) := by decide +kernel
theorem d11_38 : decode prog_66_method_5_code 38 = .ok (.iload 7, 2) := by decide +kernel
theorem d11_40 : decode prog_66_method_5_code 40 = .ok (.iaload, 1) := by decide +kernel
theorem d11_41 : decode prog_66_method_5_code 41 = .ok (.istore 8, 2) := by decide +kernel
theorem d11_43 : decode prog_66_method_5_code 43 = .ok (.iload 8, 2) := by decide +kernel
theorem d11_45 : decode prog_66_method_5_code 45 = .ok (.ifCond .lt 69, 3) := by decide +kernel
theorem d11_48 : decode prog_66_method_5_code 48 = .ok (.aload_n 0, 1) := by decide +kernel
theorem d11_49 : decode prog_66_method_5_code 49 = .ok (.getfield 15, 3) := by decide +kernel
theorem d11_52 : decode prog_66_method_5_code 52 = .ok (.iload 8, 2) := by decide +kernel
theorem d11_54 : decode prog_66_method_5_code 54 = .ok (.laload, 1) := by decide +kernel
theorem d11_55 : decode prog_66_method_5_code 55 = .ok (.lconst 0, 1) := by decide +kernel
theorem d11_56 : decode prog_66_method_5_code 56 = .ok (.lcmp, 1) := by decide +kernel
theorem d11_57 : decode prog_66_method_5_code 57 = .ok (.ifCond .le 45, 3) := by decide +kernel
theorem d11_60 : decode prog_66_method_5_code 60 = .ok (.aload_n 3, 1) := by decide +kernel
theorem d11_61 : decode prog_66_method_5_code 61 = .ok (.aload_n 0, 1) := by decide +kernel
theorem d11_62 : decode prog_66_method_5_code 62 = .ok (.getfield 9, 3) := by decide +kernel
theorem d11_65 : decode prog_66_method_5_code 65 = .ok (.iload 8, 2) := by decide +kernel
theorem d11_67 : decode prog_66_method_5_code 67 = .ok (.iaload, 1) := by decide +kernel
theorem d11_68 : decode prog_66_method_5_code 68 = .ok (.iaload, 1) := by decide +kernel
theorem d11_69 : decode prog_66_method_5_code 69 = .ok (.ifCond .ge 33, 3) := by decide +kernel
theorem d11_72 : decode prog_66_method_5_code 72 = .ok (.aload_n 3, 1) := by decide +kernel
theorem d11_73 : decode prog_66_method_5_code 73 = .ok (.aload_n 0, 1) := by decide +kernel
theorem d11_74 : decode prog_66_method_5_code 74 = .ok (.getfield 9, 3) := by decide +kernel
theorem d11_77 : decode prog_66_method_5_code 77 = .ok (.iload 8, 2) := by decide +kernel
theorem d11_79 : decode prog_66_method_5_code 79 = .ok (.iaload, 1) := by decide +kernel
theorem d11_80 : decode prog_66_method_5_code 80 = .ok (.aload_n 3, 1) := by decide +kernel
theorem d11_81 : decode prog_66_method_5_code 81 = .ok (.iload 7, 2) := by decide +kernel
theorem d11_83 : decode prog_66_method_5_code 83 = .ok (.iaload, 1) := by decide +kernel
theorem d11_84 : decode prog_66_method_5_code 84 = .ok (.iconst 1, 1) := by decide +kernel
theorem d11_85 : decode prog_66_method_5_code 85 = .ok (.iadd, 1) := by decide +kernel
theorem d11_86 : decode prog_66_method_5_code 86 = .ok (.iastore, 1) := by decide +kernel
theorem d11_87 : decode prog_66_method_5_code 87 = .ok (.aload 4, 2) := by decide +kernel
theorem d11_89 : decode prog_66_method_5_code 89 = .ok (.iload 5, 2) := by decide +kernel
theorem d11_91 : decode prog_66_method_5_code 91 = .ok (.iinc 5 1, 3) := by decide +kernel
theorem d11_94 : decode prog_66_method_5_code 94 = .ok (.aload_n 0, 1) := by decide +kernel
theorem d11_95 : decode prog_66_method_5_code 95 = .ok (.getfield 9, 3) := by decide +kernel
theorem d11_98 : decode prog_66_method_5_code 98 = .ok (.iload 8, 2) := by decide +kernel
theorem d11_100 : decode prog_66_method_5_code 100 = .ok (.iaload, 1) := by decide +kernel
theorem d11_101 : decode prog_66_method_5_code 101 = .ok (.iastore, 1) := by decide +kernel
theorem d11_102 : decode prog_66_method_5_code 102 = .ok (.aload_n 0, 1) := by decide +kernel
theorem d11_103 : decode prog_66_method_5_code 103 = .ok (.getfield 19, 3) := by decide +kernel
theorem d11_106 : decode prog_66_method_5_code 106 = .ok (.iload 8, 2) := by decide +kernel
theorem d11_108 : decode prog_66_method_5_code 108 = .ok (.iaload, 1) := by decide +kernel
theorem d11_109 : decode prog_66_method_5_code 109 = .ok (.istore 8, 2) := by decide +kernel
theorem d11_111 : decode prog_66_method_5_code 111 = .ok (.goto (-68), 3) := by decide +kernel
theorem d11_114 : decode prog_66_method_5_code 114 = .ok (.iinc 6 1, 3) := by decide +kernel
theorem d11_117 : decode prog_66_method_5_code 117 = .ok (.goto (-97), 3) := by decide +kernel
theorem d11_120 : decode prog_66_method_5_code 120 = .ok (.aload_n 3, 1) := by decide +kernel
theorem d11_121 : decode prog_66_method_5_code 121 = .ok (.iload_n 2, 1) := by decide +kernel
theorem d11_122 : decode prog_66_method_5_code 122 = .ok (.iaload, 1) := by decide +kernel
theorem d11_123 : decode prog_66_method_5_code 123 = .ok (.ifCond .lt 7, 3) := by decide +kernel
theorem d11_126 : decode prog_66_method_5_code 126 = .ok (.iconst 1, 1) := by decide +kernel
theorem d11_127 : decode prog_66_method_5_code 127 = .ok (.goto 4, 3) := by decide +kernel
theorem d11_130 : decode prog_66_method_5_code 130 = .ok (.iconst 0, 1) := by decide +kernel
theorem d11_131 : decode prog_66_method_5_code 131 = .ok (.ireturn, 1) := by decide +kernel
theorem pd_0 : parseMethodDescriptor "([II)V" = some ⟨[(.array .int), .int], none⟩ := by decide +kernel
theorem d14_0 : decode prog_66_method_7_code 0 = .ok (.aload_n 0, 1) := by decide +kernel
theorem d14_1 : decode prog_66_method_7_code 1 = .ok (.getfield 9, 3) := by decide +kernel
theorem d14_4 : decode prog_66_method_7_code 4 = .ok (.iload_n 1, 1) := by decide +kernel
theorem d14_5 : decode prog_66_method_7_code 5 = .ok (.iaload, 1) := by decide +kernel
theorem d14_6 : decode prog_66_method_7_code 6 = .ok (.istore 5, 2) := by decide +kernel
theorem d14_8 : decode prog_66_method_7_code 8 = .ok (.aload_n 0, 1) := by decide +kernel
theorem d14_9 : decode prog_66_method_7_code 9 = .ok (.getfield 15, 3) := by decide +kernel
theorem d14_12 : decode prog_66_method_7_code 12 = .ok (.iload_n 1, 1) := by decide +kernel
theorem d14_13 : decode prog_66_method_7_code 13 = .ok (.laload, 1) := by decide +kernel
theorem d14_14 : decode prog_66_method_7_code 14 = .ok (.lconst 0, 1) := by decide +kernel
theorem d14_15 : decode prog_66_method_7_code 15 = .ok (.lcmp, 1) := by decide +kernel
theorem d14_16 : decode prog_66_method_7_code 16 = .ok (.ifCond .le 39, 3) := by decide +kernel
theorem d14_19 : decode prog_66_method_7_code 19 = .ok (.aload 4, 2) := by decide +kernel
theorem d14_21 : decode prog_66_method_7_code 21 = .ok (.iload 5, 2) := by decide +kernel
theorem d14_23 : decode prog_66_method_7_code 23 = .ok (.iaload, 1) := by decide +kernel
theorem d14_24 : decode prog_66_method_7_code 24 = .ok (.aload 4, 2) := by decide +kernel
theorem d14_26 : decode prog_66_method_7_code 26 = .ok (.iload_n 2, 1) := by decide +kernel
theorem d14_27 : decode prog_66_method_7_code 27 = .ok (.iaload, 1) := by decide +kernel
theorem d14_28 : decode prog_66_method_7_code 28 = .ok (.iconst 1, 1) := by decide +kernel
theorem d14_29 : decode prog_66_method_7_code 29 = .ok (.iadd, 1) := by decide +kernel
theorem d14_30 : decode prog_66_method_7_code 30 = .ok (.if_icmp .ne 25, 3) := by decide +kernel
theorem d14_33 : decode prog_66_method_7_code 33 = .ok (.iload 5, 2) := by decide +kernel
theorem d14_35 : decode prog_66_method_7_code 35 = .ok (.iload_n 3, 1) := by decide +kernel
theorem d14_36 : decode prog_66_method_7_code 36 = .ok (.if_icmp .eq 15, 3) := by decide +kernel
theorem d14_39 : decode prog_66_method_7_code 39 = .ok (.aload 4, 2) := by decide +kernel
theorem d14_41 : decode prog_66_method_7_code 41 = .ok (.iload 5, 2) := by decide +kernel
theorem d14_43 : decode prog_66_method_7_code 43 = .ok (.iaload, 1) := by decide +kernel
theorem d14_44 : decode prog_66_method_7_code 44 = .ok (.aload 4, 2) := by decide +kernel
theorem d14_46 : decode prog_66_method_7_code 46 = .ok (.iload_n 3, 1) := by decide +kernel
theorem d14_47 : decode prog_66_method_7_code 47 = .ok (.iaload, 1) := by decide +kernel
theorem d14_48 : decode prog_66_method_7_code 48 = .ok (.if_icmp .ge 7, 3) := by decide +kernel
theorem d14_51 : decode prog_66_method_7_code 51 = .ok (.iconst 1, 1) := by decide +kernel
theorem d14_52 : decode prog_66_method_7_code 52 = .ok (.goto 4, 3) := by decide +kernel
theorem d14_55 : decode prog_66_method_7_code 55 = .ok (.iconst 0, 1) := by decide +kernel
theorem d14_56 : decode prog_66_method_7_code 56 = .ok (.ireturn, 1) := by decide +kernel
theorem d13_0 : decode prog_66_method_6_code 0 = .ok (.iconst 0, 1) := by decide +kernel
theorem d13_1 : decode prog_66_method_6_code 1 = .ok (.istore 6, 2) := by decide +kernel
theorem d13_3 : decode prog_66_method_6_code 3 = .ok (.iload_n 1, 1) := by decide +kernel
theorem d13_4 : decode prog_66_method_6_code 4 = .ok (.istore 7, 2) := by decide +kernel
theorem d13_6 : decode prog_66_method_6_code 6 = .ok (.lconst 0, 1) := by decide +kernel
theorem d13_7 : decode prog_66_method_6_code 7 = .ok (.lstore 8, 2) := by decide +kernel
theorem d13_9 : decode prog_66_method_6_code 9 = .ok (.lload 8, 2) := by decide +kernel
theorem d13_11 : decode prog_66_method_6_code 11 = .ok (.lconst 0, 1) := by decide +kernel
theorem d13_12 : decode prog_66_method_6_code 12 = .ok (.lcmp, 1) := by decide +kernel
theorem d13_13 : decode prog_66_method_6_code 13 = .ok (.ifCond .ne 232, 3) := by decide +kernel
theorem d13_16 : decode prog_66_method_6_code 16 = .ok (.iload 7, 2) := by decide +kernel
theorem d13_18 : decode prog_66_method_6_code 18 = .ok (.iload_n 1, 1) := by decide +kernel
theorem d13_19 : decode prog_66_method_6_code 19 = .ok (.if_icmp .ne 10, 3) := by decide +kernel
theorem d13_22 : decode prog_66_method_6_code 22 = .ok (.aload 4, 2) := by decide +kernel
theorem d13_24 : decode prog_66_method_6_code 24 = .ok (.iload_n 1, 1) := by decide +kernel
theorem d13_25 : decode prog_66_method_6_code 25 = .ok (.iaload, 1) := by decide +kernel
theorem d13_26 : decode prog_66_method_6_code 26 = .ok (.ifCond .lt 219, 3) := by decide +kernel
theorem d13_29 : decode prog_66_method_6_code 29 = .ok (.iload 7, 2) := by decide +kernel
theorem d13_31 : decode prog_66_method_6_code 31 = .ok (.iload_n 2, 1) := by decide +kernel
theorem d13_32 : decode prog_66_method_6_code 32 = .ok (.if_icmp .ne 96, 3) := by decide +kernel
theorem d13_35 : decode prog_66_method_6_code 35 = .ok (.ldc2_w 45, 3) := by decide +kernel
theorem d13_38 : decode prog_66_method_6_code 38 = .ok (.lstore 10, 2) := by decide +kernel
theorem d13_40 : decode prog_66_method_6_code 40 = .ok (.iconst 0, 1) := by decide +kernel
theorem d13_41 : decode prog_66_method_6_code 41 = .ok (.istore 12, 2) := by decide +kernel
theorem d13_43 : decode prog_66_method_6_code 43 = .ok (.iload 12, 2) := by decide +kernel
theorem d13_45 : decode prog_66_method_6_code 45 = .ok (.iload 6, 2) := by decide +kernel
theorem d13_47 : decode prog_66_method_6_code 47 = .ok (.if_icmp .ge 26, 3) := by decide +kernel
theorem d13_50 : decode prog_66_method_6_code 50 = .ok (.lload 10, 2) := by decide +kernel
theorem d13_52 : decode prog_66_method_6_code 52 = .ok (.aload_n 0, 1) := by decide +kernel
theorem d13_53 : decode prog_66_method_6_code 53 = .ok (.getfield 15, 3) := by decide +kernel
theorem d13_56 : decode prog_66_method_6_code 56 = .ok (.aload 5, 2) := by decide +kernel
theorem d13_58 : decode prog_66_method_6_code 58 = .ok (.iload 12, 2) := by decide +kernel
theorem d13_60 : decode prog_66_method_6_code 60 = .ok (.iaload, 1) := by decide +kernel
theorem d13_61 : decode prog_66_method_6_code 61 = .ok (.laload, 1) := by decide +kernel
theorem d13_62 : decode prog_66_method_6_code 62 = .ok (.invokestatic 47, 3) := by decide +kernel
theorem d13_65 : decode prog_66_method_6_code 65 = .ok (.lstore 10, 2) := by decide +kernel
theorem d13_67 : decode prog_66_method_6_code 67 = .ok (.iinc 12 1, 3) := by decide +kernel
theorem d13_70 : decode prog_66_method_6_code 70 = .ok (.goto (-27), 3) := by decide +kernel
theorem d13_73 : decode prog_66_method_6_code 73 = .ok (.iconst 0, 1) := by decide +kernel
theorem d13_74 : decode prog_66_method_6_code 74 = .ok (.istore 12, 2) := by decide +kernel
theorem d13_76 : decode prog_66_method_6_code 76 = .ok (.iload 12, 2) := by decide +kernel
theorem d13_78 : decode prog_66_method_6_code 78 = .ok (.iload 6, 2) := by decide +kernel
theorem d13_80 : decode prog_66_method_6_code 80 = .ok (.if_icmp .ge 41, 3) := by decide +kernel
theorem d13_83 : decode prog_66_method_6_code 83 = .ok (.aload_n 0, 1) := by decide +kernel
theorem d13_84 : decode prog_66_method_6_code 84 = .ok (.getfield 15, 3) := by decide +kernel
theorem d13_87 : decode prog_66_method_6_code 87 = .ok (.aload 5, 2) := by decide +kernel
theorem d13_89 : decode prog_66_method_6_code 89 = .ok (.iload 12, 2) := by decide +kernel
theorem d13_91 : decode prog_66_method_6_code 91 = .ok (.iaload, 1) := by decide +kernel
theorem d13_92 : decode prog_66_method_6_code 92 = .ok (.dup2, 1) := by decide +kernel
theorem d13_93 : decode prog_66_method_6_code 93 = .ok (.laload, 1) := by decide +kernel
theorem d13_94 : decode prog_66_method_6_code 94 = .ok (.lload 10, 2) := by decide +kernel
theorem d13_96 : decode prog_66_method_6_code 96 = .ok (.lsub, 1) := by decide +kernel
theorem d13_97 : decode prog_66_method_6_code 97 = .ok (.lastore, 1) := by decide +kernel
theorem d13_98 : decode prog_66_method_6_code 98 = .ok (.aload_n 0, 1) := by decide +kernel
theorem d13_99 : decode prog_66_method_6_code 99 = .ok (.getfield 15, 3) := by decide +kernel
theorem d13_102 : decode prog_66_method_6_code 102 = .ok (.aload 5, 2) := by decide +kernel
theorem d13_104 : decode prog_66_method_6_code 104 = .ok (.iload 12, 2) := by decide +kernel
theorem d13_106 : decode prog_66_method_6_code 106 = .ok (.iaload, 1) := by decide +kernel
theorem d13_107 : decode prog_66_method_6_code 107 = .ok (.iconst 1, 1) := by decide +kernel
theorem d13_108 : decode prog_66_method_6_code 108 = .ok (.ixor, 1) := by decide +kernel
theorem d13_109 : decode prog_66_method_6_code 109 = .ok (.dup2, 1) := by decide +kernel
theorem d13_110 : decode prog_66_method_6_code 110 = .ok (.laload, 1) := by decide +kernel
theorem d13_111 : decode prog_66_method_6_code 111 = .ok (.lload 10, 2) := by decide +kernel
theorem d13_113 : decode prog_66_method_6_code 113 = .ok (.ladd, 1) := by decide +kernel
theorem d13_114 : decode prog_66_method_6_code 114 = .ok (.lastore, 1) := by decide +kernel
theorem d13_115 : decode prog_66_method_6_code 115 = .ok (.iinc 12 1, 3) := by decide +kernel
theorem d13_118 : decode prog_66_method_6_code 118 = .ok (.goto (-42), 3) := by decide +kernel
theorem d13_121 : decode prog_66_method_6_code 121 = .ok (.lload 10, 2) := by decide +kernel
theorem d13_123 : decode prog_66_method_6_code 123 = .ok (.lstore 8, 2) := by decide +kernel
theorem d13_125 : decode prog_66_method_6_code 125 = .ok (.goto (-116), 3) := by decide +kernel
theorem d13_128 : decode prog_66_method_6_code 128 = .ok (.aload 4, 2) := by decide +kernel
theorem d13_130 : decode prog_66_method_6_code 130 = .ok (.iload 7, 2) := by decide +kernel
theorem d13_132 : decode prog_66_method_6_code 132 = .ok (.iaload, 1) := by decide +kernel
theorem d13_133 : decode prog_66_method_6_code 133 = .ok (.istore 10, 2) := by decide +kernel
theorem d13_135 : decode prog_66_method_6_code 135 = .ok (.iload 10, 2) := by decide +kernel
theorem d13_137 : decode prog_66_method_6_code 137 = .ok (.ifCond .lt 28, 3) := by decide +kernel
theorem d13_140 : decode prog_66_method_6_code 140 = .ok (.aload_n 0, 1) := by decide +kernel
theorem d13_141 : decode prog_66_method_6_code 141 = .ok (.iload 10, 2) := by decide +kernel
theorem d13_143 : decode prog_66_method_6_code 143 = .ok (.iload 7, 2) := by decide +kernel
theorem d13_145 : decode prog_66_method_6_code 145 = .ok (.iload_n 2, 1) := by decide +kernel
theorem d13_146 : decode prog_66_method_6_code 146 = .ok (.aload_n 3, 1) := by decide +kernel
theorem d13_147 : decode prog_66_method_6_code 147 = .ok (.invokevirtual 71, 3) := by decide +kernel
theorem d13_150 : decode prog_66_method_6_code 150 = .ok (.ifCond .ne 15, 3) := by decide +kernel
theorem d13_153 : decode prog_66_method_6_code 153 = .ok (.aload_n 0, 1) := by decide +kernel
theorem d13_154 : decode prog_66_method_6_code 154 = .ok (.getfield 19, 3) := by decide +kernel
theorem d13_157 : decode prog_66_method_6_code 157 = .ok (.iload 10, 2) := by decide +kernel
theorem d13_159 : decode prog_66_method_6_code 159 = .ok (.iaload, 1) := by decide +kernel
theorem d13_160 : decode prog_66_method_6_code 160 = .ok (.istore 10, 2) := by decide +kernel
theorem d13_162 : decode prog_66_method_6_code 162 = .ok (.goto (-27), 3) := by decide +kernel
theorem d13_165 : decode prog_66_method_6_code 165 = .ok (.aload 4, 2) := by decide +kernel
theorem d13_167 : decode prog_66_method_6_code 167 = .ok (.iload 7, 2) := by decide +kernel
theorem d13_169 : decode prog_66_method_6_code 169 = .ok (.iload 10, 2) := by decide +kernel
theorem d13_171 : decode prog_66_method_6_code 171 = .ok (.iastore, 1) := by decide +kernel
theorem d13_172 : decode prog_66_method_6_code 172 = .ok (.iload 10, 2) := by decide +kernel
theorem d13_174 : decode prog_66_method_6_code 174 = .ok (.ifCond .lt 25, 3) := by decide +kernel
theorem d13_177 : decode prog_66_method_6_code 177 = .ok (.aload 5, 2) := by decide +kernel
theorem d13_179 : decode prog_66_method_6_code 179 = .ok (.iload 6, 2) := by decide +kernel
theorem d13_181 : decode prog_66_method_6_code 181 = .ok (.iinc 6 1, 3) := by decide +kernel
theorem d13_184 : decode prog_66_method_6_code 184 = .ok (.iload 10, 2) := by decide +kernel
theorem d13_186 : decode prog_66_method_6_code 186 = .ok (.iastore, 1) := by decide +kernel
theorem d13_187 : decode prog_66_method_6_code 187 = .ok (.aload_n 0, 1) := by decide +kernel
theorem d13_188 : decode prog_66_method_6_code 188 = .ok (.getfield 9, 3) := by decide +kernel
theorem d13_191 : decode prog_66_method_6_code 191 = .ok (.iload 10, 2) := by decide +kernel
theorem d13_193 : decode prog_66_method_6_code 193 = .ok (.iaload, 1) := by decide +kernel
theorem d13_194 : decode prog_66_method_6_code 194 = .ok (.istore 7, 2) := by decide +kernel
theorem d13_196 : decode prog_66_method_6_code 196 = .ok (.goto 46, 3) := by decide +kernel
theorem d13_199 : decode prog_66_method_6_code 199 = .ok (.iload 6, 2) := by decide +kernel
theorem d13_201 : decode prog_66_method_6_code 201 = .ok (.ifCond .le 38, 3) := by decide +kernel
theorem d13_204 : decode prog_66_method_6_code 204 = .ok (.iinc 6 (-1), 3) := by decide +kernel
theorem d13_207 : decode prog_66_method_6_code 207 = .ok (.aload_n 0, 1) := by decide +kernel
theorem d13_208 : decode prog_66_method_6_code 208 = .ok (.getfield 9, 3) := by decide +kernel
theorem d13_211 : decode prog_66_method_6_code 211 = .ok (.aload 5, 2) := by decide +kernel
theorem d13_213 : decode prog_66_method_6_code 213 = .ok (.iload 6, 2) := by decide +kernel
theorem d13_215 : decode prog_66_method_6_code 215 = .ok (.iaload, 1) := by decide +kernel
theorem d13_216 : decode prog_66_method_6_code 216 = .ok (.iconst 1, 1) := by decide +kernel
theorem d13_217 : decode prog_66_method_6_code 217 = .ok (.ixor, 1) := by decide +kernel
theorem d13_218 : decode prog_66_method_6_code 218 = .ok (.iaload, 1) := by decide +kernel
theorem d13_219 : decode prog_66_method_6_code 219 = .ok (.istore 7, 2) := by decide +kernel
theorem d13_221 : decode prog_66_method_6_code 221 = .ok (.aload 4, 2) := by decide +kernel
theorem d13_223 : decode prog_66_method_6_code 223 = .ok (.iload 7, 2) := by decide +kernel
theorem d13_225 : decode prog_66_method_6_code 225 = .ok (.aload_n 0, 1) := by decide +kernel
theorem d13_226 : decode prog_66_method_6_code 226 = .ok (.getfield 19, 3) := by decide +kernel
theorem d13_229 : decode prog_66_method_6_code 229 = .ok (.aload 4, 2) := by decide +kernel
theorem d13_231 : decode prog_66_method_6_code 231 = .ok (.iload 7, 2) := by decide +kernel
theorem d13_233 : decode prog_66_method_6_code 233 = .ok (.iaload, 1) := by decide +kernel
theorem d13_234 : decode prog_66_method_6_code 234 = .ok (.iaload, 1) := by decide +kernel
theorem d13_235 : decode prog_66_method_6_code 235 = .ok (.iastore, 1) := by decide +kernel
theorem d13_236 : decode prog_66_method_6_code 236 = .ok (.goto 6, 3) := by decide +kernel
theorem d13_239 : decode prog_66_method_6_code 239 = .ok (.iload_n 1, 1) := by decide +kernel
theorem d13_240 : decode prog_66_method_6_code 240 = .ok (.istore 7, 2) := by decide +kernel
theorem d13_242 : decode prog_66_method_6_code 242 = .ok (.goto (-233), 3) := by decide +kernel
theorem d13_245 : decode prog_66_method_6_code 245 = .ok (.lload 8, 2) := by decide +kernel
theorem d13_247 : decode prog_66_method_6_code 247 = .ok (.lreturn, 1) := by decide +kernel
theorem pd_1 : parseMethodDescriptor "(JJ)J" = some ⟨[.long, .long], some .long⟩ := by decide +kernel
theorem pd_2 : parseMethodDescriptor "(III[I)Z" = some ⟨[.int, .int, .int, (.array .int)], some .boolean⟩ := by decide +kernel
theorem d10_0 : decode prog_66_method_4_code 0 = .ok (.aload_n 0, 1) := by decide +kernel
theorem d10_1 : decode prog_66_method_4_code 1 = .ok (.getfield 22, 3) := by decide +kernel
theorem d10_4 : decode prog_66_method_4_code 4 = .ok (.newarray .int, 2) := by decide +kernel
theorem d10_6 : decode prog_66_method_4_code 6 = .ok (.astore_n 3, 1) := by decide +kernel
theorem d10_7 : decode prog_66_method_4_code 7 = .ok (.aload_n 0, 1) := by decide +kernel
theorem d10_8 : decode prog_66_method_4_code 8 = .ok (.getfield 22, 3) := by decide +kernel
theorem d10_11 : decode prog_66_method_4_code 11 = .ok (.newarray .int, 2) := by decide +kernel
theorem d10_13 : decode prog_66_method_4_code 13 = .ok (.astore 4, 2) := by decide +kernel
theorem d10_15 : decode prog_66_method_4_code 15 = .ok (.aload_n 0, 1) := by decide +kernel
theorem d10_16 : decode prog_66_method_4_code 16 = .ok (.getfield 22, 3) := by decide +kernel
theorem d10_19 : decode prog_66_method_4_code 19 = .ok (.newarray .int, 2) := by decide +kernel
theorem d10_21 : decode prog_66_method_4_code 21 = .ok (.astore 5, 2) := by decide +kernel
theorem d10_23 : decode prog_66_method_4_code 23 = .ok (.aload_n 0, 1) := by decide +kernel
theorem d10_24 : decode prog_66_method_4_code 24 = .ok (.getfield 22, 3) := by decide +kernel
theorem d10_27 : decode prog_66_method_4_code 27 = .ok (.newarray .int, 2) := by decide +kernel
theorem d10_29 : decode prog_66_method_4_code 29 = .ok (.astore 6, 2) := by decide +kernel
theorem d10_31 : decode prog_66_method_4_code 31 = .ok (.lconst 0, 1) := by decide +kernel
theorem d10_32 : decode prog_66_method_4_code 32 = .ok (.lstore 7, 2) := by decide +kernel
theorem d10_34 : decode prog_66_method_4_code 34 = .ok (.aload_n 0, 1) := by decide +kernel
theorem d10_35 : decode prog_66_method_4_code 35 = .ok (.iload_n 1, 1) := by decide +kernel
theorem d10_36 : decode prog_66_method_4_code 36 = .ok (.iload_n 2, 1) := by decide +kernel
theorem d10_37 : decode prog_66_method_4_code 37 = .ok (.aload_n 3, 1) := by decide +kernel
theorem d10_38 : decode prog_66_method_4_code 38 = .ok (.aload 5, 2) := by decide +kernel
theorem d10_40 : decode prog_66_method_4_code 40 = .ok (.invokevirtual 57, 3) := by decide +kernel
theorem d10_43 : decode prog_66_method_4_code 43 = .ok (.ifCond .eq 75, 3) := by decide +kernel
theorem d10_46 : decode prog_66_method_4_code 46 = .ok (.aload_n 0, 1) := by decide +kernel
theorem d10_47 : decode prog_66_method_4_code 47 = .ok (.getfield 26, 3) := by decide +kernel
theorem d10_50 : decode prog_66_method_4_code 50 = .ok (.iconst 0, 1) := by decide +kernel
theorem d10_51 : decode prog_66_method_4_code 51 = .ok (.aload 4, 2) := by decide +kernel
theorem d10_53 : decode prog_66_method_4_code 53 = .ok (.iconst 0, 1) := by decide +kernel
theorem d10_54 : decode prog_66_method_4_code 54 = .ok (.aload_n 0, 1) := by decide +kernel
theorem d10_55 : decode prog_66_method_4_code 55 = .ok (.getfield 22, 3) := by decide +kernel
theorem d10_58 : decode prog_66_method_4_code 58 = .ok (.invokestatic 61, 3) := by decide +kernel
theorem d10_61 : decode prog_66_method_4_code 61 = .ok (.aload_n 0, 1) := by decide +kernel
theorem d10_62 : decode prog_66_method_4_code 62 = .ok (.iload_n 1, 1) := by decide +kernel
theorem d10_63 : decode prog_66_method_4_code 63 = .ok (.iload_n 2, 1) := by decide +kernel
theorem d10_64 : decode prog_66_method_4_code 64 = .ok (.aload_n 3, 1) := by decide +kernel
theorem d10_65 : decode prog_66_method_4_code 65 = .ok (.aload 4, 2) := by decide +kernel
theorem d10_67 : decode prog_66_method_4_code 67 = .ok (.aload 6, 2) := by decide +kernel
theorem d10_69 : decode prog_66_method_4_code 69 = .ok (.invokevirtual 67, 3) := by decide +kernel
theorem d10_72 : decode prog_66_method_4_code 72 = .ok (.lstore 9, 2) := by decide +kernel
theorem d10_74 : decode prog_66_method_4_code 74 = .ok (.lload 9, 2) := by decide +kernel
theorem d10_76 : decode prog_66_method_4_code 76 = .ok (.lconst 0, 1) := by decide +kernel
theorem d10_77 : decode prog_66_method_4_code 77 = .ok (.lcmp, 1) := by decide +kernel
theorem d10_78 : decode prog_66_method_4_code 78 = .ok (.ifCond .le 37, 3) := by decide +kernel
theorem d10_81 : decode prog_66_method_4_code 81 = .ok (.lload 7, 2) := by decide +kernel
theorem d10_83 : decode prog_66_method_4_code 83 = .ok (.lload 9, 2) := by decide +kernel
theorem d10_85 : decode prog_66_method_4_code 85 = .ok (.ladd, 1) := by decide +kernel
theorem d10_86 : decode prog_66_method_4_code 86 = .ok (.lstore 7, 2) := by decide +kernel
theorem d10_88 : decode prog_66_method_4_code 88 = .ok (.lload 7, 2) := by decide +kernel
theorem d10_90 : decode prog_66_method_4_code 90 = .ok (.ldc2_w 45, 3) := by decide +kernel
theorem d10_93 : decode prog_66_method_4_code 93 = .ok (.lcmp, 1) := by decide +kernel
theorem d10_94 : decode prog_66_method_4_code 94 = .ok (.ifCond .lt 5, 3) := by decide +kernel
theorem d10_97 : decode prog_66_method_4_code 97 = .ok (.aconst_null, 1) := by decide +kernel
theorem d10_98 : decode prog_66_method_4_code 98 = .ok (.areturn, 1) := by decide +kernel
theorem d10_99 : decode prog_66_method_4_code 99 = .ok (.aload_n 0, 1) := by decide +kernel
theorem d10_100 : decode prog_66_method_4_code 100 = .ok (.iload_n 1, 1) := by decide +kernel
theorem d10_101 : decode prog_66_method_4_code 101 = .ok (.iload_n 2, 1) := by decide +kernel
theorem d10_102 : decode prog_66_method_4_code 102 = .ok (.aload_n 3, 1) := by decide +kernel
theorem d10_103 : decode prog_66_method_4_code 103 = .ok (.aload 4, 2) := by decide +kernel
theorem d10_105 : decode prog_66_method_4_code 105 = .ok (.aload 6, 2) := by decide +kernel
theorem d10_107 : decode prog_66_method_4_code 107 = .ok (.invokevirtual 67, 3) := by decide +kernel
theorem d10_110 : decode prog_66_method_4_code 110 = .ok (.lstore 9, 2) := by decide +kernel
theorem d10_112 : decode prog_66_method_4_code 112 = .ok (.goto (-38), 3) := by decide +kernel
theorem d10_115 : decode prog_66_method_4_code 115 = .ok (.goto (-81), 3) := by decide +kernel
theorem d10_118 : decode prog_66_method_4_code 118 = .ok (.aload_n 0, 1) := by decide +kernel
theorem d10_119 : decode prog_66_method_4_code 119 = .ok (.getfield 22, 3) := by decide +kernel
theorem d10_122 : decode prog_66_method_4_code 122 = .ok (.newarray .boolean, 2) := by decide +kernel
theorem d10_124 : decode prog_66_method_4_code 124 = .ok (.astore 9, 2) := by decide +kernel
theorem d10_126 : decode prog_66_method_4_code 126 = .ok (.iconst 0, 1) := by decide +kernel
theorem d10_127 : decode prog_66_method_4_code 127 = .ok (.istore 10, 2) := by decide +kernel
theorem d10_129 : decode prog_66_method_4_code 129 = .ok (.iload 10, 2) := by decide +kernel
theorem d10_131 : decode prog_66_method_4_code 131 = .ok (.aload_n 0, 1) := by decide +kernel
theorem d10_132 : decode prog_66_method_4_code 132 = .ok (.getfield 22, 3) := by decide +kernel
theorem d10_135 : decode prog_66_method_4_code 135 = .ok (.if_icmp .ge 26, 3) := by decide +kernel
theorem d10_138 : decode prog_66_method_4_code 138 = .ok (.aload 9, 2) := by decide +kernel
theorem d10_140 : decode prog_66_method_4_code 140 = .ok (.iload 10, 2) := by decide +kernel
theorem d10_142 : decode prog_66_method_4_code 142 = .ok (.aload_n 3, 1) := by decide +kernel
theorem d10_143 : decode prog_66_method_4_code 143 = .ok (.iload 10, 2) := by decide +kernel
theorem d10_145 : decode prog_66_method_4_code 145 = .ok (.iaload, 1) := by decide +kernel
theorem d10_146 : decode prog_66_method_4_code 146 = .ok (.ifCond .lt 7, 3) := by decide +kernel
theorem d10_149 : decode prog_66_method_4_code 149 = .ok (.iconst 1, 1) := by decide +kernel
theorem d10_150 : decode prog_66_method_4_code 150 = .ok (.goto 4, 3) := by decide +kernel
theorem d10_153 : decode prog_66_method_4_code 153 = .ok (.iconst 0, 1) := by decide +kernel
theorem d10_154 : decode prog_66_method_4_code 154 = .ok (.bastore, 1) := by decide +kernel
theorem d10_155 : decode prog_66_method_4_code 155 = .ok (.iinc 10 1, 3) := by decide +kernel
theorem d10_158 : decode prog_66_method_4_code 158 = .ok (.goto (-29), 3) := by decide +kernel
theorem d10_161 : decode prog_66_method_4_code 161 = .ok (.aload 9, 2) := by decide +kernel
theorem d10_163 : decode prog_66_method_4_code 163 = .ok (.areturn, 1) := by decide +kernel
theorem pd_3 : parseMethodDescriptor "(II[I[I)Z" = some ⟨[.int, .int, (.array .int), (.array .int)], some .boolean⟩ := by decide +kernel
theorem pd_4 : parseMethodDescriptor "(II[I[I[I)J" = some ⟨[.int, .int, (.array .int), (.array .int), (.array .int)], some .long⟩ := by decide +kernel
theorem d3_0 : decode prog_66_method_1_code 0 = .ok (.aload_n 0, 1) := by decide +kernel
theorem d3_1 : decode prog_66_method_1_code 1 = .ok (.invokespecial 3, 3) := by decide +kernel
theorem d3_4 : decode prog_66_method_1_code 4 = .ok (.aload_n 0, 1) := by decide +kernel
theorem d3_5 : decode prog_66_method_1_code 5 = .ok (.bipush 16, 2) := by decide +kernel
theorem d3_7 : decode prog_66_method_1_code 7 = .ok (.newarray .int, 2) := by decide +kernel
theorem d3_9 : decode prog_66_method_1_code 9 = .ok (.putfield 9, 3) := by decide +kernel
theorem d3_12 : decode prog_66_method_1_code 12 = .ok (.aload_n 0, 1) := by decide +kernel
theorem d3_13 : decode prog_66_method_1_code 13 = .ok (.bipush 16, 2) := by decide +kernel
theorem d3_15 : decode prog_66_method_1_code 15 = .ok (.newarray .long, 2) := by decide +kernel
theorem d3_17 : decode prog_66_method_1_code 17 = .ok (.putfield 15, 3) := by decide +kernel
theorem d3_20 : decode prog_66_method_1_code 20 = .ok (.aload_n 0, 1) := by decide +kernel
theorem d3_21 : decode prog_66_method_1_code 21 = .ok (.bipush 16, 2) := by decide +kernel
theorem d3_23 : decode prog_66_method_1_code 23 = .ok (.newarray .int, 2) := by decide +kernel
theorem d3_25 : decode prog_66_method_1_code 25 = .ok (.putfield 19, 3) := by decide +kernel
theorem d3_28 : decode prog_66_method_1_code 28 = .ok (.aload_n 0, 1) := by decide +kernel
theorem d3_29 : decode prog_66_method_1_code 29 = .ok (.iload_n 1, 1) := by decide +kernel
theorem d3_30 : decode prog_66_method_1_code 30 = .ok (.putfield 22, 3) := by decide +kernel
theorem d3_33 : decode prog_66_method_1_code 33 = .ok (.aload_n 0, 1) := by decide +kernel
theorem d3_34 : decode prog_66_method_1_code 34 = .ok (.iload_n 1, 1) := by decide +kernel
theorem d3_35 : decode prog_66_method_1_code 35 = .ok (.newarray .int, 2) := by decide +kernel
theorem d3_37 : decode prog_66_method_1_code 37 = .ok (.putfield 26, 3) := by decide +kernel
theorem d3_40 : decode prog_66_method_1_code 40 = .ok (.aload_n 0, 1) := by decide +kernel
theorem d3_41 : decode prog_66_method_1_code 41 = .ok (.getfield 26, 3) := by decide +kernel
theorem d3_44 : decode prog_66_method_1_code 44 = .ok (.iconst (-1), 1) := by decide +kernel
theorem d3_45 : decode prog_66_method_1_code 45 = .ok (.invokestatic 29, 3) := by decide +kernel
theorem d3_48 : decode prog_66_method_1_code 48 = .ok (.return_, 1) := by decide +kernel
theorem d9_0 : decode prog_66_method_3_code 0 = .ok (.aload_n 0, 1) := by decide +kernel
theorem d9_1 : decode prog_66_method_3_code 1 = .ok (.getfield 9, 3) := by decide +kernel
theorem d9_4 : decode prog_66_method_3_code 4 = .ok (.aload_n 0, 1) := by decide +kernel
theorem d9_5 : decode prog_66_method_3_code 5 = .ok (.getfield 35, 3) := by decide +kernel
theorem d9_8 : decode prog_66_method_3_code 8 = .ok (.iload_n 2, 1) := by decide +kernel
theorem d9_9 : decode prog_66_method_3_code 9 = .ok (.iastore, 1) := by decide +kernel
theorem d9_10 : decode prog_66_method_3_code 10 = .ok (.aload_n 0, 1) := by decide +kernel
theorem d9_11 : decode prog_66_method_3_code 11 = .ok (.getfield 15, 3) := by decide +kernel
theorem d9_14 : decode prog_66_method_3_code 14 = .ok (.aload_n 0, 1) := by decide +kernel
theorem d9_15 : decode prog_66_method_3_code 15 = .ok (.getfield 35, 3) := by decide +kernel
theorem d9_18 : decode prog_66_method_3_code 18 = .ok (.lload_n 3, 1) := by decide +kernel
theorem d9_19 : decode prog_66_method_3_code 19 = .ok (.lastore, 1) := by decide +kernel
theorem d9_20 : decode prog_66_method_3_code 20 = .ok (.aload_n 0, 1) := by decide +kernel
theorem d9_21 : decode prog_66_method_3_code 21 = .ok (.getfield 19, 3) := by decide +kernel
theorem d9_24 : decode prog_66_method_3_code 24 = .ok (.aload_n 0, 1) := by decide +kernel
theorem d9_25 : decode prog_66_method_3_code 25 = .ok (.getfield 35, 3) := by decide +kernel
theorem d9_28 : decode prog_66_method_3_code 28 = .ok (.aload_n 0, 1) := by decide +kernel
theorem d9_29 : decode prog_66_method_3_code 29 = .ok (.getfield 26, 3) := by decide +kernel
theorem d9_32 : decode prog_66_method_3_code 32 = .ok (.iload_n 1, 1) := by decide +kernel
theorem d9_33 : decode prog_66_method_3_code 33 = .ok (.iaload, 1) := by decide +kernel
theorem d9_34 : decode prog_66_method_3_code 34 = .ok (.iastore, 1) := by decide +kernel
theorem d9_35 : decode prog_66_method_3_code 35 = .ok (.aload_n 0, 1) := by decide +kernel
theorem d9_36 : decode prog_66_method_3_code 36 = .ok (.getfield 26, 3) := by decide +kernel
theorem d9_39 : decode prog_66_method_3_code 39 = .ok (.iload_n 1, 1) := by decide +kernel
theorem d9_40 : decode prog_66_method_3_code 40 = .ok (.aload_n 0, 1) := by decide +kernel
theorem d9_41 : decode prog_66_method_3_code 41 = .ok (.getfield 35, 3) := by decide +kernel
theorem d9_44 : decode prog_66_method_3_code 44 = .ok (.iastore, 1) := by decide +kernel
theorem d9_45 : decode prog_66_method_3_code 45 = .ok (.aload_n 0, 1) := by decide +kernel
theorem d9_46 : decode prog_66_method_3_code 46 = .ok (.dup, 1) := by decide +kernel
theorem d9_47 : decode prog_66_method_3_code 47 = .ok (.getfield 35, 3) := by decide +kernel
theorem d9_50 : decode prog_66_method_3_code 50 = .ok (.iconst 1, 1) := by decide +kernel
theorem d9_51 : decode prog_66_method_3_code 51 = .ok (.iadd, 1) := by decide +kernel
theorem d9_52 : decode prog_66_method_3_code 52 = .ok (.putfield 35, 3) := by decide +kernel
theorem d9_55 : decode prog_66_method_3_code 55 = .ok (.return_, 1) := by decide +kernel
theorem d7_0 : decode prog_66_method_2_code 0 = .ok (.aload_n 0, 1) := by decide +kernel
theorem d7_1 : decode prog_66_method_2_code 1 = .ok (.getfield 35, 3) := by decide +kernel
theorem d7_4 : decode prog_66_method_2_code 4 = .ok (.iconst 2, 1) := by decide +kernel
theorem d7_5 : decode prog_66_method_2_code 5 = .ok (.iadd, 1) := by decide +kernel
theorem d7_6 : decode prog_66_method_2_code 6 = .ok (.aload_n 0, 1) := by decide +kernel
theorem d7_7 : decode prog_66_method_2_code 7 = .ok (.getfield 9, 3) := by decide +kernel
theorem d7_10 : decode prog_66_method_2_code 10 = .ok (.arraylength, 1) := by decide +kernel
theorem d7_11 : decode prog_66_method_2_code 11 = .ok (.if_icmp .le 57, 3) := by decide +kernel
theorem d7_14 : decode prog_66_method_2_code 14 = .ok (.aload_n 0, 1) := by decide +kernel
theorem d7_15 : decode prog_66_method_2_code 15 = .ok (.aload_n 0, 1) := by decide +kernel
theorem d7_16 : decode prog_66_method_2_code 16 = .ok (.getfield 9, 3) := by decide +kernel
theorem d7_19 : decode prog_66_method_2_code 19 = .ok (.aload_n 0, 1) := by decide +kernel
theorem d7_20 : decode prog_66_method_2_code 20 = .ok (.getfield 9, 3) := by decide +kernel
theorem d7_23 : decode prog_66_method_2_code 23 = .ok (.arraylength, 1) := by decide +kernel
theorem d7_24 : decode prog_66_method_2_code 24 = .ok (.iconst 2, 1) := by decide +kernel
theorem d7_25 : decode prog_66_method_2_code 25 = .ok (.imul, 1) := by decide +kernel
theorem d7_26 : decode prog_66_method_2_code 26 = .ok (.invokestatic 38, 3) := by decide +kernel
theorem d7_29 : decode prog_66_method_2_code 29 = .ok (.putfield 9, 3) := by decide +kernel
theorem d7_32 : decode prog_66_method_2_code 32 = .ok (.aload_n 0, 1) := by decide +kernel
theorem d7_33 : decode prog_66_method_2_code 33 = .ok (.aload_n 0, 1) := by decide +kernel
theorem d7_34 : decode prog_66_method_2_code 34 = .ok (.getfield 15, 3) := by decide +kernel
theorem d7_37 : decode prog_66_method_2_code 37 = .ok (.aload_n 0, 1) := by decide +kernel
theorem d7_38 : decode prog_66_method_2_code 38 = .ok (.getfield 15, 3) := by decide +kernel
theorem d7_41 : decode prog_66_method_2_code 41 = .ok (.arraylength, 1) := by decide +kernel
theorem d7_42 : decode prog_66_method_2_code 42 = .ok (.iconst 2, 1) := by decide +kernel
theorem d7_43 : decode prog_66_method_2_code 43 = .ok (.imul, 1) := by decide +kernel
theorem d7_44 : decode prog_66_method_2_code 44 = .ok (.invokestatic 42, 3) := by decide +kernel
theorem d7_47 : decode prog_66_method_2_code 47 = .ok (.putfield 15, 3) := by decide +kernel
theorem d7_50 : decode prog_66_method_2_code 50 = .ok (.aload_n 0, 1) := by decide +kernel
theorem d7_51 : decode prog_66_method_2_code 51 = .ok (.aload_n 0, 1) := by decide +kernel
theorem d7_52 : decode prog_66_method_2_code 52 = .ok (.getfield 19, 3) := by decide +kernel
theorem d7_55 : decode prog_66_method_2_code 55 = .ok (.aload_n 0, 1) := by decide +kernel
theorem d7_56 : decode prog_66_method_2_code 56 = .ok (.getfield 19, 3) := by decide +kernel
theorem d7_59 : decode prog_66_method_2_code 59 = .ok (.arraylength, 1) := by decide +kernel
theorem d7_60 : decode prog_66_method_2_code 60 = .ok (.iconst 2, 1) := by decide +kernel
theorem d7_61 : decode prog_66_method_2_code 61 = .ok (.imul, 1) := by decide +kernel
theorem d7_62 : decode prog_66_method_2_code 62 = .ok (.invokestatic 38, 3) := by decide +kernel
theorem d7_65 : decode prog_66_method_2_code 65 = .ok (.putfield 19, 3) := by decide +kernel
theorem d7_68 : decode prog_66_method_2_code 68 = .ok (.aload_n 0, 1) := by decide +kernel
theorem d7_69 : decode prog_66_method_2_code 69 = .ok (.iload_n 1, 1) := by decide +kernel
theorem d7_70 : decode prog_66_method_2_code 70 = .ok (.iload_n 2, 1) := by decide +kernel
theorem d7_71 : decode prog_66_method_2_code 71 = .ok (.lload_n 3, 1) := by decide +kernel
theorem d7_72 : decode prog_66_method_2_code 72 = .ok (.ldc2_w 45, 3) := by decide +kernel
theorem d7_75 : decode prog_66_method_2_code 75 = .ok (.invokestatic 47, 3) := by decide +kernel
theorem d7_78 : decode prog_66_method_2_code 78 = .ok (.invokevirtual 53, 3) := by decide +kernel
theorem d7_81 : decode prog_66_method_2_code 81 = .ok (.aload_n 0, 1) := by decide +kernel
theorem d7_82 : decode prog_66_method_2_code 82 = .ok (.iload_n 2, 1) := by decide +kernel
theorem d7_83 : decode prog_66_method_2_code 83 = .ok (.iload_n 1, 1) := by decide +kernel
theorem d7_84 : decode prog_66_method_2_code 84 = .ok (.lconst 0, 1) := by decide +kernel
theorem d7_85 : decode prog_66_method_2_code 85 = .ok (.invokevirtual 53, 3) := by decide +kernel
theorem d7_88 : decode prog_66_method_2_code 88 = .ok (.return_, 1) := by decide +kernel
theorem pd_5 : parseMethodDescriptor "(IIJ)V" = some ⟨[.int, .int, .long], none⟩ := by decide +kernel
theorem pn_2 : plainName "com/example/ichnos/ichnos/planning/ils/MinCutSourceSidePinLaw" = true := by first | (simp [plainName, overriddenIn]; done) | decide +kernel
theorem d1_0 : decode method_2_code 0 = .ok (.iload_n 0, 1) := by decide +kernel
theorem d1_1 : decode method_2_code 1 = .ok (.bipush 8, 2) := by decide +kernel
theorem d1_3 : decode method_2_code 3 = .ok (.iushr, 1) := by decide +kernel
theorem d1_4 : decode method_2_code 4 = .ok (.bipush 7, 2) := by decide +kernel
theorem d1_6 : decode method_2_code 6 = .ok (.iand, 1) := by decide +kernel
theorem d1_7 : decode method_2_code 7 = .ok (.istore_n 1, 1) := by decide +kernel
theorem d1_8 : decode method_2_code 8 = .ok (.iload_n 1, 1) := by decide +kernel
theorem d1_9 : decode method_2_code 9 = .ok (.bipush 7, 2) := by decide +kernel
theorem d1_11 : decode method_2_code 11 = .ok (.if_icmp .ne 7, 3) := by decide +kernel
theorem d1_14 : decode method_2_code 14 = .ok (.ldc2_w 9, 3) := by decide +kernel
theorem d1_17 : decode method_2_code 17 = .ok (.lreturn, 1) := by decide +kernel
theorem d1_18 : decode method_2_code 18 = .ok (.iload_n 1, 1) := by decide +kernel
theorem d1_19 : decode method_2_code 19 = .ok (.bipush 6, 2) := by decide +kernel
theorem d1_21 : decode method_2_code 21 = .ok (.if_icmp .ne 7, 3) := by decide +kernel
theorem d1_24 : decode method_2_code 24 = .ok (.ldc2_w 13, 3) := by decide +kernel
theorem d1_27 : decode method_2_code 27 = .ok (.lreturn, 1) := by decide +kernel
theorem d1_28 : decode method_2_code 28 = .ok (.iload_n 0, 1) := by decide +kernel
theorem d1_29 : decode method_2_code 29 = .ok (.sipush 255, 3) := by decide +kernel
theorem d1_32 : decode method_2_code 32 = .ok (.iand, 1) := by decide +kernel
theorem d1_33 : decode method_2_code 33 = .ok (.i2l, 1) := by decide +kernel
theorem d1_34 : decode method_2_code 34 = .ok (.lreturn, 1) := by decide +kernel
theorem d12_0 : decode method_3_code 0 = .ok (.lload_n 0, 1) := by decide +kernel
theorem d12_1 : decode method_3_code 1 = .ok (.ldc2_w 13, 3) := by decide +kernel
theorem d12_4 : decode method_3_code 4 = .ok (.invokestatic 15, 3) := by decide +kernel
theorem d12_7 : decode method_3_code 7 = .ok (.lreturn, 1) := by decide +kernel
theorem d2_0 : decode method_4_code 0 = .ok (.iload_n 0, 1) := by decide +kernel
theorem d2_1 : decode method_4_code 1 = .ok (.iload_n 1, 1) := by decide +kernel
theorem d2_2 : decode method_4_code 2 = .ok (.iadd, 1) := by decide +kernel
theorem d2_3 : decode method_4_code 3 = .ok (.iload_n 2, 1) := by decide +kernel
theorem d2_4 : decode method_4_code 4 = .ok (.irem, 1) := by decide +kernel
theorem d2_5 : decode method_4_code 5 = .ok (.istore 4, 2) := by decide +kernel
theorem d2_7 : decode method_4_code 7 = .ok (.iload_n 3, 1) := by decide +kernel
theorem d2_8 : decode method_4_code 8 = .ok (.ifCond .eq 12, 3) := by decide +kernel
theorem d2_11 : decode method_4_code 11 = .ok (.iload_n 2, 1) := by decide +kernel
theorem d2_12 : decode method_4_code 12 = .ok (.iconst 1, 1) := by decide +kernel
theorem d2_13 : decode method_4_code 13 = .ok (.isub, 1) := by decide +kernel
theorem d2_14 : decode method_4_code 14 = .ok (.iload 4, 2) := by decide +kernel
theorem d2_16 : decode method_4_code 16 = .ok (.isub, 1) := by decide +kernel
theorem d2_17 : decode method_4_code 17 = .ok (.goto 5, 3) := by decide +kernel
theorem d2_20 : decode method_4_code 20 = .ok (.iload 4, 2) := by decide +kernel
theorem d2_22 : decode method_4_code 22 = .ok (.ireturn, 1) := by decide +kernel
theorem d6_0 : decode method_5_code 0 = .ok (.aload_n 0, 1) := by decide +kernel
theorem d6_1 : decode method_5_code 1 = .ok (.aload 4, 2) := by decide +kernel
theorem d6_3 : decode method_5_code 3 = .ok (.aload_n 2, 1) := by decide +kernel
theorem d6_4 : decode method_5_code 4 = .ok (.iload_n 1, 1) := by decide +kernel
theorem d6_5 : decode method_5_code 5 = .ok (.iaload, 1) := by decide +kernel
theorem d6_6 : decode method_5_code 6 = .ok (.iaload, 1) := by decide +kernel
theorem d6_7 : decode method_5_code 7 = .ok (.aload 4, 2) := by decide +kernel
theorem d6_9 : decode method_5_code 9 = .ok (.aload_n 3, 1) := by decide +kernel
theorem d6_10 : decode method_5_code 10 = .ok (.iload_n 1, 1) := by decide +kernel
theorem d6_11 : decode method_5_code 11 = .ok (.iaload, 1) := by decide +kernel
theorem d6_12 : decode method_5_code 12 = .ok (.iaload, 1) := by decide +kernel
theorem d6_13 : decode method_5_code 13 = .ok (.aload 5, 2) := by decide +kernel
theorem d6_15 : decode method_5_code 15 = .ok (.iload_n 1, 1) := by decide +kernel
theorem d6_16 : decode method_5_code 16 = .ok (.laload, 1) := by decide +kernel
theorem d6_17 : decode method_5_code 17 = .ok (.invokevirtual 21, 3) := by decide +kernel
theorem d6_20 : decode method_5_code 20 = .ok (.return_, 1) := by decide +kernel
theorem pd_6 : parseMethodDescriptor "(I)J" = some ⟨[.int], some .long⟩ := by decide +kernel
theorem pd_7 : parseMethodDescriptor "(IIIZ)I" = some ⟨[.int, .int, .int, .boolean], some .int⟩ := by decide +kernel
theorem pd_8 : parseMethodDescriptor "(I)V" = some ⟨[.int], none⟩ := by decide +kernel
theorem pd_9 : parseMethodDescriptor "(II)[Z" = some ⟨[.int, .int], some (.array .boolean)⟩ := by decide +kernel
theorem pd_10 : parseMethodDescriptor "(J)J" = some ⟨[.long], some .long⟩ := by decide +kernel
theorem pd_11 : parseMethodDescriptor "(Lcom/example/ichnos/ichnos/planning/ils/MinCut;I[I[I[I[J)V" = some ⟨[(.object "com/example/ichnos/ichnos/planning/ils/MinCut"), .int, (.array .int), (.array .int), (.array .int), (.array .long)], none⟩ := by decide +kernel
/-! numbers -/
theorem own_ofNat {n : Nat} (hn : n < 2147483648) : (Int32.ofNat n).toInt = (n : Int) := Int32.toInt_ofNat_of_lt hn
theorem own_and_nat (x : Int32) (m : Nat) (hm : m < 2147483648) : ∃ k : Nat, k ≤ m ∧ (x &&& Int32.ofNat m) = Int32.ofNat k := by
  refine ⟨(x &&& Int32.ofNat m).toBitVec.toNat, ?_, ?_⟩
  · simp only [Int32.toBitVec_and, BitVec.toNat_and]
    refine Nat.le_trans Nat.and_le_right ?_
    show (BitVec.ofNat 32 m).toNat ≤ m
    rw [BitVec.toNat_ofNat]
    exact Nat.mod_le _ _
  · apply Int32.toBitVec_inj.mp
    show _ = BitVec.ofNat 32 _
    rw [BitVec.ofNat_toNat]; simp
theorem own_rem (x : Int32) (n : Nat) (h1 : 0 < n) (h2 : n < 2147483648) : ∃ k : Nat, k < n ∧ ((x &&& (2147483647 : Int32)) % Int32.ofNat n).toInt = (k : Int) := by
  obtain ⟨j, hj, e⟩ := own_and_nat x 2147483647 (by decide)
  refine ⟨j % n, Nat.mod_lt _ h1, ?_⟩
  have e' : (x &&& (2147483647 : Int32)) = Int32.ofNat j := e
  rw [e', Int32.toInt_mod, own_ofNat (by omega), own_ofNat h2]
  exact (Int.ofNat_tmod j n).symm

/-! ## the plain part: residual graphs -/
/-- the other edge of a pair -/
def fl (e : Nat) : Nat := if e % 2 = 0 then e + 1 else e - 1
theorem fl_fl (e : Nat) : fl (fl e) = e := by unfold fl; split <;> split <;> omega
theorem fl_lt {e k : Nat} (h : e < 2 * k) : fl e < 2 * k := by unfold fl; split <;> omega
theorem fl_ne (e : Nat) : fl e ≠ e := by unfold fl; split <;> omega
/-- where an edge begins -/
def tl (H : Nat → Nat) (e : Nat) : Nat := H (fl e)
theorem tl_fl (H : Nat → Nat) (e : Nat) : tl H (fl e) = H e := by unfold tl; rw [fl_fl]
/-- the last edge below b that begins at v, or -1 -/
def prv (H : Nat → Nat) (v : Nat) : Nat → Int
  | 0 => -1
  | b + 1 => if tl H b = v then (b : Int) else prv H v b
theorem prv_cases (H : Nat → Nat) (v : Nat) : ∀ b, (prv H v b = -1 ∧ ∀ e, e < b → tl H e ≠ v) ∨ ∃ e, e < b ∧ prv H v b = (e : Int) ∧ tl H e = v ∧ ∀ e', e < e' → e' < b → tl H e' ≠ v := by
  intro b
  induction b with
  | zero => exact Or.inl ⟨rfl, fun e he => absurd he (Nat.not_lt_zero _)⟩
  | succ b ih =>
    unfold prv
    by_cases q : tl H b = v
    · rw [if_pos q]
      exact Or.inr ⟨b, Nat.lt_succ_self _, rfl, q, fun e' h1 h2 => absurd h1 (by omega)⟩
    · rw [if_neg q]
      rcases ih with ⟨h1, h2⟩ | ⟨e, h1, h2, h3, h4⟩
      · exact Or.inl ⟨h1, fun e he => if r : e = b then r ▸ q else h2 e (by omega)⟩
      · exact Or.inr ⟨e, by omega, h2, h3, fun e' g1 g2 => if r : e' = b then r ▸ q else h4 e' g1 (by omega)⟩
theorem prv_lt (H : Nat → Nat) (v b : Nat) : prv H v b < b := by
  rcases prv_cases H v b with ⟨h, -⟩ | ⟨e, h1, h2, -⟩
  · rw [h]; omega
  · rw [h2]; omega
theorem prv_ge (H : Nat → Nat) (v b : Nat) : -1 ≤ prv H v b := by
  rcases prv_cases H v b with ⟨h, -⟩ | ⟨e, h1, h2, -⟩
  · rw [h]; exact Int.le_refl _
  · rw [h2]; omega
theorem prv_congr {H H' : Nat → Nat} (v : Nat) : ∀ b, (∀ e, e < b → tl H e = tl H' e) → prv H v b = prv H' v b := by
  intro b
  induction b with
  | zero => intro _; rfl
  | succ b ih =>
    intro h
    unfold prv
    rw [h b (Nat.lt_succ_self _), ih (fun e he => h e (by omega))]
/-- a sum over the pairs -/
def sm : Nat → (Nat → Int) → Int
  | 0, _ => 0
  | k + 1, g => sm k g + (g (2 * k) + g (2 * k + 1))
theorem sm_congr {g g' : Nat → Int} : ∀ k, (∀ e, e < 2 * k → g e = g' e) → sm k g = sm k g' := by
  intro k
  induction k with
  | zero => intro _; rfl
  | succ k ih =>
    intro h
    unfold sm
    rw [ih (fun e he => h e (by omega)), h (2 * k) (by omega), h (2 * k + 1) (by omega)]
theorem sm_add (g g' : Nat → Int) : ∀ k, sm k (fun e => g e + g' e) = sm k g + sm k g' := by
  intro k
  induction k with
  | zero => rfl
  | succ k ih => unfold sm; rw [ih]; dsimp only; omega
theorem sm_nonneg {g : Nat → Int} : ∀ k, (∀ e, e < 2 * k → 0 ≤ g e) → 0 ≤ sm k g := by
  intro k
  induction k with
  | zero => intro _; exact Int.le_refl _
  | succ k ih =>
    intro h
    unfold sm
    have a := ih (fun e he => h e (by omega)); have b := h (2 * k) (by omega); have c := h (2 * k + 1) (by omega)
    omega
theorem sm_zero {g : Nat → Int} : ∀ k, (∀ e, e < 2 * k → 0 ≤ g e) → sm k g = 0 → ∀ e, e < 2 * k → g e = 0 := by
  intro k
  induction k with
  | zero => intro _ _ e he; omega
  | succ k ih =>
    intro h hs e he
    unfold sm at hs
    have a := sm_nonneg k (fun e he => h e (by omega)); have b := h (2 * k) (by omega); have c := h (2 * k + 1) (by omega)
    by_cases q : e < 2 * k
    · exact ih (fun e he => h e (by omega)) (by omega) e q
    · rcases (by omega : e = 2 * k ∨ e = 2 * k + 1) with rfl | rfl <;> omega
/-- two sums that part at one pair alone -/
theorem sm_pair {g g' : Nat → Int} {i : Nat} : ∀ k, i < k → (∀ e, e < 2 * k → e / 2 ≠ i → g' e = g e) → sm k g' = sm k g + (g' (2 * i) - g (2 * i)) + (g' (2 * i + 1) - g (2 * i + 1)) := by
  intro k
  induction k with
  | zero => intro h; omega
  | succ k ih =>
    intro hi h
    unfold sm
    by_cases q : i = k
    · subst q
      rw [sm_congr i (fun e he => h e (by omega) (by omega))]
      omega
    · rw [ih (by omega) (fun e he hne => h e (by omega) hne), h (2 * k) (by omega) (by omega), h (2 * k + 1) (by omega) (by omega)]
      omega
/-- what flows out of v on balance -/
def net (H : Nat → Nat) (k : Nat) (D : Nat → Int) (v : Nat) : Int := sm k (fun e => if tl H e = v then D e else 0)
/-- what a cut holds -/
def cut (H : Nat → Nat) (k : Nat) (C : Nat → Int) (S : Nat → Bool) : Int := sm k (fun e => if S (tl H e) = true ∧ S (H e) = false then C e else 0)
/-- a flow of F from s to t: capacities left are no less than 0, a pair's stay together, nothing is lost on the way -/
def FI (n k : Nat) (H : Nat → Nat) (C0 C : Nat → Int) (s t : Nat) (F : Int) : Prop :=
  (∀ e, e < 2 * k → 0 ≤ C e) ∧ (∀ e, e < 2 * k → C e + C (fl e) = C0 e + C0 (fl e)) ∧ ∀ v, v < n → net H k (fun e => C0 e - C e) v = (if v = s then F else 0) - (if v = t then F else 0)
/-- pushing f over the edge e moves it from where e begins to where it ends -/
theorem net_push {H : Nat → Nat} {k : Nat} {C0 C C' : Nat → Int} {e : Nat} {f : Int} (he : e < 2 * k) (h1 : C' e = C e - f) (h2 : C' (fl e) = C (fl e) + f) (h3 : ∀ e', e' ≠ e → e' ≠ fl e → C' e' = C e') (v : Nat) :
    net H k (fun e => C0 e - C' e) v = net H k (fun e => C0 e - C e) v + (if tl H e = v then f else 0) - (if H e = v then f else 0) := by
  unfold net
  rw [sm_pair (i := e / 2) (g := fun e => if tl H e = v then C0 e - C e else 0) k (by omega) (fun e' he' hne => by
    have a : e' ≠ e := fun q => hne (by rw [q])
    have b : e' ≠ fl e := fun q => hne (by rw [q]; unfold fl; split <;> omega)
    show (if tl H e' = v then C0 e' - C' e' else 0) = (if tl H e' = v then C0 e' - C e' else 0)
    rw [h3 e' a b])]
  show _ + ((if tl H (2 * (e / 2)) = v then C0 (2 * (e / 2)) - C' (2 * (e / 2)) else 0) - (if tl H (2 * (e / 2)) = v then C0 (2 * (e / 2)) - C (2 * (e / 2)) else 0)) + ((if tl H (2 * (e / 2) + 1) = v then C0 (2 * (e / 2) + 1) - C' (2 * (e / 2) + 1) else 0) - (if tl H (2 * (e / 2) + 1) = v then C0 (2 * (e / 2) + 1) - C (2 * (e / 2) + 1) else 0)) = _
  by_cases q : e % 2 = 0
  · have e1 : 2 * (e / 2) = e := by omega
    have e2 : 2 * (e / 2) + 1 = fl e := by unfold fl; rw [if_pos q]; omega
    rw [e2, e1, tl_fl, h1, h2]
    dsimp only
    split <;> split <;> omega
  · have e1 : 2 * (e / 2) + 1 = e := by omega
    have e2 : 2 * (e / 2) = fl e := by unfold fl; rw [if_neg q]; omega
    rw [e1, e2, tl_fl, h1, h2]
    dsimp only
    split <;> split <;> omega
/-- sums over nodes -/
def sv : Nat → (Nat → Int) → Int
  | 0, _ => 0
  | n + 1, g => sv n g + g n
theorem sv_congr {g g' : Nat → Int} : ∀ n, (∀ v, v < n → g v = g' v) → sv n g = sv n g' := by
  intro n
  induction n with
  | zero => intro _; rfl
  | succ n ih => intro h; unfold sv; rw [ih (fun v hv => h v (by omega)), h n (by omega)]
theorem sv_add (g g' : Nat → Int) : ∀ n, sv n (fun v => g v + g' v) = sv n g + sv n g' := by
  intro n
  induction n with
  | zero => rfl
  | succ n ih => unfold sv; rw [ih]; dsimp only; omega
theorem sv_zero : ∀ n, sv n (fun _ => 0) = 0 := by
  intro n
  induction n with
  | zero => rfl
  | succ n ih => unfold sv; rw [ih]; rfl
theorem sv_one {P : Nat → Bool} {u : Nat} {x : Int} : ∀ n, u < n → sv n (fun v => if P v = true then (if u = v then x else 0) else 0) = if P u = true then x else 0 := by
  intro n
  induction n with
  | zero => intro h; omega
  | succ n ih =>
    intro h
    unfold sv
    by_cases q : u = n
    · subst q
      rw [sv_congr u (g' := fun _ => 0) (fun v hv => by
        have r : u ≠ v := by omega
        simp [r]), sv_zero]
      simp
    · rw [ih (by omega)]
      simp [q]
theorem sv_sm {H : Nat → Nat} {D : Nat → Int} {S : Nat → Bool} {n : Nat} : ∀ k, (∀ e, e < 2 * k → tl H e < n) → sv n (fun v => if S v = true then sm k (fun e => if tl H e = v then D e else 0) else 0) = sm k (fun e => if S (tl H e) = true then D e else 0) := by
  intro k
  induction k with
  | zero => intro _; show sv n (fun v => if S v = true then 0 else 0) = 0; rw [sv_congr n (g' := fun _ => 0) (fun v hv => by simp), sv_zero]
  | succ k ih =>
    intro h
    have a := ih (fun e he => h e (by omega))
    have b := sv_one (P := S) (x := D (2 * k)) n (h (2 * k) (by omega))
    have c := sv_one (P := S) (x := D (2 * k + 1)) n (h (2 * k + 1) (by omega))
    show sv n (fun v => if S v = true then sm k _ + ((if tl H (2 * k) = v then D (2 * k) else 0) + (if tl H (2 * k + 1) = v then D (2 * k + 1) else 0)) else 0) = sm k _ + ((if S (tl H (2 * k)) = true then D (2 * k) else 0) + (if S (tl H (2 * k + 1)) = true then D (2 * k + 1) else 0))
    rw [← a, ← b, ← c, ← sv_add, ← sv_add]
    apply sv_congr
    intro v hv
    by_cases q : S v = true
    · simp only [if_pos q]
    · simp only [if_neg q]; rfl
theorem sm_anti {H : Nat → Nat} {D : Nat → Int} {S : Nat → Bool} : ∀ k, (∀ e, e < 2 * k → D e + D (fl e) = 0) → sm k (fun e => if S (tl H e) = true then D e else 0) = sm k (fun e => if S (tl H e) = true ∧ S (H e) = false then D e else 0) := by
  intro k
  induction k with
  | zero => intro _; rfl
  | succ k ih =>
    intro h
    unfold sm
    rw [ih (fun e he => h e (by omega))]
    have a := h (2 * k) (by omega)
    have f1 : fl (2 * k) = 2 * k + 1 := by unfold fl; rw [if_pos (by omega)]
    have f2 : fl (2 * k + 1) = 2 * k := by unfold fl; rw [if_neg (by omega)]; omega
    rw [f1] at a
    have t1 : tl H (2 * k) = H (2 * k + 1) := by unfold tl; rw [f1]
    have t2 : tl H (2 * k + 1) = H (2 * k) := by unfold tl; rw [f2]
    dsimp only
    rw [t1, t2]
    cases S (H (2 * k)) <;> cases S (H (2 * k + 1)) <;> simp <;> omega
/-- **what flows is what the cut holds less what is left of it** -/
theorem FI.thru {n k : Nat} {H : Nat → Nat} {C0 C : Nat → Int} {s t : Nat} {F : Int} (I : FI n k H C0 C s t F) (hH : ∀ e, e < 2 * k → H e < n) (hs : s < n) (ht : t < n) {S : Nat → Bool} (h1 : S s = true) (h2 : S t = false) : F = cut H k C0 S - cut H k C S := by
  have a := sv_sm (H := H) (D := fun e => C0 e - C e) (S := S) (n := n) k (fun e he => hH _ (fl_lt he))
  have b := sm_anti (H := H) (D := fun e => C0 e - C e) (S := S) k (fun e he => by have := I.2.1 e he; show C0 e - C e + (C0 (fl e) - C (fl e)) = 0; omega)
  have c : sv n (fun v => if S v = true then sm k (fun e => if tl H e = v then C0 e - C e else 0) else 0) = F := by
    rw [sv_congr n (g' := fun v => (if S v = true then (if s = v then F else 0) else 0) + (if S v = true then (if t = v then -F else 0) else 0)) (fun v hv => by
      have q := I.2.2 v hv
      unfold net at q
      rw [q]
      by_cases r : S v = true
      · simp only [if_pos r]
        by_cases x : v = s <;> by_cases y : v = t <;> simp [x, y, eq_comm] <;> omega
      · simp only [if_neg r]; rfl), sv_add, sv_one n hs, sv_one n ht, h1, h2]
    simp
  have d : cut H k C0 S = sm k (fun e => if S (tl H e) = true ∧ S (H e) = false then C0 e - C e else 0) + cut H k C S := by
    unfold cut
    rw [← sm_add]
    apply sm_congr
    intro e he
    by_cases r : S (tl H e) = true ∧ S (H e) = false
    · simp only [if_pos r]; omega
    · simp only [if_neg r]; rfl
  rw [d, ← b, ← a, c]
  omega
theorem FI.le {n k : Nat} {H : Nat → Nat} {C0 C : Nat → Int} {s t : Nat} {F : Int} (I : FI n k H C0 C s t F) (hH : ∀ e, e < 2 * k → H e < n) (hs : s < n) (ht : t < n) {S : Nat → Bool} (h1 : S s = true) (h2 : S t = false) : F ≤ cut H k C0 S := by
  have a := I.thru hH hs ht h1 h2
  have b : 0 ≤ cut H k C S := sm_nonneg k (fun e he => by
    show 0 ≤ (if S (tl H e) = true ∧ S (H e) = false then C e else 0)
    split
    · exact I.1 e he
    · exact Int.le_refl _)
  omega
theorem FI.eq {n k : Nat} {H : Nat → Nat} {C0 C : Nat → Int} {s t : Nat} {F : Int} (I : FI n k H C0 C s t F) (hH : ∀ e, e < 2 * k → H e < n) (hs : s < n) (ht : t < n) {S : Nat → Bool} (h1 : S s = true) (h2 : S t = false) (hz : ∀ e, e < 2 * k → S (tl H e) = true → S (H e) = false → C e = 0) : F = cut H k C0 S := by
  have a := I.thru hH hs ht h1 h2
  have b : cut H k C S = 0 := by
    unfold cut
    rw [sm_congr (g' := fun _ => 0) k (fun e he => by
      by_cases r : S (tl H e) = true ∧ S (H e) = false
      · simp only [if_pos r]; exact hz e he r.1 r.2
      · simp only [if_neg r])]
    have z : ∀ k, sm k (fun _ => 0) = 0 := fun k => by
      induction k with
      | zero => rfl
      | succ k ih => unfold sm; rw [ih]; rfl
    exact z k
  omega
theorem FI.tight {n k : Nat} {H : Nat → Nat} {C0 C : Nat → Int} {s t : Nat} {F : Int} (I : FI n k H C0 C s t F) (hH : ∀ e, e < 2 * k → H e < n) (hs : s < n) (ht : t < n) {S : Nat → Bool} (h1 : S s = true) (h2 : S t = false) (hc : cut H k C0 S = F) : ∀ e, e < 2 * k → S (tl H e) = true → S (H e) = false → C e = 0 := by
  have a := I.thru hH hs ht h1 h2
  intro e he r1 r2
  have z := sm_zero (g := fun e => if S (tl H e) = true ∧ S (H e) = false then C e else 0) k (fun e he => by
    show 0 ≤ (if S (tl H e) = true ∧ S (H e) = false then C e else 0)
    split
    · exact I.1 e he
    · exact Int.le_refl _) (by unfold cut at a hc; omega) e he
  simpa [r1, r2] using z
theorem FI.start {n k : Nat} {H : Nat → Nat} {C0 : Nat → Int} {s t : Nat} (h : ∀ e, e < 2 * k → 0 ≤ C0 e) : FI n k H C0 C0 s t 0 := by
  refine ⟨h, fun _ _ => rfl, fun v hv => ?_⟩
  unfold net
  rw [sm_congr (g' := fun _ => 0) k (fun e he => by simp)]
  have z : ∀ k, sm k (fun _ => 0) = 0 := fun k => by
    induction k with
    | zero => rfl
    | succ k ih => unfold sm; rw [ih]; rfl
  rw [z]; simp
/-! ## levels (breadth first) -/
def cn (lv : Nat → Int) : Nat → Nat
  | 0 => 0
  | n + 1 => cn lv n + (if 0 ≤ lv n then 1 else 0)
theorem cn_le (lv : Nat → Int) : ∀ n, cn lv n ≤ n := by
  intro n
  induction n with
  | zero => exact Nat.le_refl _
  | succ n ih => unfold cn; split <;> omega
theorem cn_lt {lv : Nat → Int} {w : Nat} (hw : lv w < 0) : ∀ n, w < n → cn lv n < n := by
  intro n
  induction n with
  | zero => intro h; omega
  | succ n ih =>
    intro h
    unfold cn
    have a := cn_le lv n
    by_cases q : w = n
    · subst q; rw [if_neg (by omega)]; omega
    · have b := ih (by omega)
      split <;> omega
theorem cn_congr {lv lv' : Nat → Int} : ∀ n, (∀ v, v < n → lv' v = lv v) → cn lv' n = cn lv n := by
  intro n
  induction n with
  | zero => intro _; rfl
  | succ n ih => intro h; unfold cn; rw [ih (fun v hv => h v (by omega)), h n (by omega)]
theorem cn_up {lv lv' : Nat → Int} {w : Nat} (hw : lv w < 0) (hw' : 0 ≤ lv' w) (ho : ∀ v, v ≠ w → lv' v = lv v) : ∀ n, w < n → cn lv' n = cn lv n + 1 := by
  intro n
  induction n with
  | zero => intro h; omega
  | succ n ih =>
    intro h
    unfold cn
    by_cases q : w = n
    · subst q
      rw [cn_congr w (fun v hv => ho v (by omega)), if_pos hw', if_neg (by omega)]
    · rw [ih (by omega), ho n (by omega)]
      omega
def LV (n k : Nat) (H : Nat → Nat) (C : Nat → Int) (s : Nat) (lv : Nat → Int) : Prop :=
  lv s = 0 ∧ (∀ v, v < n → -1 ≤ lv v ∧ lv v < n) ∧ (∀ e, e < 2 * k → 0 < C e → 0 ≤ lv (tl H e) → 0 ≤ lv (H e)) ∧ ∀ v, v < n → v ≠ s → 0 ≤ lv v → ∃ e, e < 2 * k ∧ 0 < C e ∧ H e = v ∧ 0 ≤ lv (tl H e) ∧ lv v = lv (tl H e) + 1
def BI (n k : Nat) (H : Nat → Nat) (C : Nat → Int) (s : Nat) (lv : Nat → Int) (q : Nat → Nat) (hd tq : Nat) : Prop :=
  lv s = 0 ∧ hd ≤ tq ∧ tq ≤ cn lv n ∧ (∀ v, v < n → -1 ≤ lv v) ∧ (∀ j, j < tq → q j < n ∧ 0 ≤ lv (q j) ∧ lv (q j) ≤ j) ∧ (∀ v, v < n → 0 ≤ lv v → ∃ j, j < tq ∧ q j = v) ∧
  (∀ v, v < n → v ≠ s → 0 ≤ lv v → ∃ e, e < 2 * k ∧ 0 < C e ∧ H e = v ∧ 0 ≤ lv (tl H e) ∧ lv v = lv (tl H e) + 1) ∧ ∀ j, j < hd → ∀ e, e < 2 * k → tl H e = q j → 0 < C e → 0 ≤ lv (H e)
theorem BI.start {n k : Nat} {H : Nat → Nat} {C : Nat → Int} {s : Nat} {lv : Nat → Int} {q : Nat → Nat} (hs : s < n) (h1 : lv s = 0) (h2 : ∀ v, v < n → v ≠ s → lv v = -1) (h3 : q 0 = s) : BI n k H C s lv q 0 1 := by
  refine ⟨h1, by omega, ?_, fun v hv => ?_, fun j hj => ?_, fun v hv h => ?_, fun v hv hne h => ?_, fun j hj => absurd hj (Nat.not_lt_zero _)⟩
  · have z := cn_up (lv := fun _ => -1) (lv' := fun v => if v = s then 0 else -1) (w := s) (show (-1 : Int) < 0 by decide) (by simp) (fun v hv => by simp [hv]) n hs
    rw [cn_congr (lv := fun v => if v = s then 0 else -1) n (fun v hv => by
      by_cases r : v = s
      · rw [r, h1]; simp
      · rw [h2 v hv r]; simp [r]), z]
    omega
  · by_cases r : v = s
    · rw [r, h1]; decide
    · rw [h2 v hv r]; decide
  · obtain rfl : j = 0 := by omega
    rw [h3, h1]; exact ⟨hs, by decide, by decide⟩
  · by_cases r : v = s
    · exact ⟨0, by decide, by rw [h3, r]⟩
    · rw [h2 v hv r] at h; omega
  · rw [h2 v hv hne] at h; omega
theorem BI.room {n k : Nat} {H : Nat → Nat} {C : Nat → Int} {s : Nat} {lv : Nat → Int} {q : Nat → Nat} {hd tq : Nat} (I : BI n k H C s lv q hd tq) {w : Nat} (hw : w < n) (h : lv w < 0) : tq < n :=
  Nat.lt_of_le_of_lt I.2.2.1 (cn_lt h n hw)
theorem BI.put {n k : Nat} {H : Nat → Nat} {C : Nat → Int} {s : Nat} {lv lv' : Nat → Int} {q q' : Nat → Nat} {hd tq : Nat} (I : BI n k H C s lv q hd tq) (hq : hd < tq) {e : Nat} (he : e < 2 * k) (ht : tl H e = q hd) (hc : 0 < C e) (hn : H e < n) (hl : lv (H e) < 0)
    (h1 : lv' (H e) = lv (q hd) + 1) (h2 : ∀ v, v ≠ H e → lv' v = lv v) (h3 : q' tq = H e) (h4 : ∀ j, j < tq → q' j = q j) : BI n k H C s lv' q' hd (tq + 1) := by
  obtain ⟨i1, i2, i3, i4, i5, i6, i7, i8⟩ := I
  have up : ∀ v, 0 ≤ lv v → lv' v = lv v := fun v hv => h2 v (fun r => by rw [r] at hv; omega)
  have hd5 := i5 hd hq
  refine ⟨by rw [up s (by omega)]; exact i1, by omega, ?_, fun v hv => ?_, fun j hj => ?_, fun v hv h => ?_, fun v hv hne h => ?_, fun j hj e' he' ht' hc' => ?_⟩
  · rw [cn_up hl (by rw [h1]; omega) h2 n hn]; omega
  · by_cases r : v = H e
    · rw [r, h1]; omega
    · rw [h2 v r]; exact i4 v hv
  · by_cases r : j = tq
    · rw [r, h3, h1]; exact ⟨hn, by omega, by omega⟩
    · have z := i5 j (by omega)
      rw [h4 j (by omega), up _ z.2.1]; exact z
  · by_cases r : v = H e
    · exact ⟨tq, by omega, by rw [h3, r]⟩
    · rw [h2 v r] at h
      obtain ⟨j, hj, hv'⟩ := i6 v hv h
      exact ⟨j, by omega, by rw [h4 j hj]; exact hv'⟩
  · by_cases r : v = H e
    · exact ⟨e, he, hc, r.symm, by rw [ht, up _ hd5.2.1]; exact hd5.2.1, by rw [ht, up _ hd5.2.1, r, h1]⟩
    · rw [h2 v r] at h ⊢
      obtain ⟨e', g1, g2, g3, g4, g5⟩ := i7 v hv hne h
      exact ⟨e', g1, g2, g3, by rw [up _ g4]; exact g4, by rw [up _ g4]; exact g5⟩
  · rw [h4 j (by omega)] at ht'
    have z := i8 j hj e' he' ht' hc'
    rw [up _ z]; exact z
theorem BI.next {n k : Nat} {H : Nat → Nat} {C : Nat → Int} {s : Nat} {lv : Nat → Int} {q : Nat → Nat} {hd tq : Nat} (I : BI n k H C s lv q hd tq) (hq : hd < tq) (h : ∀ e, e < 2 * k → tl H e = q hd → 0 < C e → 0 ≤ lv (H e)) : BI n k H C s lv q (hd + 1) tq := by
  obtain ⟨i1, i2, i3, i4, i5, i6, i7, i8⟩ := I
  refine ⟨i1, hq, i3, i4, i5, i6, i7, fun j hj => ?_⟩
  by_cases r : j = hd
  · rw [r]; exact h
  · exact i8 j (by omega)
theorem BI.done {n k : Nat} {H : Nat → Nat} {C : Nat → Int} {s : Nat} {lv : Nat → Int} {q : Nat → Nat} {hd tq : Nat} (I : BI n k H C s lv q hd tq) (hq : ¬ hd < tq) (hH : ∀ e, e < 2 * k → H e < n) : LV n k H C s lv := by
  obtain ⟨i1, i2, i3, i4, i5, i6, i7, i8⟩ := I
  have c := cn_le lv n
  refine ⟨i1, fun v hv => ⟨i4 v hv, ?_⟩, fun e he hc hl => ?_, i7⟩
  · by_cases r : 0 ≤ lv v
    · obtain ⟨j, hj, rfl⟩ := i6 v hv r
      have := (i5 j hj).2.2
      omega
    · omega
  · obtain ⟨j, hj, hv⟩ := i6 _ (hH _ (fl_lt he)) hl
    exact i8 j (by omega) e he hv.symm hc
/-! ## roads (depth first) -/
def Adm (H : Nat → Nat) (C : Nat → Int) (lv : Nat → Int) (t e : Nat) : Prop := 0 < C e ∧ lv (H e) = lv (tl H e) + 1 ∧ (H e = t ∨ lv (H e) < lv t)
/-- a set of edges, each of which can be gone, each of which ends at t or where another begins -/
def PiC (k : Nat) (H : Nat → Nat) (C : Nat → Int) (lv : Nat → Int) (t : Nat) (E : Nat → Prop) : Prop := ∀ e, E e → e < 2 * k ∧ Adm H C lv t e ∧ (H e = t ∨ ∃ e', E e' ∧ tl H e' = H e)
theorem PiC.none (k : Nat) (H : Nat → Nat) (C : Nat → Int) (lv : Nat → Int) (t : Nat) : PiC k H C lv t (fun _ => False) := fun _ h => h.elim
theorem LV.road {n k : Nat} {H : Nat → Nat} {C : Nat → Int} {s t : Nat} {lv : Nat → Int} (I : LV n k H C s lv) (hH : ∀ e, e < 2 * k → H e < n) (ht : t < n) (hl : 0 ≤ lv t) (hst : t ≠ s) : ∃ E : Nat → Prop, PiC k H C lv t E ∧ ∃ e, E e ∧ tl H e = s := by
  have go : ∀ (d : Nat) (v : Nat) (E : Nat → Prop), v < n → lv v = d → (v = t ∨ lv v < lv t) → PiC k H C lv t E → (v = t ∨ ∃ e, E e ∧ tl H e = v) → ∃ E' : Nat → Prop, PiC k H C lv t E' ∧ (s = t ∨ ∃ e, E' e ∧ tl H e = s) := by
    intro d
    induction d with
    | zero =>
      intro v E hv hd hlt hE h
      by_cases r : v = s
      · subst r; exact ⟨E, hE, h⟩
      · obtain ⟨e, g1, g2, g3, g4, g5⟩ := I.2.2.2 v hv r (by omega)
        omega
    | succ d ih =>
      intro v E hv hd hlt hE h
      by_cases r : v = s
      · subst r; exact ⟨E, hE, h⟩
      · obtain ⟨e, g1, g2, g3, g4, g5⟩ := I.2.2.2 v hv r (by omega)
        have lt : lv (tl H e) < lv t := by
          rcases hlt with h' | h'
          · rw [← h']; omega
          · omega
        refine ih (tl H e) (fun e' => E e' ∨ e' = e) (hH _ (fl_lt g1)) (by omega) (Or.inr lt) ?_ (Or.inr ⟨e, Or.inr rfl, rfl⟩)
        intro e' he'
        rcases he' with he' | rfl
        · obtain ⟨a1, a2, a3⟩ := hE e' he'
          refine ⟨a1, a2, a3.imp id (fun ⟨z, z1, z2⟩ => ⟨z, Or.inl z1, z2⟩)⟩
        · refine ⟨g1, ⟨g2, by rw [g3]; exact g5, by rw [g3]; exact hlt⟩, ?_⟩
          rw [g3]
          exact h.imp id (fun ⟨z, z1, z2⟩ => ⟨z, Or.inl z1, z2⟩)
  obtain ⟨E, h1, h2⟩ := go (lv t).toNat t (fun _ => False) ht (by omega) (Or.inl rfl) (PiC.none _ _ _ _ _) (Or.inl rfl)
  exact ⟨E, h1, h2.resolve_left (fun z => hst z.symm)⟩
/-- the road gone so far -/
def PT (n k : Nat) (H : Nat → Nat) (C lv : Nat → Int) (s : Nat) (b Pn nd : Nat → Nat) (d : Nat) : Prop :=
  nd 0 = s ∧ (∀ i, i < d → Pn i < 2 * k ∧ tl H (Pn i) = nd i ∧ H (Pn i) = nd (i + 1) ∧ 0 < C (Pn i) ∧ prv H (nd i) (b (nd i)) = (Pn i : Int)) ∧ ∀ i, i ≤ d → nd i < n ∧ lv (nd i) = (i : Int)
section PT
variable {n k : Nat} {H : Nat → Nat} {C lv : Nat → Int} {s t : Nat} {b Pn nd : Nat → Nat} {d : Nat}
theorem PT.start (hs : s < n) (h0 : lv s = 0) (b Pn : Nat → Nat) : PT n k H C lv s b Pn (fun _ => s) 0 :=
  ⟨rfl, fun i hi => absurd hi (Nat.not_lt_zero _), fun i hi => ⟨hs, by rw [h0]; omega⟩⟩
theorem PT.ne (I : PT n k H C lv s b Pn nd d) {i j : Nat} (hi : i ≤ d) (hj : j ≤ d) (h : i ≠ j) : nd i ≠ nd j := fun q => by
  have a := (I.2.2 i hi).2; have b := (I.2.2 j hj).2
  rw [q] at a; omega
theorem PT.low (I : PT n k H C lv s b Pn nd d) (x : Nat) : PT n k H C lv s (upd b (nd d) x) Pn nd d := by
  refine ⟨I.1, fun i hi => ?_, I.2.2⟩
  obtain ⟨a1, a2, a3, a4, a5⟩ := I.2.1 i hi
  exact ⟨a1, a2, a3, a4, by rw [upd_ne _ _ (I.ne (by omega) (Nat.le_refl _) (by omega))]; exact a5⟩
theorem PT.adv (I : PT n k H C lv s b Pn nd d) (hH : ∀ e, e < 2 * k → H e < n) {e : Nat} (he : e < 2 * k) (hp : prv H (nd d) (b (nd d)) = (e : Int)) (ht : tl H e = nd d) (hA : Adm H C lv t e) : PT n k H C lv s b (upd Pn d e) (upd nd (d + 1) (H e)) (d + 1) := by
  have hn := I.2.2 d (Nat.le_refl _)
  refine ⟨by rw [upd_ne _ _ (by omega)]; exact I.1, fun i hi => ?_, fun i hi => ?_⟩
  · rw [upd_ne nd _ (show i ≠ d + 1 by omega)]
    by_cases q : i = d
    · subst q
      rw [upd_same, upd_same]
      exact ⟨he, ht, rfl, hA.1, hp⟩
    · rw [upd_ne _ _ q, upd_ne _ _ (by omega)]
      exact I.2.1 i (by omega)
  · by_cases q : i = d + 1
    · subst q
      rw [upd_same]
      exact ⟨hH e he, by rw [hA.2.1, ht, hn.2]; omega⟩
    · rw [upd_ne _ _ q]
      exact I.2.2 i (by omega)
theorem PT.drop (I : PT n k H C lv s b Pn nd (d + 1)) : PT n k H C lv s b Pn nd d := ⟨I.1, fun i hi => I.2.1 i (by omega), fun i hi => I.2.2 i (by omega)⟩
/-- the sum of what is left to look at -/
def sb (b : Nat → Nat) : Nat → Nat
  | 0 => 0
  | n + 1 => sb b n + b n
theorem sb_congr {b b' : Nat → Nat} : ∀ n, (∀ v, v < n → b v = b' v) → sb b n = sb b' n := by
  intro n
  induction n with
  | zero => intro _; rfl
  | succ n ih => intro h; unfold sb; rw [ih (fun v hv => h v (by omega)), h n (by omega)]
theorem sb_upd {u x : Nat} : ∀ n, u < n → sb (upd b u x) n + b u = sb b n + x := by
  intro n
  induction n with
  | zero => intro h; omega
  | succ n ih =>
    intro h
    unfold sb
    by_cases q : u = n
    · subst q
      rw [upd_same, sb_congr (b' := b) u (fun v hv => upd_ne b x (show v ≠ u by omega))]
      omega
    · rw [upd_ne _ _ (show n ≠ u by omega)]
      have := ih (by omega)
      omega
theorem prv_lo {v b e : Nat} (hp : prv H v b = (e : Int)) {e' : Nat} (ht : tl H e' = v) (h : e' < b) : e' ≤ e := by
  rcases prv_cases H v b with ⟨h1, h2⟩ | ⟨x, h1, h2, h3, h4⟩
  · exact absurd ht (h2 e' h)
  · rcases Nat.lt_or_ge e e' with q | q
    · exact absurd ht (h4 e' (by omega) h)
    · exact q
theorem prv_no {v b : Nat} (hp : prv H v b < 0) {e' : Nat} (h : e' < b) : tl H e' ≠ v := by
  rcases prv_cases H v b with ⟨h1, h2⟩ | ⟨x, h1, h2, h3, h4⟩
  · exact h2 e' h
  · omega
theorem prv_at {v b : Nat} (hp : ¬ prv H v b < 0) : ∃ e, e < b ∧ prv H v b = (e : Int) ∧ tl H e = v := by
  rcases prv_cases H v b with ⟨h1, h2⟩ | ⟨x, h1, h2, h3, h4⟩
  · omega
  · exact ⟨x, h1, h2, h3⟩
end PT
/-! ## the road is filled -/
def AG (n k : Nat) (H : Nat → Nat) (C0 C C' : Nat → Int) (s t : Nat) (F f : Int) (Pn nd : Nat → Nat) (d i : Nat) : Prop :=
  (∀ e, e < 2 * k → 0 ≤ C' e) ∧ (∀ e, e < 2 * k → C' e + C' (fl e) = C0 e + C0 (fl e)) ∧ (∀ v, v < n → net H k (fun e => C0 e - C' e) v = (if v = s then F + f else 0) - (if v = t then F else 0) - (if v = nd i then f else 0)) ∧ ∀ j, i ≤ j → j < d → C' (Pn j) = C (Pn j)
section AG
variable {n k : Nat} {H : Nat → Nat} {C0 C C' C2 lv : Nat → Int} {s t : Nat} {F f : Int} {b Pn nd : Nat → Nat} {d i : Nat}
theorem AG.start (I : FI n k H C0 C s t F) (h : nd 0 = s) : AG n k H C0 C C s t F f Pn nd d 0 :=
  ⟨I.1, I.2.1, fun v hv => by rw [I.2.2 v hv, h]; by_cases q : v = s <;> simp [q] <;> omega, fun _ _ _ => rfl⟩
theorem AG.step (A : AG n k H C0 C C' s t F f Pn nd d i) (P : PT n k H C lv s b Pn nd d) (hi : i < d) (hf : 0 ≤ f) (hf2 : f ≤ C (Pn i)) (h1 : C2 (Pn i) = C' (Pn i) - f) (h2 : C2 (fl (Pn i)) = C' (fl (Pn i)) + f) (h3 : ∀ e, e ≠ Pn i → e ≠ fl (Pn i) → C2 e = C' e) : AG n k H C0 C C2 s t F f Pn nd d (i + 1) := by
  obtain ⟨a1, a2, a3, a4⟩ := A
  obtain ⟨p1, p2, p3, p4, -⟩ := P.2.1 i hi
  have e1 := a4 i (Nat.le_refl _) hi
  refine ⟨fun e he => ?_, fun e he => ?_, fun v hv => ?_, fun j hj hd => ?_⟩
  · by_cases q : e = Pn i
    · rw [q, h1]; omega
    · by_cases r : e = fl (Pn i)
      · rw [r, h2]; have := a1 _ (fl_lt p1); omega
      · rw [h3 e q r]; exact a1 e he
  · by_cases q : e = Pn i
    · rw [q, h1, h2]; have := a2 _ p1; omega
    · by_cases r : e = fl (Pn i)
      · rw [r, fl_fl, h1, h2]; have := a2 _ p1; omega
      · rw [h3 e q r, h3 (fl e) (fun z => r (by rw [← z, fl_fl])) (fun z => q (by have := congrArg fl z; rw [fl_fl, fl_fl] at this; exact this))]
        exact a2 e he
  · rw [net_push p1 h1 h2 h3 v, a3 v hv, p2, p3]
    have x : ∀ u, (if u = v then f else 0) = (if v = u then f else 0) := fun u => by
      by_cases z : u = v
      · rw [if_pos z, if_pos z.symm]
      · rw [if_neg z, if_neg (fun y => z y.symm)]
    rw [x, x]
    omega
  · have q : Pn j ≠ Pn i := fun z => by
      have := (P.2.1 j hd).2.1
      rw [z, p2] at this
      exact P.ne (by omega) (by omega) (show i ≠ j by omega) this
    have r : Pn j ≠ fl (Pn i) := fun z => by
      have := (P.2.1 j hd).2.2.1
      rw [z, show H (fl (Pn i)) = nd i from p2] at this
      exact P.ne (by omega) (by omega) (show i ≠ j + 1 by omega) this
    rw [h3 _ q r]
    exact a4 j (by omega) hd
theorem AG.done (A : AG n k H C0 C C' s t F f Pn nd d d) (h : nd d = t) : FI n k H C0 C' s t (F + f) :=
  ⟨A.1, A.2.1, fun v hv => by rw [A.2.2.1 v hv, h]; by_cases q : v = t <;> simp [q] <;> omega⟩
end AG
/-! ## the side -/
def Side (n k : Nat) (H : Nat → Nat) (C0 : Nat → Int) (s t : Nat) (S : Nat → Bool) (F : Int) : Prop :=
  S s = true ∧ S t = false ∧ F = cut H k C0 S ∧ ∀ S' : Nat → Bool, S' s = true → S' t = false → F ≤ cut H k C0 S' ∧ (cut H k C0 S' = F → ∀ v, v < n → S v = true → S' v = true)
theorem Side.of {n k : Nat} {H : Nat → Nat} {C0 C : Nat → Int} {s t : Nat} {F : Int} {lv : Nat → Int} (I : FI n k H C0 C s t F) (hH : ∀ e, e < 2 * k → H e < n) (hs : s < n) (ht : t < n) (L : LV n k H C s lv) (hl : lv t < 0) : Side n k H C0 s t (fun v => decide (0 ≤ lv v)) F := by
  have h1 : decide (0 ≤ lv s) = true := by rw [L.1]; rfl
  have h2 : decide (0 ≤ lv t) = false := decide_eq_false (by omega)
  refine ⟨h1, h2, I.eq hH hs ht h1 h2 (fun e he r1 r2 => ?_), fun S' g1 g2 => ⟨I.le hH hs ht g1 g2, fun hc => ?_⟩⟩
  · have r1 := of_decide_eq_true r1
    have r2 := of_decide_eq_false r2
    have c := I.1 e he
    rcases Int.lt_or_le 0 (C e) with q | q
    · exact absurd (L.2.2.1 e he q r1) r2
    · omega
  · have T := I.tight hH hs ht g1 g2 hc
    have go : ∀ (d : Nat) (v : Nat), v < n → lv v = (d : Int) → S' v = true := by
      intro d
      induction d with
      | zero =>
        intro v hv hd
        by_cases r : v = s
        · rw [r]; exact g1
        · obtain ⟨e, x1, x2, x3, x4, x5⟩ := L.2.2.2 v hv r (by omega)
          omega
      | succ d ih =>
        intro v hv hd
        by_cases r : v = s
        · rw [r]; exact g1
        · obtain ⟨e, x1, x2, x3, x4, x5⟩ := L.2.2.2 v hv r (by omega)
          have y := ih (tl H e) (hH _ (fl_lt x1)) (by omega)
          cases q : S' v with
          | true => rfl
          | false =>
            have z := T e x1 y (by rw [x3]; exact q)
            omega
    intro v hv hS
    have hS := of_decide_eq_true hS
    exact go (lv v).toNat v hv (by omega)
theorem prv_or (H : Nat → Nat) (u b ed : Nat) : b ≤ ed ∨ ed < b := by omega
theorem prv_up {H : Nat → Nat} {u b ed e' : Nat} (hp : prv H u b = (ed : Int)) (ht : tl H e' = u) (h1 : ed ≤ e') (hne : e' ≠ ed) : b ≤ e' := by
  rcases Nat.lt_or_ge e' b with q | q
  · have := prv_lo hp ht q
    omega
  · exact q
def SideK (n : Nat) (K : (Nat → Bool) → Int) (s t : Nat) (S : Nat → Bool) (F : Int) : Prop :=
  S s = true ∧ S t = false ∧ F = K S ∧ ∀ S' : Nat → Bool, S' s = true → S' t = false → F ≤ K S' ∧ (K S' = F → ∀ v, v < n → S v = true → S' v = true)
theorem Side.k {n k : Nat} {H : Nat → Nat} {C0 : Nat → Int} {s t : Nat} {S : Nat → Bool} {F : Int} {K : (Nat → Bool) → Int} (X : Side n k H C0 s t S F) (h : ∀ S, K S = cut H k C0 S) : SideK n K s t S F := by
  refine ⟨X.1, X.2.1, by rw [h]; exact X.2.2.1, fun S' g1 g2 => ?_⟩
  rw [h]
  exact X.2.2.2 S' g1 g2
theorem fl_ev {e k : Nat} (h : e < 2 * k) : fl e < 2 * k := fl_lt h
theorem fl_0 (k : Nat) : fl (2 * k) = 2 * k + 1 := by unfold fl; rw [if_pos (by omega)]
theorem fl_1 (k : Nat) : fl (2 * k + 1) = 2 * k := by unfold fl; rw [if_neg (by omega)]; omega

theorem own_one (i : Nat) : Int32.ofNat i + (1 : Int32) = Int32.ofNat (i + 1) := (Int32.ofNat_add i 1).symm
theorem own_lt {i n : Nat} (hi : i < 2147483648) (hn : n < 2147483648) : Int32.ofNat i < Int32.ofNat n ↔ i < n := by
  rw [Int32.lt_iff_toInt_lt, own_ofNat hi, own_ofNat hn]; omega
theorem own_inj {i n : Nat} (hi : i < 2147483648) (hn : n < 2147483648) : Int32.ofNat i = Int32.ofNat n ↔ i = n := by
  constructor
  · intro q
    have a := congrArg Int32.toInt q
    rw [own_ofNat hi, own_ofNat hn] at a; omega
  · intro q; rw [q]
theorem own_m1 {d : Nat} (h : 0 < d) : Int32.ofNat d + (-1 : Int32) = Int32.ofNat (d - 1) := by
  obtain ⟨k, rfl⟩ : ∃ k, d = k + 1 := ⟨d - 1, by omega⟩
  rw [← own_one, Int32.add_assoc, show (1 : Int32) + (-1) = 0 from rfl, Int32.add_zero]; rfl
theorem own_toI {x : Int32} {k : Nat} (h : x.toInt = (k : Int)) : x = Int32.ofNat k := by
  have b := Int32.toInt_lt x
  apply Int32.toInt_inj.mp
  rw [h, own_ofNat (by omega)]
theorem own_neg (x : Int32) : x < 0 ↔ x.toInt < 0 := by rw [Int32.lt_iff_toInt_lt]; rfl
theorem own_pos (d : Nat) (h : d < 2147483648) : (0 : Int32) < Int32.ofNat d ↔ 0 < d := by
  rw [Int32.lt_iff_toInt_lt, own_ofNat h, show (0 : Int32).toInt = 0 from rfl]; omega
theorem own_lpos (x : Int64) : (0 : Int64) < x ↔ 0 < x.toInt := by rw [Int64.lt_iff_toInt_lt]; rfl
theorem own_xor1 {e : Nat} (h : e < 64) : Int32.ofNat e ^^^ (1 : Int32) = Int32.ofNat (fl e) := by
  have q : ∀ n : Fin 64, Int32.ofNat n.val ^^^ (1 : Int32) = Int32.ofNat (fl n.val) := by decide +kernel
  exact q ⟨e, h⟩
theorem own_bm {z : Int} (h1 : -(2 ^ 31) ≤ z) (h2 : z < 2 ^ 31) : z.bmod (2 ^ 32) = z := by
  rw [Int.bmod_def]; omega
theorem own_bm64 {z : Int} (h1 : -(2 ^ 63) ≤ z) (h2 : z < 2 ^ 63) : z.bmod (2 ^ 64) = z := by
  rw [Int.bmod_def]; omega
theorem own_inc {x : Int32} (h1 : -1 ≤ x.toInt) (h2 : x.toInt < 1000) : (x + 1).toInt = x.toInt + 1 := by
  rw [Int32.toInt_add, show (1 : Int32).toInt = 1 from rfl]
  exact own_bm (by omega) (by omega)
theorem own_ladd {x y : Int64} (h1 : 0 ≤ x.toInt) (h2 : 0 ≤ y.toInt) (h3 : x.toInt + y.toInt < 9223372036854775808) : (x + y).toInt = x.toInt + y.toInt := by
  rw [Int64.toInt_add]
  exact own_bm64 (by omega) (by omega)
theorem own_lsub {x y : Int64} (h1 : 0 ≤ y.toInt) (h2 : y.toInt ≤ x.toInt) : (x - y).toInt = x.toInt - y.toInt := by
  have := Int64.toInt_lt x
  rw [Int64.toInt_sub]
  exact own_bm64 (by omega) (by omega)
def own_minL (x y : Int64) : Int64 := if y < x then y else x
theorem own_minL_toInt (x y : Int64) : (own_minL x y).toInt = min x.toInt y.toInt := by
  unfold own_minL
  by_cases q : y < x
  · rw [if_pos q]; have := Int64.lt_iff_toInt_lt.mp q; omega
  · rw [if_neg q]; have := (not_congr Int64.lt_iff_toInt_lt).mp q; omega
def Ci (Cf : Nat → Int64) : Nat → Int := fun e => (Cf e).toInt
def Li (Lf : Nat → Int32) : Nat → Int := fun v => (Lf v).toInt
theorem own_ag {Cg : Nat → Int64} {ed : Nat} {fm : Int64} (h0 : 0 ≤ fm.toInt) (h1 : fm.toInt ≤ (Cg ed).toInt) (h2 : 0 ≤ (Cg (fl ed)).toInt) (h3 : (Cg ed).toInt + (Cg (fl ed)).toInt ≤ 2305843009213693951) :
    Ci (upd (upd Cg ed (Cg ed - fm)) (fl ed) (upd Cg ed (Cg ed - fm) (fl ed) + fm)) ed = Ci Cg ed - fm.toInt ∧ Ci (upd (upd Cg ed (Cg ed - fm)) (fl ed) (upd Cg ed (Cg ed - fm) (fl ed) + fm)) (fl ed) = Ci Cg (fl ed) + fm.toInt ∧ ∀ e, e ≠ ed → e ≠ fl ed → Ci (upd (upd Cg ed (Cg ed - fm)) (fl ed) (upd Cg ed (Cg ed - fm) (fl ed) + fm)) e = Ci Cg e := by
  unfold Ci
  refine ⟨?_, ?_, fun e q r => ?_⟩
  · rw [upd_ne _ _ (fl_ne ed).symm, upd_same]
    exact own_lsub h0 h1
  · rw [upd_same, upd_ne _ _ (fl_ne ed)]
    exact own_ladd h2 h0 (by omega)
  · rw [upd_ne _ _ r, upd_ne _ _ q]
/-- what the arrays of a MinCut hold: n nodes, k pairs of edges in arrays of M places -/
def GP (n k M : Nat) (H : Nat → Nat) (Hf Nf Ff : Nat → Int32) : Prop := n ≤ 5 ∧ k ≤ 16 ∧ 2 * k ≤ M ∧ M ≤ 32 ∧ (∀ e, e < 2 * k → H e < n) ∧ (∀ e, e < 2 * k → Hf e = Int32.ofNat (H e)) ∧ (∀ e, e < 2 * k → (Nf e).toInt = prv H (tl H e) e) ∧ ∀ v, v < n → (Ff v).toInt = prv H v (2 * k)
def CAP (k : Nat) (Cf : Nat → Int64) : Prop := ∀ e, e < 2 * k → 0 ≤ Ci Cf e ∧ Ci Cf e + Ci Cf (fl e) ≤ 2305843009213693951
section Add
variable {n k M : Nat} {H : Nat → Nat} {Hf Nf Ff : Nat → Int32} {Cf : Nat → Int64} {u w : Nat} {c : Int64}
theorem own_H2 (H : Nat → Nat) (k u w : Nat) : (∀ e, e < 2 * k → upd (upd H (2 * k) w) (2 * k + 1) u e = H e) ∧ upd (upd H (2 * k) w) (2 * k + 1) u (2 * k) = w ∧ upd (upd H (2 * k) w) (2 * k + 1) u (2 * k + 1) = u :=
  ⟨fun e he => by rw [upd_ne _ _ (by omega), upd_ne _ _ (by omega)], by rw [upd_ne _ _ (by omega), upd_same], upd_same _ _ _⟩
theorem own_tl2 (H : Nat → Nat) (k u w : Nat) : (∀ e, e < 2 * k → tl (upd (upd H (2 * k) w) (2 * k + 1) u) e = tl H e) ∧ tl (upd (upd H (2 * k) w) (2 * k + 1) u) (2 * k) = u ∧ tl (upd (upd H (2 * k) w) (2 * k + 1) u) (2 * k + 1) = w := by
  have a := own_H2 H k u w
  exact ⟨fun e he => a.1 _ (fl_lt he), by unfold tl; rw [fl_0]; exact a.2.2, by unfold tl; rw [fl_1]; exact a.2.1⟩
theorem GP.add (I : GP n k M H Hf Nf Ff) (h1 : 2 * k + 2 ≤ M) (hu : u < n) (hw : w < n) :
    GP n (k + 1) M (upd (upd H (2 * k) w) (2 * k + 1) u) (upd (upd Hf (2 * k) (Int32.ofNat w)) (2 * k + 1) (Int32.ofNat u)) (upd (upd Nf (2 * k) (Ff u)) (2 * k + 1) (upd Ff u (Int32.ofNat (2 * k)) w)) (upd (upd Ff u (Int32.ofNat (2 * k))) w (Int32.ofNat (2 * k + 1))) := by
  obtain ⟨i1, i2, i3, i4, i5, i6, i7, i8⟩ := I
  have a := own_H2 H k u w
  have t := own_tl2 H k u w
  have pc : ∀ v b, b ≤ 2 * k → prv (upd (upd H (2 * k) w) (2 * k + 1) u) v b = prv H v b := fun v b hb => prv_congr v b (fun e he => t.1 e (by omega))
  have p1 : ∀ v, prv (upd (upd H (2 * k) w) (2 * k + 1) u) v (2 * k + 1) = if u = v then ((2 * k : Nat) : Int) else prv H v (2 * k) := fun v => by
    rw [← pc v (2 * k) (Nat.le_refl _), prv, t.2.1]
  have p2 : ∀ v, prv (upd (upd H (2 * k) w) (2 * k + 1) u) v (2 * (k + 1)) = if w = v then ((2 * k + 1 : Nat) : Int) else if u = v then ((2 * k : Nat) : Int) else prv H v (2 * k) := fun v => by
    rw [← p1 v, show 2 * (k + 1) = (2 * k + 1) + 1 by omega, prv, t.2.2]
  refine ⟨i1, by omega, by omega, i4, fun e he => ?_, fun e he => ?_, fun e he => ?_, fun v hv => ?_⟩
  · rcases (by omega : e < 2 * k ∨ e = 2 * k ∨ e = 2 * k + 1) with q | rfl | rfl
    · rw [a.1 e q]; exact i5 e q
    · rw [a.2.1]; exact hw
    · rw [a.2.2]; exact hu
  · rcases (by omega : e < 2 * k ∨ e = 2 * k ∨ e = 2 * k + 1) with q | rfl | rfl
    · rw [a.1 e q, upd_ne _ _ (by omega), upd_ne _ _ (by omega)]; exact i6 e q
    · rw [a.2.1, upd_ne _ _ (by omega), upd_same]
    · rw [a.2.2, upd_same]
  · rcases (by omega : e < 2 * k ∨ e = 2 * k ∨ e = 2 * k + 1) with q | rfl | rfl
    · rw [t.1 e q, upd_ne _ _ (by omega), upd_ne _ _ (by omega), pc _ _ (by omega)]; exact i7 e q
    · rw [t.2.1, upd_ne _ _ (by omega), upd_same, pc _ _ (Nat.le_refl _)]; exact i8 u hu
    · rw [t.2.2, upd_same, p1]
      by_cases q : u = w
      · rw [if_pos q, q, upd_same]; exact own_ofNat (by omega)
      · rw [if_neg q, upd_ne _ _ (fun z => q z.symm)]; exact i8 w hw
  · rw [p2]
    by_cases q : w = v
    · rw [if_pos q, q, upd_same]; exact own_ofNat (by omega)
    · rw [if_neg q, upd_ne _ _ (fun z => q z.symm)]
      by_cases r : u = v
      · rw [if_pos r, r, upd_same]; exact own_ofNat (by omega)
      · rw [if_neg r, upd_ne _ _ (fun z => r z.symm)]; exact i8 v hv
theorem own_C2 (Cf : Nat → Int64) (k : Nat) (c : Int64) : (∀ e, e < 2 * k → upd (upd Cf (2 * k) c) (2 * k + 1) 0 e = Cf e) ∧ upd (upd Cf (2 * k) c) (2 * k + 1) 0 (2 * k) = c ∧ upd (upd Cf (2 * k) c) (2 * k + 1) 0 (2 * k + 1) = 0 :=
  ⟨fun e he => by rw [upd_ne _ _ (by omega), upd_ne _ _ (by omega)], by rw [upd_ne _ _ (by omega), upd_same], upd_same _ _ _⟩
theorem CAP.add (I : CAP k Cf) (h0 : 0 ≤ c.toInt) (h1 : c.toInt ≤ 2305843009213693951) : CAP (k + 1) (upd (upd Cf (2 * k) c) (2 * k + 1) 0) := by
  have a := own_C2 Cf k c
  intro e he
  unfold Ci
  rcases (by omega : e < 2 * k ∨ e = 2 * k ∨ e = 2 * k + 1) with q | rfl | rfl
  · rw [a.1 e q, a.1 _ (fl_lt q)]; exact I e q
  · rw [fl_0, a.2.1, a.2.2]; exact ⟨h0, by rw [show (0 : Int64).toInt = 0 from rfl]; omega⟩
  · rw [fl_1, a.2.1, a.2.2]; exact ⟨by decide, by rw [show (0 : Int64).toInt = 0 from rfl]; omega⟩
theorem cut_add (S : Nat → Bool) : cut (upd (upd H (2 * k) w) (2 * k + 1) u) (k + 1) (Ci (upd (upd Cf (2 * k) c) (2 * k + 1) 0)) S = cut H k (Ci Cf) S + if S u = true ∧ S w = false then c.toInt else 0 := by
  have a := own_C2 Cf k c
  have b := own_H2 H k u w
  have t := own_tl2 H k u w
  unfold cut
  rw [sm]
  rw [t.2.1, t.2.2, b.2.1, b.2.2, sm_congr (g' := fun e => if S (tl H e) = true ∧ S (H e) = false then Ci Cf e else 0) k (fun e he => by rw [t.1 e he, b.1 e he]; unfold Ci; rw [a.1 e he])]
  unfold Ci
  rw [a.2.1, a.2.2, show (0 : Int64).toInt = 0 from rfl]
  have z : (if S w = true ∧ S u = false then (0 : Int) else 0) = 0 := by split <;> rfl
  rw [z]; omega
theorem GP.copy {Hg Ng : Nat → Int32} (I : GP n k 16 H Hf Nf Ff) (h1 : ∀ j, j < 16 → Hg j = Hf j) (h2 : ∀ j, j < 16 → Ng j = Nf j) : GP n k 32 H Hg Ng Ff := by
  obtain ⟨i1, i2, i3, i4, i5, i6, i7, i8⟩ := I
  exact ⟨i1, i2, by omega, by omega, i5, fun e he => by rw [h1 e (by omega)]; exact i6 e he, fun e he => by rw [h2 e (by omega)]; exact i7 e he, i8⟩
theorem CAP.copy {Cg : Nat → Int64} (I : CAP k Cf) (h : 2 * k ≤ 16) (h1 : ∀ j, j < 16 → Cg j = Cf j) : CAP k Cg := fun e he => by
  unfold Ci; rw [h1 e (by omega), h1 _ (by have := fl_lt he; omega)]; exact I e he
theorem cut_copy {Cg : Nat → Int64} (h : 2 * k ≤ 16) (h1 : ∀ j, j < 16 → Cg j = Cf j) (S : Nat → Bool) : cut H k (Ci Cg) S = cut H k (Ci Cf) S := by
  unfold cut
  exact sm_congr k (fun e he => by unfold Ci; rw [h1 e (by omega)])
end Add
theorem GP.start {n : Nat} (hn : n ≤ 5) {Hf Nf Ff : Nat → Int32} (h : ∀ v, v < n → Ff v = -1) : GP n 0 16 (fun _ => 0) Hf Nf Ff :=
  ⟨hn, by decide, by decide, by decide, fun e he => by omega, fun e he => by omega, fun e he => by omega, fun v hv => by rw [h v hv]; rfl⟩

def pl (r st nn : Nat) (mi : Int32) : Nat := if mi = 0 then (r + st) % nn else nn - 1 - (r + st) % nn
theorem own_n2 (x : Int32) : ∃ nn : Nat, (nn = 4 ∨ nn = 5) ∧ ((4 : Int32) + (((x.toUInt32 >>> ((3 : Int32) &&& 31).toUInt32).toInt32) &&& (1 : Int32))) = Int32.ofNat nn := by
  obtain ⟨k, hk, e⟩ := own_and_nat (x.toUInt32 >>> ((3 : Int32) &&& 31).toUInt32).toInt32 1 (by decide)
  refine ⟨4 + k, by omega, ?_⟩
  rw [Int32.ofNat_add, ← e]; rfl
theorem own_st (x : Int32) {nn : Nat} (hnn : nn = 4 ∨ nn = 5) : ∃ st : Nat, st < nn ∧ ((x &&& (7 : Int32)) % Int32.ofNat nn) = Int32.ofNat st := by
  obtain ⟨k, hk, e⟩ := own_and_nat x 7 (by decide)
  have e' : x &&& (7 : Int32) = Int32.ofNat k := e
  rw [e']
  have q4 : ∀ a : Fin 8, Int32.ofNat a.val % Int32.ofNat 4 = Int32.ofNat (a.val % 4) := by decide +kernel
  have q5 : ∀ a : Fin 8, Int32.ofNat a.val % Int32.ofNat 5 = Int32.ofNat (a.val % 5) := by decide +kernel
  rcases hnn with rfl | rfl
  · exact ⟨k % 4, Nat.mod_lt _ (by decide), q4 ⟨k, by omega⟩⟩
  · exact ⟨k % 5, Nat.mod_lt _ (by decide), q5 ⟨k, by omega⟩⟩
theorem own_nz {nn : Nat} (hnn : nn = 4 ∨ nn = 5) : Int32.ofNat nn ≠ 0 := by rcases hnn with rfl | rfl <;> decide
theorem own_pr {r st nn : Nat} (hr : r ≤ 4) (hnn : nn = 4 ∨ nn = 5) (hst : st < nn) : (Int32.ofNat r + Int32.ofNat st) % Int32.ofNat nn = Int32.ofNat ((r + st) % nn) := by
  rw [← Int32.ofNat_add]
  have q4 : ∀ a : Fin 9, Int32.ofNat a.val % Int32.ofNat 4 = Int32.ofNat (a.val % 4) := by decide +kernel
  have q5 : ∀ a : Fin 9, Int32.ofNat a.val % Int32.ofNat 5 = Int32.ofNat (a.val % 5) := by decide +kernel
  rcases hnn with rfl | rfl
  · exact q4 ⟨r + st, by omega⟩
  · exact q5 ⟨r + st, by omega⟩
theorem own_ps {nn q : Nat} (hnn : nn = 4 ∨ nn = 5) (hq : q < nn) : Int32.ofNat nn - (1 : Int32) - Int32.ofNat q = Int32.ofNat (nn - 1 - q) := by
  have q4 : ∀ a : Fin 4, Int32.ofNat 4 - (1 : Int32) - Int32.ofNat a.val = Int32.ofNat (4 - 1 - a.val) := by decide +kernel
  have q5 : ∀ a : Fin 5, Int32.ofNat 5 - (1 : Int32) - Int32.ofNat a.val = Int32.ofNat (5 - 1 - a.val) := by decide +kernel
  rcases hnn with rfl | rfl
  · exact q4 ⟨q, hq⟩
  · exact q5 ⟨q, hq⟩
theorem own_pls {st nn : Nat} {mi : Int32} (hnn : nn = 4 ∨ nn = 5) (hst : st < nn) :
    (pl 0 st nn mi < nn ∧ pl 1 st nn mi < nn ∧ pl 2 st nn mi < nn ∧ pl 3 st nn mi < nn ∧ pl 4 st nn mi < nn) ∧ (pl 0 st nn mi ≠ pl 1 st nn mi ∧ pl 0 st nn mi ≠ pl 2 st nn mi ∧ pl 0 st nn mi ≠ pl 3 st nn mi ∧ pl 1 st nn mi ≠ pl 2 st nn mi ∧ pl 1 st nn mi ≠ pl 3 st nn mi ∧ pl 2 st nn mi ≠ pl 3 st nn mi) ∧
    (nn = 5 → pl 0 st nn mi ≠ pl 4 st nn mi ∧ pl 1 st nn mi ≠ pl 4 st nn mi ∧ pl 2 st nn mi ≠ pl 4 st nn mi ∧ pl 3 st nn mi ≠ pl 4 st nn mi) := by
  unfold pl
  by_cases q : mi = 0
  · simp only [if_pos q]
    rcases hnn with rfl | rfl <;> omega
  · simp only [if_neg q]
    rcases hnn with rfl | rfl <;> omega
theorem own_given (x : Int32) : 0 ≤ ((x &&& (255 : Int32)).toInt64).toInt := by
  obtain ⟨k, hk, e⟩ := own_and_nat x 255 (by decide)
  have e' : x &&& (255 : Int32) = Int32.ofNat k := e
  rw [e', Int32.toInt_toInt64, own_ofNat (by omega)]
  omega
/-- the sum of what the six edges hold in a cut -/
def K6 (p0 p1 p2 p3 : Nat) (c0 c1 c2 c3 c4 c5 : Int) (S : Nat → Bool) : Int :=
  (if S p0 = true ∧ S p1 = false then c0 else 0) + (if S p0 = true ∧ S p2 = false then c1 else 0) + (if S p1 = true ∧ S p2 = false then c2 else 0) + (if S p2 = true ∧ S p1 = false then c3 else 0) + (if S p1 = true ∧ S p3 = false then c4 else 0) + (if S p2 = true ∧ S p3 = false then c5 else 0)
section M2
variable {nn p0 p1 p2 p3 p4 : Nat} {c0 c1 c2 c3 c4 c5 : Int} {Kc : (Nat → Bool) → Int} {S : Nat → Bool} {F : Int}
theorem K6_at (h0 : S p0 = true) (h3 : S p3 = false) : K6 p0 p1 p2 p3 c0 c1 c2 c3 c4 c5 S = if S p1 = true then (if S p2 = true then c4 + c5 else c1 + c2 + c4) else (if S p2 = true then c0 + c3 + c5 else c0 + c1) := by
  unfold K6
  rw [h0, h3]
  cases S p1 <;> cases S p2 <;> simp <;> omega
def T4 (p0 p1 p2 : Nat) (a b : Bool) : Nat → Bool := fun v => decide (v = p0) || (a && decide (v = p1)) || (b && decide (v = p2))
theorem T4_at (d01 : p0 ≠ p1) (d02 : p0 ≠ p2) (d03 : p0 ≠ p3) (d12 : p1 ≠ p2) (d13 : p1 ≠ p3) (d23 : p2 ≠ p3) (a b : Bool) : T4 p0 p1 p2 a b p0 = true ∧ T4 p0 p1 p2 a b p1 = a ∧ T4 p0 p1 p2 a b p2 = b ∧ T4 p0 p1 p2 a b p3 = false := by
  unfold T4
  simp [d01.symm, d02.symm, d03.symm, d12, d12.symm, d13.symm, d23.symm]
theorem own_null (d01 : p0 ≠ p1) (d02 : p0 ≠ p2) (d03 : p0 ≠ p3) (d12 : p1 ≠ p2) (d13 : p1 ≠ p3) (d23 : p2 ≠ p3) (hK : ∀ S, Kc S = K6 p0 p1 p2 p3 c0 c1 c2 c3 c4 c5 S) {X : Int} (h : ∀ S : Nat → Bool, S p0 = true → S p3 = false → X ≤ Kc S) :
    X ≤ c0 + c1 ∧ X ≤ c1 + c2 + c4 ∧ X ≤ c0 + c3 + c5 ∧ X ≤ c4 + c5 := by
  have g : ∀ a b : Bool, X ≤ if a = true then (if b = true then c4 + c5 else c1 + c2 + c4) else (if b = true then c0 + c3 + c5 else c0 + c1) := fun a b => by
    obtain ⟨t0, t1, t2, t3⟩ := T4_at d01 d02 d03 d12 d13 d23 a b
    have z := h _ t0 t3
    rw [hK, K6_at t0 t3, t1, t2] at z
    exact z
  exact ⟨by simpa using g false false, by simpa using g true false, by simpa using g false true, by simpa using g true true⟩
theorem own_side (d01 : p0 ≠ p1) (d02 : p0 ≠ p2) (d03 : p0 ≠ p3) (d12 : p1 ≠ p2) (d13 : p1 ≠ p3) (d23 : p2 ≠ p3) (l1 : p1 < nn) (l2 : p2 < nn) (hK : ∀ S, Kc S = K6 p0 p1 p2 p3 c0 c1 c2 c3 c4 c5 S) (sd : SideK nn Kc p0 p3 S F) :
    (F ≤ c0 + c1 ∧ F ≤ c1 + c2 + c4 ∧ F ≤ c0 + c3 + c5 ∧ F ≤ c4 + c5) ∧ (F = c0 + c1 ∨ F = c1 + c2 + c4 ∨ F = c0 + c3 + c5 ∨ F = c4 + c5) ∧ (S p1 = true ↔ (c0 + c1 ≠ F ∧ c0 + c3 + c5 ≠ F)) ∧ (S p2 = true ↔ (c0 + c1 ≠ F ∧ c1 + c2 + c4 ≠ F)) := by
  have le := own_null d01 d02 d03 d12 d13 d23 hK (fun S' h1 h2 => (sd.2.2.2 S' h1 h2).1)
  have ev := sd.2.2.1
  rw [hK, K6_at sd.1 sd.2.1] at ev
  have tight : ∀ a b : Bool, (if a = true then (if b = true then c4 + c5 else c1 + c2 + c4) else (if b = true then c0 + c3 + c5 else c0 + c1)) = F → (S p1 = true → a = true) ∧ (S p2 = true → b = true) := fun a b h => by
    obtain ⟨t0, t1, t2, t3⟩ := T4_at d01 d02 d03 d12 d13 d23 a b
    have z := (sd.2.2.2 _ t0 t3).2 (by rw [hK, K6_at t0 t3, t1, t2]; exact h)
    exact ⟨fun q => t1 ▸ z p1 l1 q, fun q => t2 ▸ z p2 l2 q⟩
  have tff := tight false false; have ttf := tight true false; have tft := tight false true
  refine ⟨le, ?_, ?_, ?_⟩
  · cases a : S p1 <;> cases b : S p2 <;> simp [a, b] at ev <;> omega
  · cases a : S p1 <;> cases b : S p2 <;> simp [a, b] at ev tff ttf tft ⊢ <;> omega
  · cases a : S p1 <;> cases b : S p2 <;> simp [a, b] at ev tff ttf tft ⊢ <;> omega
theorem own_iso (e0 : p0 ≠ p4) (e1 : p1 ≠ p4) (e2 : p2 ≠ p4) (e3 : p3 ≠ p4) (l4 : p4 < nn) (hK : ∀ S, Kc S = K6 p0 p1 p2 p3 c0 c1 c2 c3 c4 c5 S) (sd : SideK nn Kc p0 p3 S F) : S p4 = false := by
  cases q : S p4 with
  | false => rfl
  | true =>
    have z := (sd.2.2.2 (fun v => S v && !decide (v = p4)) (by simp [sd.1, e0]) (by simp [sd.2.1])).2 (by
      rw [sd.2.2.1, hK, hK]; unfold K6; simp [e0, e1, e2, e3]) p4 l4 q
    simp at z
end M2
theorem own_r6 {h0 h1 h2 h3 h4 h5 g0 g1 g2 g3 g4 g5 : Int64} (a0 : 0 ≤ g0.toInt) (a1 : 0 ≤ g1.toInt) (a2 : 0 ≤ g2.toInt) (a3 : 0 ≤ g3.toInt) (a4 : 0 ≤ g4.toInt) (a5 : 0 ≤ g5.toInt)
    (e0 : own_minL g0 2305843009213693951 = h0) (e1 : own_minL g1 2305843009213693951 = h1) (e2 : own_minL g2 2305843009213693951 = h2) (e3 : own_minL g3 2305843009213693951 = h3) (e4 : own_minL g4 2305843009213693951 = h4) (e5 : own_minL g5 2305843009213693951 = h5) :
    (h0 + h1).toInt = min g0.toInt 2305843009213693951 + min g1.toInt 2305843009213693951 ∧ (h1 + h2 + h4).toInt = min g1.toInt 2305843009213693951 + min g2.toInt 2305843009213693951 + min g4.toInt 2305843009213693951 ∧ (h0 + h3 + h5).toInt = min g0.toInt 2305843009213693951 + min g3.toInt 2305843009213693951 + min g5.toInt 2305843009213693951 ∧ (h4 + h5).toInt = min g4.toInt 2305843009213693951 + min g5.toInt 2305843009213693951 := by
  have m : ∀ {g h : Int64}, 0 ≤ g.toInt → own_minL g 2305843009213693951 = h → h.toInt = min g.toInt 2305843009213693951 ∧ 0 ≤ h.toInt ∧ h.toInt ≤ 2305843009213693951 := fun {g h} a e => by
    have z := own_minL_toInt g 2305843009213693951
    rw [e, show (2305843009213693951 : Int64).toInt = 2305843009213693951 from rfl] at z
    omega
  have m0 := m a0 e0; have m1 := m a1 e1; have m2 := m a2 e2; have m3 := m a3 e3; have m4 := m a4 e4; have m5 := m a5 e5
  have s1 := own_ladd m0.2.1 m1.2.1 (by omega)
  have s2 := own_ladd m1.2.1 m2.2.1 (by omega)
  have s3 := own_ladd (x := h1 + h2) (y := h4) (by omega) m4.2.1 (by omega)
  have s4 := own_ladd m0.2.1 m3.2.1 (by omega)
  have s5 := own_ladd (x := h0 + h3) (y := h5) (by omega) m5.2.1 (by omega)
  have s6 := own_ladd m4.2.1 m5.2.1 (by omega)
  omega

def Q_c_min (Z : State) (n0 : Nat) (h0 : Heap) (y0 : Int64) (y1 : Int64) : Option Value → Heap → Prop := fun v h => v = some (.long (own_minL y0 y1)) ∧ h0 = h
abbrev rm_c_min : Room := { frames := 0, cells := 0, slots := 0, locals := 0 }
set_option maxHeartbeats 40000000 in
theorem c_min (l : Launch) (Z : State) (a0 : Array Value) (hw : ∀ d ∈ tables_1, d.before a0 Z = true) (n0 : Nat) (h0 : Heap) (hn : n0 ≤ h0.size) (y0 : Int64) (y1 : Int64) :
    Mt l Z (⟨"java/lang/Math", "min", "(JJ)J"⟩ : MethodName) jdk_29_method_70_code 4 (some .long) rm_c_min n0 #[(.long y0), (.long y1)] h0 (Q_c_min Z n0 h0 y0 y1) := by
  refine met_of (Jvm.Free.JP.mathPlain rfl (by decide +kernel)) (Ls := #[.val (.long y0), .second, .val (.long y1), .second]) (fun m => by first | (simp [entryFrame, mkF, argsToLocals, Value.category]; done) | rfl) hn ?_
  intro p e s m below meth c T K W
  replace K : Cx p s m meth c Z "java/lang/Math" "min" jdk_29_method_70_code 4 (some .long) := K
  generalize eA : (#[(.long y0), (.long y1)] : Array Value) = args at W
  show Go p e below s n0 (Q_c_min Z n0 h0 y0 y1) 0 0 T (mkF m 0 #[.val (.long y0), .second, .val (.long y1), .second] [])
  refine g_lloadN K W d8_0 rfl (pc' := 1) rfl ?_
  refine g_lloadN K W d8_1 rfl (pc' := 2) rfl ?_
  refine g_lcmp_gt K W d8_2 (pc1 := 3) rfl d8_3 (pt := 10) rfl (pf := 6) rfl (fun hc2 => ?_) (fun hc2 => ?_)
  · refine g_lloadN K W d8_10 rfl (pc' := 11) rfl ?_
    exact g_retL K W d8_11 (by decide) (by decide) ⟨by unfold own_minL; rw [if_pos hc2], rfl⟩
  · refine g_lloadN K W d8_6 rfl (pc' := 7) rfl ?_
    refine g_goto K W d8_7 (pt := 11) rfl ?_
    exact g_retL K W d8_11 (by decide) (by decide) ⟨by unfold own_minL; rw [if_neg hc2], rfl⟩
def Q_c_fill (Z : State) (n0 : Nat) (h0 : Heap) (o0 : Addr) (x1 : Int32) (nn : Nat) (f : Nat → Int32) : Option Value → Heap → Prop := fun v h => v = none ∧ Keep h0 h [o0] ∧ ∃ g : Nat → Int32, AyI Z h o0 .int nn g ∧ ∀ j, j < nn → g j = x1
abbrev rm_c_fill : Room := { frames := 0, cells := 0, slots := 0, locals := 0 }
set_option maxHeartbeats 40000000 in
theorem c_fill (l : Launch) (Z : State) (a0 : Array Value) (hw : ∀ d ∈ tables_1, d.before a0 Z = true) (n0 : Nat) (h0 : Heap) (hn : n0 ≤ h0.size) (o0 : Addr) (x1 : Int32) (nn : Nat) (f : Nat → Int32) (A_o0 : AyI Z h0 o0 .int nn f) (ge_o0 : n0 ≤ o0) (hn5 : nn ≤ 5) :
    Mt l Z (⟨"java/util/Arrays", "fill", "([II)V"⟩ : MethodName) jdk_65_method_103_code 4 none rm_c_fill n0 #[(.ref o0), (.int x1)] h0 (Q_c_fill Z n0 h0 o0 x1 nn f) := by
  refine met_of (plainFor_of_name pn_0) (Ls := #[.val (.ref o0), .val (.int x1), .unset, .unset]) (fun m => by first | (simp [entryFrame, mkF, argsToLocals, Value.category]; done) | rfl) hn ?_
  intro p e s m below meth c T K W
  replace K : Cx p s m meth c Z "java/util/Arrays" "fill" jdk_65_method_103_code 4 none := K
  generalize eA : (#[(.ref o0), (.int x1)] : Array Value) = args at W
  show Go p e below s n0 (Q_c_fill Z n0 h0 o0 x1 nn f) 0 0 T (mkF m 0 #[.val (.ref o0), .val (.int x1), .unset, .unset] [])
  have kp := Keep.refl h0 [o0]
  refine g_iconst K W (v := (0 : Int32)) d5_0 rfl (pc' := 1) rfl ?_
  refine g_istoreN K W d5_1 (Ls' := #[.val (.ref o0), .val (.int x1), .val (.int (0 : Int32)), .unset]) rfl (pc' := 2) rfl ?_
  refine g_aloadN K W d5_2 rfl rfl (pc' := 3) rfl ?_
  refine g_alenI K W A_o0 (v := (Int32.ofNat nn)) rfl d5_3 (pc' := 4) rfl ?_
  refine g_istoreN K W d5_4 (Ls' := #[.val (.ref o0), .val (.int x1), .val (.int (0 : Int32)), .val (.int (Int32.ofNat nn))]) rfl (pc' := 5) rfl ?_
  have loop : ∀ (k : Nat) (i : Nat) (f : Nat → Int32) (T : State) (h : Heap), nn - i = k → i ≤ nn → (∀ j, j < i → f j = x1) → AyI Z h o0 .int nn f → Keep h0 h [o0] → Wd p l e rm_c_fill s m args below meth c n0 T h 0 0 → Go p e below s n0 (Q_c_fill Z n0 h0 o0 x1 nn f) 0 0 T (mkF m 5 #[.val (.ref o0), .val (.int x1), .val (.int (Int32.ofNat i)), .val (.int (Int32.ofNat nn))] []) := by
    intro k
    induction k using Nat.strongRecOn with
    | ind k ih =>
      intro i f T h hk hi hf A_o0 kp W
      refine g_iloadN K W d5_5 rfl (pc' := 6) rfl ?_
      refine g_iloadN K W d5_6 rfl (pc' := 7) rfl ?_
      refine g_icmp_ge K W d5_7 (pt := 20) rfl (pf := 10) rfl (fun hc7 => ?_) (fun hc7 => ?_)
      · refine g_aloadN K W d5_10 rfl rfl (pc' := 11) rfl ?_
        refine g_iloadN K W d5_11 rfl (pc' := 12) rfl ?_
        refine g_iloadN K W d5_12 rfl (pc' := 13) rfl ?_
        refine g_iastore K W A_o0 (k := i) (own_ofNat (by omega)) ((own_lt (i := i) (n := nn) (by omega) (by omega)).mp hc7) ge_o0 d5_13 (pc' := 14) rfl (fun T h W w A_o0 => ?_)
        have kp := kp.wr w (Or.inl (List.mem_of_getElem? (i := 0) rfl))
        refine g_iinc K W d5_14 rfl (Ls' := #[.val (.ref o0), .val (.int x1), .val (.int ((Int32.ofNat i) + (1 : Int32))), .val (.int (Int32.ofNat nn))]) rfl (pc' := 17) rfl ?_
        refine g_goto K W d5_17 (pt := 5) rfl ?_
        rw [own_one]
        exact ih (nn - (i + 1)) (by have := ((own_lt (i := i) (n := nn) (by omega) (by omega)).mp hc7); omega) (i + 1) (upd f i x1) T h rfl (by have := ((own_lt (i := i) (n := nn) (by omega) (by omega)).mp hc7); omega) (fun j hj => if q : j = i then by rw [q, upd_same] else by rw [upd_ne _ _ q]; exact hf j (by omega)) A_o0 kp W
      · exact g_ret0 K W d5_20 (by decide) (by decide) ⟨rfl, kp, f, A_o0, fun j hj => hf j (by have := (not_congr (own_lt (i := i) (n := nn) (by omega) (by omega))).mp hc7; omega)⟩
  exact loop nn 0 _ T h0 rfl (Nat.zero_le _) (fun j hj => absurd hj (Nat.not_lt_zero _)) A_o0 kp W
def Q_c_level (Z : State) (n0 : Nat) (h0 : Heap) (o0 : Addr) (xs : Int32) (xt : Int32) (o3 : Addr) (o4 : Addr) (ah : Addr) (ac : Addr) (an : Addr) (af : Addr) (nn : Nat) (kk : Nat) (M : Nat) (H : Nat → Nat) (Hf : Nat → Int32) (Cf : Nat → Int64) (Nf : Nat → Int32) (Ff : Nat → Int32) (sr : Nat) (sk : Nat) (L0 : Nat → Int32) (Q0 : Nat → Int32) : Option Value → Heap → Prop := fun v h => (v = some (.int 1) ∧ ∃ Lf Qf : Nat → Int32, AyI Z h o3 .int nn Lf ∧ AyI Z h o4 .int nn Qf ∧ Keep h0 h [o3, o4] ∧ LV nn kk H (Ci Cf) sr (Li Lf) ∧ ¬ Li Lf sk < 0) ∨ (v = some (.int 0) ∧ ∃ Lf Qf : Nat → Int32, AyI Z h o3 .int nn Lf ∧ AyI Z h o4 .int nn Qf ∧ Keep h0 h [o3, o4] ∧ LV nn kk H (Ci Cf) sr (Li Lf) ∧ Li Lf sk < 0)
abbrev rm_c_level : Room := { frames := 1, cells := 0, slots := 0, locals := 15 }
set_option maxHeartbeats 40000000 in
theorem c_level (l : Launch) (Z : State) (a0 : Array Value) (hw : ∀ d ∈ tables_1, d.before a0 Z = true) (n0 : Nat) (h0 : Heap) (hn : n0 ≤ h0.size) (o0 : Addr) (xs : Int32) (xt : Int32) (o3 : Addr) (o4 : Addr) (ah : Addr) (ac : Addr) (an : Addr) (af : Addr) (nn : Nat) (kk : Nat) (M : Nat) (H : Nat → Nat) (Hf : Nat → Int32) (Cf : Nat → Int64) (Nf : Nat → Int32) (Ff : Nat → Int32) (sr : Nat) (sk : Nat) (L0 : Nat → Int32) (Q0 : Nat → Int32) (X_o0 : Exa Z h0 o0 "com/example/ichnos/ichnos/planning/ils/MinCut") (F_o0_heads : Fld Z h0 o0 "com/example/ichnos/ichnos/planning/ils/MinCut" "heads" "[I" (.ref ah)) (F_o0_capacities : Fld Z h0 o0 "com/example/ichnos/ichnos/planning/ils/MinCut" "capacities" "[J" (.ref ac)) (F_o0_nextOut : Fld Z h0 o0 "com/example/ichnos/ichnos/planning/ils/MinCut" "nextOut" "[I" (.ref an)) (F_o0_firstOut : Fld Z h0 o0 "com/example/ichnos/ichnos/planning/ils/MinCut" "firstOut" "[I" (.ref af)) (F_o0_nodes : Fld Z h0 o0 "com/example/ichnos/ichnos/planning/ils/MinCut" "nodes" "I" (.int (Int32.ofNat nn))) (A_ah : AyI Z h0 ah .int M Hf) (A_ac : AyJ Z h0 ac M Cf) (A_an : AyI Z h0 an .int M Nf) (A_af : AyI Z h0 af .int nn Ff) (A_o3 : AyI Z h0 o3 .int nn L0) (A_o4 : AyI Z h0 o4 .int nn Q0) (ge_o3 : n0 ≤ o3) (ge_o4 : n0 ≤ o4) (ne_o0_o3 : o0 ≠ o3) (ne_o0_o4 : o0 ≠ o4) (ne_ah_o3 : ah ≠ o3) (ne_ah_o4 : ah ≠ o4) (ne_ac_o3 : ac ≠ o3) (ne_ac_o4 : ac ≠ o4) (ne_an_o3 : an ≠ o3) (ne_an_o4 : an ≠ o4) (ne_af_o3 : af ≠ o3) (ne_af_o4 : af ≠ o4) (ne_o3_o4 : o3 ≠ o4) (ne_o4_o3 : o4 ≠ o3) (exs : xs = Int32.ofNat sr) (ext : xt = Int32.ofNat sk) (hs : sr < nn) (ht : sk < nn) (gp : GP nn kk M H Hf Nf Ff) :
    Mt l Z (⟨"com/example/ichnos/ichnos/planning/ils/MinCut", "level", "(II[I[I)Z"⟩ : MethodName) prog_66_method_5_code 9 (some .boolean) rm_c_level n0 #[(.ref o0), (.int xs), (.int xt), (.ref o3), (.ref o4)] h0 (Q_c_level Z n0 h0 o0 xs xt o3 o4 ah ac an af nn kk M H Hf Cf Nf Ff sr sk L0 Q0) := by
  refine met_of (plainFor_of_name pn_1) (Ls := #[.val (.ref o0), .val (.int xs), .val (.int xt), .val (.ref o3), .val (.ref o4), .unset, .unset, .unset, .unset]) (fun m => by first | (simp [entryFrame, mkF, argsToLocals, Value.category]; done) | rfl) hn ?_
  intro p e s m below meth c T K W
  replace K : Cx p s m meth c Z "com/example/ichnos/ichnos/planning/ils/MinCut" "level" prog_66_method_5_code 9 (some .boolean) := K
  generalize eA : (#[(.ref o0), (.int xs), (.int xt), (.ref o3), (.ref o4)] : Array Value) = args at W
  show Go p e below s n0 (Q_c_level Z n0 h0 o0 xs xt o3 o4 ah ac an af nn kk M H Hf Cf Nf Ff sr sk L0 Q0) 0 0 T (mkF m 0 #[.val (.ref o0), .val (.int xs), .val (.int xt), .val (.ref o3), .val (.ref o4), .unset, .unset, .unset, .unset] [])
  have kp := Keep.refl h0 [o3, o4]
  subst exs ext
  show Go p e below s n0 (Q_c_level Z n0 h0 o0 (Int32.ofNat sr) (Int32.ofNat sk) o3 o4 ah ac an af nn kk M H Hf Cf Nf Ff sr sk L0 Q0) 0 0 T (mkF m 0 #[.val (.ref o0), .val (.int (Int32.ofNat sr)), .val (.int (Int32.ofNat sk)), .val (.ref o3), .val (.ref o4), .unset, .unset, .unset, .unset] [])
  obtain ⟨hn5, hk16, hkM, hM32, hH, hHf, hNf, hFf⟩ := gp
  refine g_aloadN K W d11_0 rfl rfl (pc' := 1) rfl ?_
  refine g_iconst K W (v := (-1 : Int32)) d11_1 rfl (pc' := 2) rfl ?_
  refine g_callS (c_fill l Z a0 hw n0 _ W.sz o3 (-1 : Int32) nn _ A_o3 ge_o3 hn5) K W (hw _ (List.mem_of_getElem? (i := 28) rfl)) (hw _ (List.mem_of_getElem? (i := 29) rfl)) (hw _ (List.mem_of_getElem? (i := 30) rfl)) (hw _ (List.mem_of_getElem? (i := 31) rfl)) (by decide) (lenOf pd_0 rfl) d11_2 (pc' := 5) rfl (argsL := [(.ref o3), (.int (-1 : Int32))]) (rest := []) rfl rfl (by decide) (wt := 0) rfl (by decide) (by decide) (by decide) ?_
  rintro T h _ W ⟨rfl, kq, g, A_o3, hg⟩
  show Go p e below s n0 (Q_c_level Z n0 h0 o0 (Int32.ofNat sr) (Int32.ofNat sk) o3 o4 ah ac an af nn kk M H Hf Cf Nf Ff sr sk L0 Q0) 0 0 T (mkF m 5 #[.val (.ref o0), .val (.int (Int32.ofNat sr)), .val (.int (Int32.ofNat sk)), .val (.ref o3), .val (.ref o4), .unset, .unset, .unset, .unset] [])
  have kp := kp.trans kq (allS (Or.inl (List.mem_of_getElem? (i := 0) rfl)) all0)
  have X_o0 := X_o0.keep kq
  have F_o0_heads := F_o0_heads.keep kq (ninS ne_o0_o3 nin0)
  have F_o0_capacities := F_o0_capacities.keep kq (ninS ne_o0_o3 nin0)
  have F_o0_nextOut := F_o0_nextOut.keep kq (ninS ne_o0_o3 nin0)
  have F_o0_firstOut := F_o0_firstOut.keep kq (ninS ne_o0_o3 nin0)
  have F_o0_nodes := F_o0_nodes.keep kq (ninS ne_o0_o3 nin0)
  have A_ah := A_ah.keep kq (ninS ne_ah_o3 nin0)
  have A_ac := A_ac.keep kq (ninS ne_ac_o3 nin0)
  have A_an := A_an.keep kq (ninS ne_an_o3 nin0)
  have A_af := A_af.keep kq (ninS ne_af_o3 nin0)
  have A_o4 := A_o4.keep kq (ninS ne_o4_o3 nin0)
  refine g_aloadN K W d11_5 rfl rfl (pc' := 6) rfl ?_
  refine g_iloadN K W d11_6 rfl (pc' := 7) rfl ?_
  refine g_iconst K W (v := (0 : Int32)) d11_7 rfl (pc' := 8) rfl ?_
  refine g_iastore K W A_o3 (k := sr) (own_ofNat (by omega)) hs ge_o3 d11_8 (pc' := 9) rfl (fun T h W w A_o3 => ?_)
  have kp := kp.wr w (Or.inl (List.mem_of_getElem? (i := 0) rfl))
  have X_o0 := X_o0.wr w
  have F_o0_heads := F_o0_heads.other w (Or.inl ne_o0_o3)
  have F_o0_capacities := F_o0_capacities.other w (Or.inl ne_o0_o3)
  have F_o0_nextOut := F_o0_nextOut.other w (Or.inl ne_o0_o3)
  have F_o0_firstOut := F_o0_firstOut.other w (Or.inl ne_o0_o3)
  have F_o0_nodes := F_o0_nodes.other w (Or.inl ne_o0_o3)
  have A_ah := A_ah.other w ne_ah_o3
  have A_ac := A_ac.other w ne_ac_o3
  have A_an := A_an.other w ne_an_o3
  have A_af := A_af.other w ne_af_o3
  have A_o4 := A_o4.other w ne_o4_o3
  refine g_aload K W d11_9 rfl rfl (pc' := 11) rfl ?_
  refine g_iconst K W (v := (0 : Int32)) d11_11 rfl (pc' := 12) rfl ?_
  refine g_iloadN K W d11_12 rfl (pc' := 13) rfl ?_
  refine g_iastore K W A_o4 (k := 0) rfl (by omega) ge_o4 d11_13 (pc' := 14) rfl (fun T h W w A_o4 => ?_)
  have kp := kp.wr w (Or.inl (List.mem_of_getElem? (i := 1) rfl))
  have X_o0 := X_o0.wr w
  have F_o0_heads := F_o0_heads.other w (Or.inl ne_o0_o4)
  have F_o0_capacities := F_o0_capacities.other w (Or.inl ne_o0_o4)
  have F_o0_nextOut := F_o0_nextOut.other w (Or.inl ne_o0_o4)
  have F_o0_firstOut := F_o0_firstOut.other w (Or.inl ne_o0_o4)
  have F_o0_nodes := F_o0_nodes.other w (Or.inl ne_o0_o4)
  have A_ah := A_ah.other w ne_ah_o4
  have A_ac := A_ac.other w ne_ac_o4
  have A_an := A_an.other w ne_an_o4
  have A_af := A_af.other w ne_af_o4
  have A_o3 := A_o3.other w ne_o3_o4
  refine g_iconst K W (v := (1 : Int32)) d11_14 rfl (pc' := 15) rfl ?_
  refine g_istore K W d11_15 (Ls' := #[.val (.ref o0), .val (.int (Int32.ofNat sr)), .val (.int (Int32.ofNat sk)), .val (.ref o3), .val (.ref o4), .val (.int (1 : Int32)), .unset, .unset, .unset]) rfl (pc' := 17) rfl ?_
  refine g_iconst K W (v := (0 : Int32)) d11_17 rfl (pc' := 18) rfl ?_
  refine g_istore K W d11_18 (Ls' := #[.val (.ref o0), .val (.int (Int32.ofNat sr)), .val (.int (Int32.ofNat sk)), .val (.ref o3), .val (.ref o4), .val (.int (1 : Int32)), .val (.int (0 : Int32)), .unset, .unset]) rfl (pc' := 20) rfl ?_
  have loop1 : ∀ (mz : Nat) (hd : Nat) (tq : Nat) (Lf : Nat → Int32) (Qf : Nat → Int32) (q : Nat → Nat) (s7 : Slot) (s8 : Slot) (T : State) (h : Heap), nn - hd = mz → BI nn kk H (Ci Cf) sr (Li Lf) q hd tq → (∀ j, j < tq → Qf j = Int32.ofNat (q j)) → (s7 = .unset ∨ ∃ z : Int32, s7 = .val (.int z)) → (s8 = .unset ∨ ∃ z : Int32, s8 = .val (.int z)) → Exa Z h o0 "com/example/ichnos/ichnos/planning/ils/MinCut" → Fld Z h o0 "com/example/ichnos/ichnos/planning/ils/MinCut" "heads" "[I" (.ref ah) → Fld Z h o0 "com/example/ichnos/ichnos/planning/ils/MinCut" "capacities" "[J" (.ref ac) → Fld Z h o0 "com/example/ichnos/ichnos/planning/ils/MinCut" "nextOut" "[I" (.ref an) → Fld Z h o0 "com/example/ichnos/ichnos/planning/ils/MinCut" "firstOut" "[I" (.ref af) → Fld Z h o0 "com/example/ichnos/ichnos/planning/ils/MinCut" "nodes" "I" (.int (Int32.ofNat nn)) → AyI Z h ah .int M Hf → AyJ Z h ac M Cf → AyI Z h an .int M Nf → AyI Z h af .int nn Ff → AyI Z h o3 .int nn Lf → AyI Z h o4 .int nn Qf → Keep h0 h [o3, o4] → Wd p l e rm_c_level s m args below meth c n0 T h 0 0 → Go p e below s n0 (Q_c_level Z n0 h0 o0 (Int32.ofNat sr) (Int32.ofNat sk) o3 o4 ah ac an af nn kk M H Hf Cf Nf Ff sr sk L0 Q0) 0 0 T (mkF m 20 #[.val (.ref o0), .val (.int (Int32.ofNat sr)), .val (.int (Int32.ofNat sk)), .val (.ref o3), .val (.ref o4), .val (.int (Int32.ofNat tq)), .val (.int (Int32.ofNat hd)), s7, s8] []) := by
    intro mz
    induction mz using Nat.strongRecOn with
    | ind mz ih =>
      intro hd tq Lf Qf q s7 s8 T h hm bi hq hs_s7 hs_s8 X_o0 F_o0_heads F_o0_capacities F_o0_nextOut F_o0_firstOut F_o0_nodes A_ah A_ac A_an A_af A_o3 A_o4 kp W
      have ih0 := ih
      have htq : tq ≤ nn := Nat.le_trans bi.2.2.1 (cn_le _ _)
      have hhd := bi.2.1
      refine g_iload K W d11_20 rfl (pc' := 22) rfl ?_
      refine g_iload K W d11_22 rfl (pc' := 24) rfl ?_
      refine g_icmp_ge K W d11_24 (pt := 120) rfl (pf := 27) rfl (fun hc24 => ?_) (fun hc24 => ?_)
      · have hlt : hd < tq := (own_lt (by omega) (by omega)).mp hc24
        have hqn := bi.2.2.2.2.1 hd hlt
        obtain ⟨u, hu⟩ : ∃ u, q hd = u := ⟨_, rfl⟩
        rw [hu] at hqn
        have hun := hqn.1
        refine g_aload K W d11_27 rfl rfl (pc' := 29) rfl ?_
        refine g_iload K W d11_29 rfl (pc' := 31) rfl ?_
        refine g_iaload K W A_o4 (k := hd) (own_ofNat (by omega)) (by omega) (v := (Int32.ofNat u)) (by rw [← hu]; exact hq hd hlt) d11_31 (pc' := 32) rfl ?_
        refine g_istore K W d11_32 (Ls' := #[.val (.ref o0), .val (.int (Int32.ofNat sr)), .val (.int (Int32.ofNat sk)), .val (.ref o3), .val (.ref o4), .val (.int (Int32.ofNat tq)), .val (.int (Int32.ofNat hd)), .val (.int (Int32.ofNat u)), s8]) (by rcases hs_s7 with rfl | ⟨z, rfl⟩ <;> rfl) (pc' := 34) rfl ?_
        refine g_aloadN K W d11_34 rfl rfl (pc' := 35) rfl ?_
        refine g_getF K W (host := "") (Or.inl (hw _ (List.mem_of_getElem? (i := 26) rfl))) Via.refl F_o0_firstOut d11_35 (pc' := 38) rfl (fun T W => ?_)
        refine g_iload K W d11_38 rfl (pc' := 40) rfl ?_
        refine g_iaload K W A_af (k := u) (own_ofNat (by omega)) hun (v := (Ff u)) rfl d11_40 (pc' := 41) rfl ?_
        refine g_istore K W d11_41 (Ls' := #[.val (.ref o0), .val (.int (Int32.ofNat sr)), .val (.int (Int32.ofNat sk)), .val (.ref o3), .val (.ref o4), .val (.int (Int32.ofNat tq)), .val (.int (Int32.ofNat hd)), .val (.int (Int32.ofNat u)), .val (.int (Ff u))]) (by rcases hs_s8 with rfl | ⟨z, rfl⟩ <;> rfl) (pc' := 43) rfl ?_
        have loop2 : ∀ (my : Nat) (b : Nat) (x8 : Int32) (tq : Nat) (Lf : Nat → Int32) (Qf : Nat → Int32) (q : Nat → Nat) (T : State) (h : Heap), b = my → x8.toInt = prv H u b → b ≤ 2 * kk → hd < tq → q hd = u → u < nn → BI nn kk H (Ci Cf) sr (Li Lf) q hd tq → (∀ j, j < tq → Qf j = Int32.ofNat (q j)) → (∀ ed, b ≤ ed → ed < 2 * kk → tl H ed = u → 0 < Ci Cf ed → 0 ≤ Li Lf (H ed)) → Exa Z h o0 "com/example/ichnos/ichnos/planning/ils/MinCut" → Fld Z h o0 "com/example/ichnos/ichnos/planning/ils/MinCut" "heads" "[I" (.ref ah) → Fld Z h o0 "com/example/ichnos/ichnos/planning/ils/MinCut" "capacities" "[J" (.ref ac) → Fld Z h o0 "com/example/ichnos/ichnos/planning/ils/MinCut" "nextOut" "[I" (.ref an) → Fld Z h o0 "com/example/ichnos/ichnos/planning/ils/MinCut" "firstOut" "[I" (.ref af) → Fld Z h o0 "com/example/ichnos/ichnos/planning/ils/MinCut" "nodes" "I" (.int (Int32.ofNat nn)) → AyI Z h ah .int M Hf → AyJ Z h ac M Cf → AyI Z h an .int M Nf → AyI Z h af .int nn Ff → AyI Z h o3 .int nn Lf → AyI Z h o4 .int nn Qf → Keep h0 h [o3, o4] → Wd p l e rm_c_level s m args below meth c n0 T h 0 0 → Go p e below s n0 (Q_c_level Z n0 h0 o0 (Int32.ofNat sr) (Int32.ofNat sk) o3 o4 ah ac an af nn kk M H Hf Cf Nf Ff sr sk L0 Q0) 0 0 T (mkF m 43 #[.val (.ref o0), .val (.int (Int32.ofNat sr)), .val (.int (Int32.ofNat sk)), .val (.ref o3), .val (.ref o4), .val (.int (Int32.ofNat tq)), .val (.int (Int32.ofNat hd)), .val (.int (Int32.ofNat u)), .val (.int x8)] []) := by
          intro my
          induction my using Nat.strongRecOn with
          | ind my ih =>
            intro b x8 tq Lf Qf q T h hm hx8 hb hlt hu hun bi hq hcl X_o0 F_o0_heads F_o0_capacities F_o0_nextOut F_o0_firstOut F_o0_nodes A_ah A_ac A_an A_af A_o3 A_o4 kp W
            have htq : tq ≤ nn := Nat.le_trans bi.2.2.1 (cn_le _ _)
            refine g_iload K W d11_43 rfl (pc' := 45) rfl ?_
            refine g_if_lt K W d11_45 (pt := 114) rfl (pf := 48) rfl (fun hc45 => ?_) (fun hc45 => ?_)
            · refine g_iinc K W d11_114 rfl (Ls' := #[.val (.ref o0), .val (.int (Int32.ofNat sr)), .val (.int (Int32.ofNat sk)), .val (.ref o3), .val (.ref o4), .val (.int (Int32.ofNat tq)), .val (.int ((Int32.ofNat hd) + (1 : Int32))), .val (.int (Int32.ofNat u)), .val (.int x8)]) rfl (pc' := 117) rfl ?_
              refine g_goto K W d11_117 (pt := 20) rfl ?_
              rw [own_one]
              exact ih0 (nn - (hd + 1)) (by omega) (hd + 1) tq Lf Qf q _ _ T h rfl (bi.next hlt (fun ed h1 h2 h3 => (prv_or H u b ed).elim (fun z => hcl ed z h1 (h2.trans hu) h3) (fun z => absurd (h2.trans hu) (prv_no (by rw [← hx8]; exact (own_neg _).mp hc45) z)))) hq (Or.inr ⟨_, rfl⟩) (Or.inr ⟨_, rfl⟩) X_o0 F_o0_heads F_o0_capacities F_o0_nextOut F_o0_firstOut F_o0_nodes A_ah A_ac A_an A_af A_o3 A_o4 kp W
            · have hx : ¬ prv H u b < 0 := by rw [← hx8]; exact fun z => hc45 ((own_neg _).mpr z)
              obtain ⟨ed, h1, h2, h3⟩ := prv_at hx
              have hxe : x8.toInt = (ed : Int) := hx8.trans h2
              have hed : ed < 2 * kk := by omega
              have hHe := hH ed hed
              refine g_aloadN K W d11_48 rfl rfl (pc' := 49) rfl ?_
              refine g_getF K W (host := "") (Or.inl (hw _ (List.mem_of_getElem? (i := 20) rfl))) Via.refl F_o0_capacities d11_49 (pc' := 52) rfl (fun T W => ?_)
              refine g_iload K W d11_52 rfl (pc' := 54) rfl ?_
              refine g_laload K W A_ac (k := ed) hxe (by omega) (v := (Cf ed)) rfl d11_54 (pc' := 55) rfl ?_
              refine g_lconst K W (v := (0 : Int64)) d11_55 rfl (pc' := 56) rfl ?_
              refine g_lcmp_le K W d11_56 (pc1 := 57) rfl d11_57 (pt := 102) rfl (pf := 60) rfl (fun hc56 => ?_) (fun hc56 => ?_)
              · refine g_aloadN K W d11_60 rfl rfl (pc' := 61) rfl ?_
                refine g_aloadN K W d11_61 rfl rfl (pc' := 62) rfl ?_
                refine g_getF K W (host := "") (Or.inl (hw _ (List.mem_of_getElem? (i := 18) rfl))) Via.refl F_o0_heads d11_62 (pc' := 65) rfl (fun T W => ?_)
                refine g_iload K W d11_65 rfl (pc' := 67) rfl ?_
                refine g_iaload K W A_ah (k := ed) hxe (by omega) (v := (Int32.ofNat (H ed))) (hHf ed hed) d11_67 (pc' := 68) rfl ?_
                refine g_iaload K W A_o3 (k := (H ed)) (own_ofNat (by omega)) hHe (v := (Lf (H ed))) rfl d11_68 (pc' := 69) rfl ?_
                refine g_if_ge K W d11_69 (pt := 102) rfl (pf := 72) rfl (fun hc69 => ?_) (fun hc69 => ?_)
                · refine g_aloadN K W d11_72 rfl rfl (pc' := 73) rfl ?_
                  refine g_aloadN K W d11_73 rfl rfl (pc' := 74) rfl ?_
                  refine g_getF K W (host := "") (Or.inl (hw _ (List.mem_of_getElem? (i := 18) rfl))) Via.refl F_o0_heads d11_74 (pc' := 77) rfl (fun T W => ?_)
                  refine g_iload K W d11_77 rfl (pc' := 79) rfl ?_
                  refine g_iaload K W A_ah (k := ed) hxe (by omega) (v := (Int32.ofNat (H ed))) (hHf ed hed) d11_79 (pc' := 80) rfl ?_
                  refine g_aloadN K W d11_80 rfl rfl (pc' := 81) rfl ?_
                  refine g_iload K W d11_81 rfl (pc' := 83) rfl ?_
                  refine g_iaload K W A_o3 (k := u) (own_ofNat (by omega)) hun (v := (Lf u)) rfl d11_83 (pc' := 84) rfl ?_
                  refine g_iconst K W (v := (1 : Int32)) d11_84 rfl (pc' := 85) rfl ?_
                  refine g_iadd K W d11_85 (pc' := 86) rfl ?_
                  refine g_iastore K W A_o3 (k := (H ed)) (own_ofNat (by omega)) hHe ge_o3 d11_86 (pc' := 87) rfl (fun T h W w A_o3 => ?_)
                  have kp := kp.wr w (Or.inl (List.mem_of_getElem? (i := 0) rfl))
                  have X_o0 := X_o0.wr w
                  have F_o0_heads := F_o0_heads.other w (Or.inl ne_o0_o3)
                  have F_o0_capacities := F_o0_capacities.other w (Or.inl ne_o0_o3)
                  have F_o0_nextOut := F_o0_nextOut.other w (Or.inl ne_o0_o3)
                  have F_o0_firstOut := F_o0_firstOut.other w (Or.inl ne_o0_o3)
                  have F_o0_nodes := F_o0_nodes.other w (Or.inl ne_o0_o3)
                  have A_ah := A_ah.other w ne_ah_o3
                  have A_ac := A_ac.other w ne_ac_o3
                  have A_an := A_an.other w ne_an_o3
                  have A_af := A_af.other w ne_af_o3
                  have A_o4 := A_o4.other w ne_o4_o3
                  refine g_aload K W d11_87 rfl rfl (pc' := 89) rfl ?_
                  refine g_iload K W d11_89 rfl (pc' := 91) rfl ?_
                  refine g_iinc K W d11_91 rfl (Ls' := #[.val (.ref o0), .val (.int (Int32.ofNat sr)), .val (.int (Int32.ofNat sk)), .val (.ref o3), .val (.ref o4), .val (.int ((Int32.ofNat tq) + (1 : Int32))), .val (.int (Int32.ofNat hd)), .val (.int (Int32.ofNat u)), .val (.int x8)]) rfl (pc' := 94) rfl ?_
                  refine g_aloadN K W d11_94 rfl rfl (pc' := 95) rfl ?_
                  refine g_getF K W (host := "") (Or.inl (hw _ (List.mem_of_getElem? (i := 18) rfl))) Via.refl F_o0_heads d11_95 (pc' := 98) rfl (fun T W => ?_)
                  refine g_iload K W d11_98 rfl (pc' := 100) rfl ?_
                  refine g_iaload K W A_ah (k := ed) hxe (by omega) (v := (Int32.ofNat (H ed))) (hHf ed hed) d11_100 (pc' := 101) rfl ?_
                  refine g_iastore K W A_o4 (k := tq) (own_ofNat (by omega)) (bi.room hHe ((own_neg _).mp hc69)) ge_o4 d11_101 (pc' := 102) rfl (fun T h W w A_o4 => ?_)
                  have kp := kp.wr w (Or.inl (List.mem_of_getElem? (i := 1) rfl))
                  have X_o0 := X_o0.wr w
                  have F_o0_heads := F_o0_heads.other w (Or.inl ne_o0_o4)
                  have F_o0_capacities := F_o0_capacities.other w (Or.inl ne_o0_o4)
                  have F_o0_nextOut := F_o0_nextOut.other w (Or.inl ne_o0_o4)
                  have F_o0_firstOut := F_o0_firstOut.other w (Or.inl ne_o0_o4)
                  have F_o0_nodes := F_o0_nodes.other w (Or.inl ne_o0_o4)
                  have A_ah := A_ah.other w ne_ah_o4
                  have A_ac := A_ac.other w ne_ac_o4
                  have A_an := A_an.other w ne_an_o4
                  have A_af := A_af.other w ne_af_o4
                  have A_o3 := A_o3.other w ne_o3_o4
                  refine g_aloadN K W d11_102 rfl rfl (pc' := 103) rfl ?_
                  refine g_getF K W (host := "") (Or.inl (hw _ (List.mem_of_getElem? (i := 22) rfl))) Via.refl F_o0_nextOut d11_103 (pc' := 106) rfl (fun T W => ?_)
                  refine g_iload K W d11_106 rfl (pc' := 108) rfl ?_
                  refine g_iaload K W A_an (k := ed) hxe (by omega) (v := (Nf ed)) rfl d11_108 (pc' := 109) rfl ?_
                  refine g_istore K W d11_109 (Ls' := #[.val (.ref o0), .val (.int (Int32.ofNat sr)), .val (.int (Int32.ofNat sk)), .val (.ref o3), .val (.ref o4), .val (.int ((Int32.ofNat tq) + (1 : Int32))), .val (.int (Int32.ofNat hd)), .val (.int (Int32.ofNat u)), .val (.int (Nf ed))]) rfl (pc' := 111) rfl ?_
                  refine g_goto K W d11_111 (pt := 43) rfl ?_
                  rw [own_one]
                  have hl0 : Li Lf (H ed) < 0 := (own_neg _).mp hc69
                  have hc0 : 0 < Ci Cf ed := (own_lpos _).mp hc56
                  have lb := bi.2.2.2.2.1 hd hlt
                  rw [hu] at lb
                  have e1 : Li (upd Lf (H ed) (Lf u + 1)) (H ed) = Li Lf u + 1 := by show (upd Lf (H ed) (Lf u + 1) (H ed)).toInt = _; rw [upd_same]; exact own_inc (show -1 ≤ Li Lf u by omega) (show Li Lf u < 1000 by omega)
                  have e2 : ∀ v, v ≠ H ed → Li (upd Lf (H ed) (Lf u + 1)) v = Li Lf v := fun v hv => by show (upd Lf (H ed) (Lf u + 1) v).toInt = _; rw [upd_ne _ _ hv]; rfl
                  have bi2 := bi.put (lv' := Li (upd Lf (H ed) (Lf u + 1))) (q' := upd q tq (H ed)) hlt hed (h3.trans hu.symm) hc0 (hH ed hed) hl0 (by rw [hu]; exact e1) e2 (upd_same _ _ _) (fun j hj => upd_ne _ _ (by omega))
                  have up : ∀ v, 0 ≤ Li Lf v → 0 ≤ Li (upd Lf (H ed) (Lf u + 1)) v := fun v hv => by rw [e2 v (fun z => by rw [z] at hv; omega)]; exact hv
                  exact ih ed (by omega) ed _ (tq + 1) _ _ (upd q tq (H ed)) T h rfl (by rw [hNf ed hed, h3]) (by omega) (by omega) (by rw [upd_ne _ _ (by omega)]; exact hu) hun bi2 (fun j hj => by
                    by_cases z : j = tq
                    · rw [z, upd_same, upd_same]
                    · rw [upd_ne _ _ z, upd_ne _ _ z]; exact hq j (by omega)) (fun e' h1' h2' h3' h4' => if q' : e' = ed then by rw [q', e1]; omega else up _ (hcl e' (prv_up h2 h3' h1' q') h2' h3' h4')) X_o0 F_o0_heads F_o0_capacities F_o0_nextOut F_o0_firstOut F_o0_nodes A_ah A_ac A_an A_af A_o3 A_o4 kp W
                · refine g_aloadN K W d11_102 rfl rfl (pc' := 103) rfl ?_
                  refine g_getF K W (host := "") (Or.inl (hw _ (List.mem_of_getElem? (i := 22) rfl))) Via.refl F_o0_nextOut d11_103 (pc' := 106) rfl (fun T W => ?_)
                  refine g_iload K W d11_106 rfl (pc' := 108) rfl ?_
                  refine g_iaload K W A_an (k := ed) hxe (by omega) (v := (Nf ed)) rfl d11_108 (pc' := 109) rfl ?_
                  refine g_istore K W d11_109 (Ls' := #[.val (.ref o0), .val (.int (Int32.ofNat sr)), .val (.int (Int32.ofNat sk)), .val (.ref o3), .val (.ref o4), .val (.int (Int32.ofNat tq)), .val (.int (Int32.ofNat hd)), .val (.int (Int32.ofNat u)), .val (.int (Nf ed))]) rfl (pc' := 111) rfl ?_
                  refine g_goto K W d11_111 (pt := 43) rfl ?_
                  exact ih ed (by omega) ed _ tq Lf Qf q T h rfl (by rw [hNf ed hed, h3]) (by omega) hlt hu hun bi hq (fun e' h1' h2' h3' h4' => if q' : e' = ed then q' ▸ (show 0 ≤ Li Lf (H ed) from Int.not_lt.mp (fun z => hc69 ((own_neg _).mpr z))) else hcl e' (prv_up h2 h3' h1' q') h2' h3' h4') X_o0 F_o0_heads F_o0_capacities F_o0_nextOut F_o0_firstOut F_o0_nodes A_ah A_ac A_an A_af A_o3 A_o4 kp W
              · refine g_aloadN K W d11_102 rfl rfl (pc' := 103) rfl ?_
                refine g_getF K W (host := "") (Or.inl (hw _ (List.mem_of_getElem? (i := 22) rfl))) Via.refl F_o0_nextOut d11_103 (pc' := 106) rfl (fun T W => ?_)
                refine g_iload K W d11_106 rfl (pc' := 108) rfl ?_
                refine g_iaload K W A_an (k := ed) hxe (by omega) (v := (Nf ed)) rfl d11_108 (pc' := 109) rfl ?_
                refine g_istore K W d11_109 (Ls' := #[.val (.ref o0), .val (.int (Int32.ofNat sr)), .val (.int (Int32.ofNat sk)), .val (.ref o3), .val (.ref o4), .val (.int (Int32.ofNat tq)), .val (.int (Int32.ofNat hd)), .val (.int (Int32.ofNat u)), .val (.int (Nf ed))]) rfl (pc' := 111) rfl ?_
                refine g_goto K W d11_111 (pt := 43) rfl ?_
                exact ih ed (by omega) ed _ tq Lf Qf q T h rfl (by rw [hNf ed hed, h3]) (by omega) hlt hu hun bi hq (fun e' h1' h2' h3' h4' => if q' : e' = ed then absurd (q' ▸ h4') (fun z => hc56 ((own_lpos _).mpr z)) else hcl e' (prv_up h2 h3' h1' q') h2' h3' h4') X_o0 F_o0_heads F_o0_capacities F_o0_nextOut F_o0_firstOut F_o0_nodes A_ah A_ac A_an A_af A_o3 A_o4 kp W
        exact loop2 (2 * kk) (2 * kk) _ tq Lf Qf q T h rfl (hFf u hun) (Nat.le_refl _) hlt hu hun bi hq (fun e' h1' h2' => absurd h2' (by omega)) X_o0 F_o0_heads F_o0_capacities F_o0_nextOut F_o0_firstOut F_o0_nodes A_ah A_ac A_an A_af A_o3 A_o4 kp W
      · refine g_aloadN K W d11_120 rfl rfl (pc' := 121) rfl ?_
        refine g_iloadN K W d11_121 rfl (pc' := 122) rfl ?_
        refine g_iaload K W A_o3 (k := sk) (own_ofNat (by omega)) ht (v := (Lf sk)) rfl d11_122 (pc' := 123) rfl ?_
        refine g_if_lt K W d11_123 (pt := 130) rfl (pf := 126) rfl (fun hc123 => ?_) (fun hc123 => ?_)
        · refine g_iconst K W (v := (0 : Int32)) d11_130 rfl (pc' := 131) rfl ?_
          have hnl : ¬ hd < tq := fun z => hc24 ((own_lt (by omega) (by omega)).mpr z)
          exact g_retN K W (by simp) d11_131 (by decide) (by decide) (v := (0 : Int32)) rfl (Or.inr ⟨rfl, Lf, Qf, A_o3, A_o4, kp, bi.done hnl hH, (own_neg _).mp hc123⟩)
        · refine g_iconst K W (v := (1 : Int32)) d11_126 rfl (pc' := 127) rfl ?_
          refine g_goto K W d11_127 (pt := 131) rfl ?_
          have hnl : ¬ hd < tq := fun z => hc24 ((own_lt (by omega) (by omega)).mpr z)
          exact g_retN K W (by simp) d11_131 (by decide) (by decide) (v := (1 : Int32)) rfl (Or.inl ⟨rfl, Lf, Qf, A_o3, A_o4, kp, bi.done hnl hH, fun z => hc123 ((own_neg _).mpr z)⟩)
  exact loop1 nn 0 1 _ _ (fun _ => sr) _ _ T h rfl (BI.start hs (show Int32.toInt _ = 0 by rw [upd_same]; rfl) (fun v hv hne => show Int32.toInt _ = -1 by rw [upd_ne _ _ hne, hg v hv]; rfl) rfl) (fun j hj => by rw [show j = 0 by omega]; exact upd_same _ _ _) (Or.inl rfl) (Or.inl rfl) X_o0 F_o0_heads F_o0_capacities F_o0_nextOut F_o0_firstOut F_o0_nodes A_ah A_ac A_an A_af A_o3 A_o4 kp W
def Q_c_adm (Z : State) (n0 : Nat) (h0 : Heap) (o0 : Addr) (x1 : Int32) (x2 : Int32) (x3 : Int32) (o4 : Addr) (ah : Addr) (ac : Addr) (an : Addr) (af : Addr) (nn : Nat) (kk : Nat) (M : Nat) (H : Nat → Nat) (Hf : Nat → Int32) (Cf : Nat → Int64) (Nf : Nat → Int32) (Ff : Nat → Int32) (sr : Nat) (sk : Nat) (Lf : Nat → Int32) (ed : Nat) (u : Nat) : Option Value → Heap → Prop := fun v h => (v = some (.int 1) ∧ h0 = h ∧ Adm H (Ci Cf) (Li Lf) sk ed) ∨ (v = some (.int 0) ∧ h0 = h ∧ ¬ Adm H (Ci Cf) (Li Lf) sk ed)
abbrev rm_c_adm : Room := { frames := 0, cells := 0, slots := 0, locals := 0 }
set_option maxHeartbeats 40000000 in
theorem c_adm (l : Launch) (Z : State) (a0 : Array Value) (hw : ∀ d ∈ tables_1, d.before a0 Z = true) (n0 : Nat) (h0 : Heap) (hn : n0 ≤ h0.size) (o0 : Addr) (x1 : Int32) (x2 : Int32) (x3 : Int32) (o4 : Addr) (ah : Addr) (ac : Addr) (an : Addr) (af : Addr) (nn : Nat) (kk : Nat) (M : Nat) (H : Nat → Nat) (Hf : Nat → Int32) (Cf : Nat → Int64) (Nf : Nat → Int32) (Ff : Nat → Int32) (sr : Nat) (sk : Nat) (Lf : Nat → Int32) (ed : Nat) (u : Nat) (X_o0 : Exa Z h0 o0 "com/example/ichnos/ichnos/planning/ils/MinCut") (F_o0_heads : Fld Z h0 o0 "com/example/ichnos/ichnos/planning/ils/MinCut" "heads" "[I" (.ref ah)) (F_o0_capacities : Fld Z h0 o0 "com/example/ichnos/ichnos/planning/ils/MinCut" "capacities" "[J" (.ref ac)) (F_o0_nextOut : Fld Z h0 o0 "com/example/ichnos/ichnos/planning/ils/MinCut" "nextOut" "[I" (.ref an)) (F_o0_firstOut : Fld Z h0 o0 "com/example/ichnos/ichnos/planning/ils/MinCut" "firstOut" "[I" (.ref af)) (F_o0_nodes : Fld Z h0 o0 "com/example/ichnos/ichnos/planning/ils/MinCut" "nodes" "I" (.int (Int32.ofNat nn))) (A_ah : AyI Z h0 ah .int M Hf) (A_ac : AyJ Z h0 ac M Cf) (A_an : AyI Z h0 an .int M Nf) (A_af : AyI Z h0 af .int nn Ff) (A_o4 : AyI Z h0 o4 .int nn Lf) (hxe : x1.toInt = (ed : Int)) (hed : ed < 2 * kk) (ex2 : x2 = Int32.ofNat u) (ht : tl H ed = u) (hun : u < nn) (ex3 : x3 = Int32.ofNat sk) (hsk : sk < nn) (lvb : ∀ v, v < nn → -1 ≤ Li Lf v ∧ Li Lf v < nn) (gp : GP nn kk M H Hf Nf Ff) :
    Mt l Z (⟨"com/example/ichnos/ichnos/planning/ils/MinCut", "admissible", "(III[I)Z"⟩ : MethodName) prog_66_method_7_code 6 (some .boolean) rm_c_adm n0 #[(.ref o0), (.int x1), (.int x2), (.int x3), (.ref o4)] h0 (Q_c_adm Z n0 h0 o0 x1 x2 x3 o4 ah ac an af nn kk M H Hf Cf Nf Ff sr sk Lf ed u) := by
  refine met_of (plainFor_of_name pn_1) (Ls := #[.val (.ref o0), .val (.int x1), .val (.int x2), .val (.int x3), .val (.ref o4), .unset]) (fun m => by first | (simp [entryFrame, mkF, argsToLocals, Value.category]; done) | rfl) hn ?_
  intro p e s m below meth c T K W
  replace K : Cx p s m meth c Z "com/example/ichnos/ichnos/planning/ils/MinCut" "admissible" prog_66_method_7_code 6 (some .boolean) := K
  generalize eA : (#[(.ref o0), (.int x1), (.int x2), (.int x3), (.ref o4)] : Array Value) = args at W
  show Go p e below s n0 (Q_c_adm Z n0 h0 o0 x1 x2 x3 o4 ah ac an af nn kk M H Hf Cf Nf Ff sr sk Lf ed u) 0 0 T (mkF m 0 #[.val (.ref o0), .val (.int x1), .val (.int x2), .val (.int x3), .val (.ref o4), .unset] [])
  subst ex2 ex3
  show Go p e below s n0 (Q_c_adm Z n0 h0 o0 x1 (Int32.ofNat u) (Int32.ofNat sk) o4 ah ac an af nn kk M H Hf Cf Nf Ff sr sk Lf ed u) 0 0 T (mkF m 0 #[.val (.ref o0), .val (.int x1), .val (.int (Int32.ofNat u)), .val (.int (Int32.ofNat sk)), .val (.ref o4), .unset] [])
  obtain ⟨hn5, hk16, hkM, hM32, hH, hHf, hNf, hFf⟩ := gp
  have hHe := hH ed hed
  have lbu := lvb u hun
  have lbe := lvb (H ed) hHe
  refine g_aloadN K W d14_0 rfl rfl (pc' := 1) rfl ?_
  refine g_getF K W (host := "") (Or.inl (hw _ (List.mem_of_getElem? (i := 18) rfl))) Via.refl F_o0_heads d14_1 (pc' := 4) rfl (fun T W => ?_)
  refine g_iloadN K W d14_4 rfl (pc' := 5) rfl ?_
  refine g_iaload K W A_ah (k := ed) hxe (by omega) (v := (Int32.ofNat (H ed))) (hHf ed hed) d14_5 (pc' := 6) rfl ?_
  refine g_istore K W d14_6 (Ls' := #[.val (.ref o0), .val (.int x1), .val (.int (Int32.ofNat u)), .val (.int (Int32.ofNat sk)), .val (.ref o4), .val (.int (Int32.ofNat (H ed)))]) rfl (pc' := 8) rfl ?_
  refine g_aloadN K W d14_8 rfl rfl (pc' := 9) rfl ?_
  refine g_getF K W (host := "") (Or.inl (hw _ (List.mem_of_getElem? (i := 20) rfl))) Via.refl F_o0_capacities d14_9 (pc' := 12) rfl (fun T W => ?_)
  refine g_iloadN K W d14_12 rfl (pc' := 13) rfl ?_
  refine g_laload K W A_ac (k := ed) hxe (by omega) (v := (Cf ed)) rfl d14_13 (pc' := 14) rfl ?_
  refine g_lconst K W (v := (0 : Int64)) d14_14 rfl (pc' := 15) rfl ?_
  refine g_lcmp_le K W d14_15 (pc1 := 16) rfl d14_16 (pt := 55) rfl (pf := 19) rfl (fun hc15 => ?_) (fun hc15 => ?_)
  · refine g_aload K W d14_19 rfl rfl (pc' := 21) rfl ?_
    refine g_iload K W d14_21 rfl (pc' := 23) rfl ?_
    refine g_iaload K W A_o4 (k := (H ed)) (own_ofNat (by omega)) hHe (v := (Lf (H ed))) rfl d14_23 (pc' := 24) rfl ?_
    refine g_aload K W d14_24 rfl rfl (pc' := 26) rfl ?_
    refine g_iloadN K W d14_26 rfl (pc' := 27) rfl ?_
    refine g_iaload K W A_o4 (k := u) (own_ofNat (by omega)) hun (v := (Lf u)) rfl d14_27 (pc' := 28) rfl ?_
    refine g_iconst K W (v := (1 : Int32)) d14_28 rfl (pc' := 29) rfl ?_
    refine g_iadd K W d14_29 (pc' := 30) rfl ?_
    refine g_icmp_ne K W d14_30 (pt := 55) rfl (pf := 33) rfl (fun hc30 => ?_) (fun hc30 => ?_)
    · refine g_iload K W d14_33 rfl (pc' := 35) rfl ?_
      refine g_iloadN K W d14_35 rfl (pc' := 36) rfl ?_
      refine g_icmp_eq K W d14_36 (pt := 51) rfl (pf := 39) rfl (fun hc36 => ?_) (fun hc36 => ?_)
      · refine g_iconst K W (v := (1 : Int32)) d14_51 rfl (pc' := 52) rfl ?_
        refine g_goto K W d14_52 (pt := 56) rfl ?_
        exact g_retN K W (by simp) d14_56 (by decide) (by decide) (v := (1 : Int32)) rfl (Or.inl ⟨rfl, rfl, (own_lpos _).mp hc15, (show Li Lf (H ed) = Li Lf (tl H ed) + 1 by rw [ht]; show (Lf (H ed)).toInt = _; rw [hc30]; exact own_inc lbu.1 (show Li Lf u < 1000 by omega)), Or.inl ((own_inj (by omega) (by omega)).mp hc36)⟩)
      · refine g_aload K W d14_39 rfl rfl (pc' := 41) rfl ?_
        refine g_iload K W d14_41 rfl (pc' := 43) rfl ?_
        refine g_iaload K W A_o4 (k := (H ed)) (own_ofNat (by omega)) hHe (v := (Lf (H ed))) rfl d14_43 (pc' := 44) rfl ?_
        refine g_aload K W d14_44 rfl rfl (pc' := 46) rfl ?_
        refine g_iloadN K W d14_46 rfl (pc' := 47) rfl ?_
        refine g_iaload K W A_o4 (k := sk) (own_ofNat (by omega)) hsk (v := (Lf sk)) rfl d14_47 (pc' := 48) rfl ?_
        refine g_icmp_ge K W d14_48 (pt := 55) rfl (pf := 51) rfl (fun hc48 => ?_) (fun hc48 => ?_)
        · refine g_iconst K W (v := (1 : Int32)) d14_51 rfl (pc' := 52) rfl ?_
          refine g_goto K W d14_52 (pt := 56) rfl ?_
          exact g_retN K W (by simp) d14_56 (by decide) (by decide) (v := (1 : Int32)) rfl (Or.inl ⟨rfl, rfl, (own_lpos _).mp hc15, (show Li Lf (H ed) = Li Lf (tl H ed) + 1 by rw [ht]; show (Lf (H ed)).toInt = _; rw [hc30]; exact own_inc lbu.1 (show Li Lf u < 1000 by omega)), Or.inr (Int32.lt_iff_toInt_lt.mp hc48)⟩)
        · refine g_iconst K W (v := (0 : Int32)) d14_55 rfl (pc' := 56) rfl ?_
          exact g_retN K W (by simp) d14_56 (by decide) (by decide) (v := (0 : Int32)) rfl (Or.inr ⟨rfl, rfl, fun z => z.2.2.elim (fun y => hc36 (by rw [y])) (fun y => hc48 (Int32.lt_iff_toInt_lt.mpr y))⟩)
    · refine g_iconst K W (v := (0 : Int32)) d14_55 rfl (pc' := 56) rfl ?_
      exact g_retN K W (by simp) d14_56 (by decide) (by decide) (v := (0 : Int32)) rfl (Or.inr ⟨rfl, rfl, fun z => hc30 (Int32.toInt_inj.mp (by rw [own_inc lbu.1 (show Li Lf u < 1000 by omega)]; have := z.2.1; rw [ht] at this; exact this))⟩)
  · refine g_iconst K W (v := (0 : Int32)) d14_55 rfl (pc' := 56) rfl ?_
    exact g_retN K W (by simp) d14_56 (by decide) (by decide) (v := (0 : Int32)) rfl (Or.inr ⟨rfl, rfl, fun z => hc15 ((own_lpos _).mpr z.1)⟩)
def Q_c_push (Z : State) (n0 : Nat) (h0 : Heap) (o0 : Addr) (xs : Int32) (xt : Int32) (o3 : Addr) (o4 : Addr) (o5 : Addr) (ah : Addr) (ac : Addr) (an : Addr) (af : Addr) (nn : Nat) (kk : Nat) (M : Nat) (H : Nat → Nat) (Hf : Nat → Int32) (Cf : Nat → Int64) (Nf : Nat → Int32) (Ff : Nat → Int32) (sr : Nat) (sk : Nat) (Lf : Nat → Int32) (cu : Nat → Int32) (Pf : Nat → Int32) (C0 : Nat → Int) (F : Int) (b : Nat → Nat) (E : Nat → Prop) : Option Value → Heap → Prop := fun v h => ∃ (x : Int64) (Cg : Nat → Int64) (cu' : Nat → Int32) (P' : Nat → Int32) (b' : Nat → Nat), v = some (.long x) ∧ Keep h0 h [ac, o4, o5] ∧ AyJ Z h ac M Cg ∧ AyI Z h o4 .int nn cu' ∧ AyI Z h o5 .int nn P' ∧ 0 ≤ x.toInt ∧ x.toInt ≤ 2305843009213693951 ∧ FI nn kk H C0 (Ci Cg) sr sk (F + x.toInt) ∧ (∀ v, v < nn → b' v ≤ 2 * kk ∧ (cu' v).toInt = prv H v (b' v)) ∧ ((∃ e, E e ∧ tl H e = sr) → 0 < x.toInt)
abbrev rm_c_push : Room := { frames := 1, cells := 0, slots := 0, locals := 17 }
set_option maxHeartbeats 40000000 in
theorem c_push (l : Launch) (Z : State) (a0 : Array Value) (hw : ∀ d ∈ tables_1, d.before a0 Z = true) (n0 : Nat) (h0 : Heap) (hn : n0 ≤ h0.size) (o0 : Addr) (xs : Int32) (xt : Int32) (o3 : Addr) (o4 : Addr) (o5 : Addr) (ah : Addr) (ac : Addr) (an : Addr) (af : Addr) (nn : Nat) (kk : Nat) (M : Nat) (H : Nat → Nat) (Hf : Nat → Int32) (Cf : Nat → Int64) (Nf : Nat → Int32) (Ff : Nat → Int32) (sr : Nat) (sk : Nat) (Lf : Nat → Int32) (cu : Nat → Int32) (Pf : Nat → Int32) (C0 : Nat → Int) (F : Int) (b : Nat → Nat) (E : Nat → Prop) (X_o0 : Exa Z h0 o0 "com/example/ichnos/ichnos/planning/ils/MinCut") (F_o0_heads : Fld Z h0 o0 "com/example/ichnos/ichnos/planning/ils/MinCut" "heads" "[I" (.ref ah)) (F_o0_capacities : Fld Z h0 o0 "com/example/ichnos/ichnos/planning/ils/MinCut" "capacities" "[J" (.ref ac)) (F_o0_nextOut : Fld Z h0 o0 "com/example/ichnos/ichnos/planning/ils/MinCut" "nextOut" "[I" (.ref an)) (F_o0_firstOut : Fld Z h0 o0 "com/example/ichnos/ichnos/planning/ils/MinCut" "firstOut" "[I" (.ref af)) (F_o0_nodes : Fld Z h0 o0 "com/example/ichnos/ichnos/planning/ils/MinCut" "nodes" "I" (.int (Int32.ofNat nn))) (A_ah : AyI Z h0 ah .int M Hf) (A_ac : AyJ Z h0 ac M Cf) (A_an : AyI Z h0 an .int M Nf) (A_af : AyI Z h0 af .int nn Ff) (A_o3 : AyI Z h0 o3 .int nn Lf) (A_o4 : AyI Z h0 o4 .int nn cu) (A_o5 : AyI Z h0 o5 .int nn Pf) (ge_ac : n0 ≤ ac) (ge_o4 : n0 ≤ o4) (ge_o5 : n0 ≤ o5) (ne_o0_ac : o0 ≠ ac) (ne_o0_o4 : o0 ≠ o4) (ne_o0_o5 : o0 ≠ o5) (ne_ah_ac : ah ≠ ac) (ne_ah_o4 : ah ≠ o4) (ne_ah_o5 : ah ≠ o5) (ne_ac_o4 : ac ≠ o4) (ne_ac_o5 : ac ≠ o5) (ne_an_ac : an ≠ ac) (ne_an_o4 : an ≠ o4) (ne_an_o5 : an ≠ o5) (ne_af_ac : af ≠ ac) (ne_af_o4 : af ≠ o4) (ne_af_o5 : af ≠ o5) (ne_o3_ac : o3 ≠ ac) (ne_o3_o4 : o3 ≠ o4) (ne_o3_o5 : o3 ≠ o5) (ne_o4_ac : o4 ≠ ac) (ne_o4_o5 : o4 ≠ o5) (ne_o5_ac : o5 ≠ ac) (ne_o5_o4 : o5 ≠ o4) (exs : xs = Int32.ofNat sr) (ext : xt = Int32.ofNat sk) (hs : sr < nn) (ht : sk < nn) (gp : GP nn kk M H Hf Nf Ff) (lv0 : Li Lf sr = 0) (lvb : ∀ v, v < nn → -1 ≤ Li Lf v ∧ Li Lf v < nn) (fi : FI nn kk H C0 (Ci Cf) sr sk F) (hC0 : ∀ e, e < 2 * kk → C0 e + C0 (fl e) ≤ 2305843009213693951) (hb : ∀ v, v < nn → b v ≤ 2 * kk ∧ (cu v).toInt = prv H v (b v)) (pi : PiC kk H (Ci Cf) (Li Lf) sk E) (hE : ∀ e, E e → e < b (tl H e)) :
    Mt l Z (⟨"com/example/ichnos/ichnos/planning/ils/MinCut", "push", "(II[I[I[I)J"⟩ : MethodName) prog_66_method_6_code 13 (some .long) rm_c_push n0 #[(.ref o0), (.int xs), (.int xt), (.ref o3), (.ref o4), (.ref o5)] h0 (Q_c_push Z n0 h0 o0 xs xt o3 o4 o5 ah ac an af nn kk M H Hf Cf Nf Ff sr sk Lf cu Pf C0 F b E) := by
  refine met_of (plainFor_of_name pn_1) (Ls := #[.val (.ref o0), .val (.int xs), .val (.int xt), .val (.ref o3), .val (.ref o4), .val (.ref o5), .unset, .unset, .unset, .unset, .unset, .unset, .unset]) (fun m => by first | (simp [entryFrame, mkF, argsToLocals, Value.category]; done) | rfl) hn ?_
  intro p e s m below meth c T K W
  replace K : Cx p s m meth c Z "com/example/ichnos/ichnos/planning/ils/MinCut" "push" prog_66_method_6_code 13 (some .long) := K
  generalize eA : (#[(.ref o0), (.int xs), (.int xt), (.ref o3), (.ref o4), (.ref o5)] : Array Value) = args at W
  show Go p e below s n0 (Q_c_push Z n0 h0 o0 xs xt o3 o4 o5 ah ac an af nn kk M H Hf Cf Nf Ff sr sk Lf cu Pf C0 F b E) 0 0 T (mkF m 0 #[.val (.ref o0), .val (.int xs), .val (.int xt), .val (.ref o3), .val (.ref o4), .val (.ref o5), .unset, .unset, .unset, .unset, .unset, .unset, .unset] [])
  have kp := Keep.refl h0 [ac, o4, o5]
  subst exs ext
  show Go p e below s n0 (Q_c_push Z n0 h0 o0 (Int32.ofNat sr) (Int32.ofNat sk) o3 o4 o5 ah ac an af nn kk M H Hf Cf Nf Ff sr sk Lf cu Pf C0 F b E) 0 0 T (mkF m 0 #[.val (.ref o0), .val (.int (Int32.ofNat sr)), .val (.int (Int32.ofNat sk)), .val (.ref o3), .val (.ref o4), .val (.ref o5), .unset, .unset, .unset, .unset, .unset, .unset, .unset] [])
  obtain ⟨hn5, hk16, hkM, hM32, hH, hHf, hNf, hFf⟩ := gp
  refine g_iconst K W (v := (0 : Int32)) d13_0 rfl (pc' := 1) rfl ?_
  refine g_istore K W d13_1 (Ls' := #[.val (.ref o0), .val (.int (Int32.ofNat sr)), .val (.int (Int32.ofNat sk)), .val (.ref o3), .val (.ref o4), .val (.ref o5), .val (.int (0 : Int32)), .unset, .unset, .unset, .unset, .unset, .unset]) rfl (pc' := 3) rfl ?_
  refine g_iloadN K W d13_3 rfl (pc' := 4) rfl ?_
  refine g_istore K W d13_4 (Ls' := #[.val (.ref o0), .val (.int (Int32.ofNat sr)), .val (.int (Int32.ofNat sk)), .val (.ref o3), .val (.ref o4), .val (.ref o5), .val (.int (0 : Int32)), .val (.int (Int32.ofNat sr)), .unset, .unset, .unset, .unset, .unset]) rfl (pc' := 6) rfl ?_
  refine g_lconst K W (v := (0 : Int64)) d13_6 rfl (pc' := 7) rfl ?_
  refine g_lstore K W d13_7 (Ls' := #[.val (.ref o0), .val (.int (Int32.ofNat sr)), .val (.int (Int32.ofNat sk)), .val (.ref o3), .val (.ref o4), .val (.ref o5), .val (.int (0 : Int32)), .val (.int (Int32.ofNat sr)), .val (.long (0 : Int64)), .second, .unset, .unset, .unset]) rfl (pc' := 9) rfl ?_
  have loop1 : ∀ (mz : Nat) (d : Nat) (u : Nat) (b : Nat → Nat) (cu : Nat → Int32) (Pf : Nat → Int32) (Pn : Nat → Nat) (nd : Nat → Nat) (s10 : Slot) (T : State) (h : Heap), 2 * sb b nn + (nn + 1 - d) = mz → PT nn kk H (Ci Cf) (Li Lf) sr b Pn nd d → nd d = u → (∀ i, i < d → Pf i = Int32.ofNat (Pn i)) → (∀ v, v < nn → b v ≤ 2 * kk ∧ (cu v).toInt = prv H v (b v)) → (∀ e', E e' → e' < b (tl H e')) → (s10 = .unset ∨ ∃ z : Int32, s10 = .val (.int z)) → Exa Z h o0 "com/example/ichnos/ichnos/planning/ils/MinCut" → Fld Z h o0 "com/example/ichnos/ichnos/planning/ils/MinCut" "heads" "[I" (.ref ah) → Fld Z h o0 "com/example/ichnos/ichnos/planning/ils/MinCut" "capacities" "[J" (.ref ac) → Fld Z h o0 "com/example/ichnos/ichnos/planning/ils/MinCut" "nextOut" "[I" (.ref an) → Fld Z h o0 "com/example/ichnos/ichnos/planning/ils/MinCut" "firstOut" "[I" (.ref af) → Fld Z h o0 "com/example/ichnos/ichnos/planning/ils/MinCut" "nodes" "I" (.int (Int32.ofNat nn)) → AyI Z h ah .int M Hf → AyJ Z h ac M Cf → AyI Z h an .int M Nf → AyI Z h af .int nn Ff → AyI Z h o3 .int nn Lf → AyI Z h o4 .int nn cu → AyI Z h o5 .int nn Pf → Keep h0 h [ac, o4, o5] → Wd p l e rm_c_push s m args below meth c n0 T h 0 0 → Go p e below s n0 (Q_c_push Z n0 h0 o0 (Int32.ofNat sr) (Int32.ofNat sk) o3 o4 o5 ah ac an af nn kk M H Hf Cf Nf Ff sr sk Lf cu Pf C0 F b E) 0 0 T (mkF m 9 #[.val (.ref o0), .val (.int (Int32.ofNat sr)), .val (.int (Int32.ofNat sk)), .val (.ref o3), .val (.ref o4), .val (.ref o5), .val (.int (Int32.ofNat d)), .val (.int (Int32.ofNat u)), .val (.long (0 : Int64)), .second, s10, .unset, .unset] []) := by
    intro mz
    induction mz using Nat.strongRecOn with
    | ind mz ih =>
      intro d u b cu Pf Pn nd s10 T h hm pt hnu hP hb hE hs_s10 X_o0 F_o0_heads F_o0_capacities F_o0_nextOut F_o0_firstOut F_o0_nodes A_ah A_ac A_an A_af A_o3 A_o4 A_o5 kp W
      have ih0 := ih
      have hnn := pt.2.2 d (Nat.le_refl _)
      rw [hnu] at hnn
      have hun := hnn.1
      have hdn : d < nn := by have := (lvb u hun).2; omega
      refine g_lload K W d13_9 rfl (pc' := 11) rfl ?_
      refine g_lconst K W (v := (0 : Int64)) d13_11 rfl (pc' := 12) rfl ?_
      refine g_lcmp_ne K W d13_12 (pc1 := 13) rfl d13_13 (pt := 245) rfl (pf := 16) rfl (fun hc12 => ?_) (fun hc12 => absurd rfl hc12)
      have hJ29 : ∀ (T : State), Wd p l e rm_c_push s m args below meth c n0 T h 0 0 → Go p e below s n0 (Q_c_push Z n0 h0 o0 (Int32.ofNat sr) (Int32.ofNat sk) o3 o4 o5 ah ac an af nn kk M H Hf Cf Nf Ff sr sk Lf cu Pf C0 F b E) 0 0 T (mkF m 29 #[.val (.ref o0), .val (.int (Int32.ofNat sr)), .val (.int (Int32.ofNat sk)), .val (.ref o3), .val (.ref o4), .val (.ref o5), .val (.int (Int32.ofNat d)), .val (.int (Int32.ofNat u)), .val (.long (0 : Int64)), .second, s10, .unset, .unset] []) := by
        intro T  W
        refine g_iload K W d13_29 rfl (pc' := 31) rfl ?_
        refine g_iloadN K W d13_31 rfl (pc' := 32) rfl ?_
        refine g_icmp_ne K W d13_32 (pt := 128) rfl (pf := 35) rfl (fun hc32 => ?_) (fun hc32 => ?_)
        · have hus : u = sk := (own_inj (by omega) (by omega)).mp hc32
          refine g_ldc2 K W (v := (2305843009213693951 : Int64)) (hw _ (List.mem_of_getElem? (i := 42) rfl)) d13_35 (pc' := 38) rfl ?_
          refine g_lstore K W d13_38 (Ls' := #[.val (.ref o0), .val (.int (Int32.ofNat sr)), .val (.int (Int32.ofNat sk)), .val (.ref o3), .val (.ref o4), .val (.ref o5), .val (.int (Int32.ofNat d)), .val (.int (Int32.ofNat u)), .val (.long (0 : Int64)), .second, .val (.long (2305843009213693951 : Int64)), .second, .unset]) (by rcases hs_s10 with rfl | ⟨z, rfl⟩ <;> rfl) (pc' := 40) rfl ?_
          refine g_iconst K W (v := (0 : Int32)) d13_40 rfl (pc' := 41) rfl ?_
          refine g_istore K W d13_41 (Ls' := #[.val (.ref o0), .val (.int (Int32.ofNat sr)), .val (.int (Int32.ofNat sk)), .val (.ref o3), .val (.ref o4), .val (.ref o5), .val (.int (Int32.ofNat d)), .val (.int (Int32.ofNat u)), .val (.long (0 : Int64)), .second, .val (.long (2305843009213693951 : Int64)), .second, .val (.int (0 : Int32))]) rfl (pc' := 43) rfl ?_
          have loop2 : ∀ (my : Nat) (i : Nat) (fm : Int64) (T : State), d - i = my → i ≤ d → 0 < fm.toInt → fm.toInt ≤ 2305843009213693951 → (∀ j, j < i → fm.toInt ≤ Ci Cf (Pn j)) → Wd p l e rm_c_push s m args below meth c n0 T h 0 0 → Go p e below s n0 (Q_c_push Z n0 h0 o0 (Int32.ofNat sr) (Int32.ofNat sk) o3 o4 o5 ah ac an af nn kk M H Hf Cf Nf Ff sr sk Lf cu Pf C0 F b E) 0 0 T (mkF m 43 #[.val (.ref o0), .val (.int (Int32.ofNat sr)), .val (.int (Int32.ofNat sk)), .val (.ref o3), .val (.ref o4), .val (.ref o5), .val (.int (Int32.ofNat d)), .val (.int (Int32.ofNat u)), .val (.long (0 : Int64)), .second, .val (.long fm), .second, .val (.int (Int32.ofNat i))] []) := by
            intro my
            induction my using Nat.strongRecOn with
            | ind my ih =>
              intro i fm T hmy hi hf0 hfI hfl  W
              refine g_iload K W d13_43 rfl (pc' := 45) rfl ?_
              refine g_iload K W d13_45 rfl (pc' := 47) rfl ?_
              refine g_icmp_ge K W d13_47 (pt := 73) rfl (pf := 50) rfl (fun hc47 => ?_) (fun hc47 => ?_)
              · have hi2 : i < d := (own_lt (by omega) (by omega)).mp hc47
                have hp1 := (pt.2.1 i hi2).1
                refine g_lload K W d13_50 rfl (pc' := 52) rfl ?_
                refine g_aloadN K W d13_52 rfl rfl (pc' := 53) rfl ?_
                refine g_getF K W (host := "") (Or.inl (hw _ (List.mem_of_getElem? (i := 20) rfl))) Via.refl F_o0_capacities d13_53 (pc' := 56) rfl (fun T W => ?_)
                refine g_aload K W d13_56 rfl rfl (pc' := 58) rfl ?_
                refine g_iload K W d13_58 rfl (pc' := 60) rfl ?_
                refine g_iaload K W A_o5 (k := i) (own_ofNat (by omega)) (by omega) (v := (Int32.ofNat (Pn i))) (hP i hi2) d13_60 (pc' := 61) rfl ?_
                refine g_laload K W A_ac (k := (Pn i)) (own_ofNat (by omega)) (by omega) (v := (Cf (Pn i))) rfl d13_61 (pc' := 62) rfl ?_
                refine g_callS (c_min l Z a0 hw n0 _ W.sz fm (Cf (Pn i))) K W (hw _ (List.mem_of_getElem? (i := 43) rfl)) (hw _ (List.mem_of_getElem? (i := 44) rfl)) (hw _ (List.mem_of_getElem? (i := 45) rfl)) (hw _ (List.mem_of_getElem? (i := 46) rfl)) (by decide) (lenOf pd_1 rfl) d13_62 (pc' := 65) rfl (argsL := [(.long fm), (.long (Cf (Pn i)))]) (rest := []) rfl rfl (by decide) (wt := 0) rfl (by decide) (by decide) (by decide) ?_
                rintro T _ _ W ⟨rfl, rfl⟩
                show Go p e below s n0 (Q_c_push Z n0 h0 o0 (Int32.ofNat sr) (Int32.ofNat sk) o3 o4 o5 ah ac an af nn kk M H Hf Cf Nf Ff sr sk Lf cu Pf C0 F b E) 0 0 T (mkF m 65 #[.val (.ref o0), .val (.int (Int32.ofNat sr)), .val (.int (Int32.ofNat sk)), .val (.ref o3), .val (.ref o4), .val (.ref o5), .val (.int (Int32.ofNat d)), .val (.int (Int32.ofNat u)), .val (.long (0 : Int64)), .second, .val (.long fm), .second, .val (.int (Int32.ofNat i))] [(.long (own_minL fm (Cf (Pn i))))])
                refine g_lstore K W d13_65 (Ls' := #[.val (.ref o0), .val (.int (Int32.ofNat sr)), .val (.int (Int32.ofNat sk)), .val (.ref o3), .val (.ref o4), .val (.ref o5), .val (.int (Int32.ofNat d)), .val (.int (Int32.ofNat u)), .val (.long (0 : Int64)), .second, .val (.long (own_minL fm (Cf (Pn i)))), .second, .val (.int (Int32.ofNat i))]) rfl (pc' := 67) rfl ?_
                refine g_iinc K W d13_67 rfl (Ls' := #[.val (.ref o0), .val (.int (Int32.ofNat sr)), .val (.int (Int32.ofNat sk)), .val (.ref o3), .val (.ref o4), .val (.ref o5), .val (.int (Int32.ofNat d)), .val (.int (Int32.ofNat u)), .val (.long (0 : Int64)), .second, .val (.long (own_minL fm (Cf (Pn i)))), .second, .val (.int ((Int32.ofNat i) + (1 : Int32)))]) rfl (pc' := 70) rfl ?_
                refine g_goto K W d13_70 (pt := 43) rfl ?_
                rw [own_one]
                have hml := own_minL_toInt fm (Cf (Pn i))
                have hpc := (pt.2.1 i hi2).2.2.2.1
                have hpc2 : 0 < (Cf (Pn i)).toInt := hpc
                exact ih (d - (i + 1)) (by omega) (i + 1) _ T rfl (by omega) (by omega) (by omega) (fun j hj => by
                  by_cases z : j = i
                  · rw [z]; show _ ≤ (Cf (Pn i)).toInt; omega
                  · have := hfl j (by omega); omega) W
              · have hid : i = d := by have := (not_congr (own_lt (i := i) (n := d) (by omega) (by omega))).mp hc47; omega
                subst hid
                refine g_iconst K W (v := (0 : Int32)) d13_73 rfl (pc' := 74) rfl ?_
                refine g_istore K W d13_74 (Ls' := #[.val (.ref o0), .val (.int (Int32.ofNat sr)), .val (.int (Int32.ofNat sk)), .val (.ref o3), .val (.ref o4), .val (.ref o5), .val (.int (Int32.ofNat i)), .val (.int (Int32.ofNat u)), .val (.long (0 : Int64)), .second, .val (.long fm), .second, .val (.int (0 : Int32))]) rfl (pc' := 76) rfl ?_
                have loop3 : ∀ (my : Nat) (j : Nat) (Cg : Nat → Int64) (T : State) (h : Heap), i - j = my → j ≤ i → AG nn kk H C0 (Ci Cf) (Ci Cg) sr sk F fm.toInt Pn nd i j → Exa Z h o0 "com/example/ichnos/ichnos/planning/ils/MinCut" → Fld Z h o0 "com/example/ichnos/ichnos/planning/ils/MinCut" "heads" "[I" (.ref ah) → Fld Z h o0 "com/example/ichnos/ichnos/planning/ils/MinCut" "capacities" "[J" (.ref ac) → Fld Z h o0 "com/example/ichnos/ichnos/planning/ils/MinCut" "nextOut" "[I" (.ref an) → Fld Z h o0 "com/example/ichnos/ichnos/planning/ils/MinCut" "firstOut" "[I" (.ref af) → Fld Z h o0 "com/example/ichnos/ichnos/planning/ils/MinCut" "nodes" "I" (.int (Int32.ofNat nn)) → AyI Z h ah .int M Hf → AyJ Z h ac M Cg → AyI Z h an .int M Nf → AyI Z h af .int nn Ff → AyI Z h o3 .int nn Lf → AyI Z h o4 .int nn cu → AyI Z h o5 .int nn Pf → Keep h0 h [ac, o4, o5] → Wd p l e rm_c_push s m args below meth c n0 T h 0 0 → Go p e below s n0 (Q_c_push Z n0 h0 o0 (Int32.ofNat sr) (Int32.ofNat sk) o3 o4 o5 ah ac an af nn kk M H Hf Cf Nf Ff sr sk Lf cu Pf C0 F b E) 0 0 T (mkF m 76 #[.val (.ref o0), .val (.int (Int32.ofNat sr)), .val (.int (Int32.ofNat sk)), .val (.ref o3), .val (.ref o4), .val (.ref o5), .val (.int (Int32.ofNat i)), .val (.int (Int32.ofNat u)), .val (.long (0 : Int64)), .second, .val (.long fm), .second, .val (.int (Int32.ofNat j))] []) := by
                  intro my
                  induction my using Nat.strongRecOn with
                  | ind my ih =>
                    intro j Cg T h hmy hj ag X_o0 F_o0_heads F_o0_capacities F_o0_nextOut F_o0_firstOut F_o0_nodes A_ah A_ac A_an A_af A_o3 A_o4 A_o5 kp W
                    refine g_iload K W d13_76 rfl (pc' := 78) rfl ?_
                    refine g_iload K W d13_78 rfl (pc' := 80) rfl ?_
                    refine g_icmp_ge K W d13_80 (pt := 121) rfl (pf := 83) rfl (fun hc80 => ?_) (fun hc80 => ?_)
                    · have hj2 : j < i := (own_lt (by omega) (by omega)).mp hc80
                      have hp1 := (pt.2.1 j hj2).1
                      have hp2 := fl_lt hp1
                      have hag := own_ag (Cg := Cg) (ed := Pn j) (fm := fm) (by omega) (by have z := ag.2.2.2 j (Nat.le_refl _) hj2; have y := hfl j hj2; show _ ≤ Ci Cg (Pn j); rw [z]; exact y) (ag.1 _ hp2) (by have z := ag.2.1 _ hp1; have y := hC0 _ hp1; show Ci Cg (Pn j) + Ci Cg (fl (Pn j)) ≤ _; omega)
                      refine g_aloadN K W d13_83 rfl rfl (pc' := 84) rfl ?_
                      refine g_getF K W (host := "") (Or.inl (hw _ (List.mem_of_getElem? (i := 20) rfl))) Via.refl F_o0_capacities d13_84 (pc' := 87) rfl (fun T W => ?_)
                      refine g_aload K W d13_87 rfl rfl (pc' := 89) rfl ?_
                      refine g_iload K W d13_89 rfl (pc' := 91) rfl ?_
                      refine g_iaload K W A_o5 (k := j) (own_ofNat (by omega)) (by omega) (v := (Int32.ofNat (Pn j))) (hP j hj2) d13_91 (pc' := 92) rfl ?_
                      refine g_dup2 K W d13_92 rfl rfl (pc' := 93) rfl ?_
                      refine g_laload K W A_ac (k := (Pn j)) (own_ofNat (by omega)) (by omega) (v := (Cg (Pn j))) rfl d13_93 (pc' := 94) rfl ?_
                      refine g_lload K W d13_94 rfl (pc' := 96) rfl ?_
                      refine g_lsub K W d13_96 (pc' := 97) rfl ?_
                      refine g_lastore K W A_ac (k := (Pn j)) (own_ofNat (by omega)) (by omega) ge_ac d13_97 (pc' := 98) rfl (fun T h W w A_ac => ?_)
                      have kp := kp.wr w (Or.inl (List.mem_of_getElem? (i := 0) rfl))
                      have X_o0 := X_o0.wr w
                      have F_o0_heads := F_o0_heads.other w (Or.inl ne_o0_ac)
                      have F_o0_capacities := F_o0_capacities.other w (Or.inl ne_o0_ac)
                      have F_o0_nextOut := F_o0_nextOut.other w (Or.inl ne_o0_ac)
                      have F_o0_firstOut := F_o0_firstOut.other w (Or.inl ne_o0_ac)
                      have F_o0_nodes := F_o0_nodes.other w (Or.inl ne_o0_ac)
                      have A_ah := A_ah.other w ne_ah_ac
                      have A_an := A_an.other w ne_an_ac
                      have A_af := A_af.other w ne_af_ac
                      have A_o3 := A_o3.other w ne_o3_ac
                      have A_o4 := A_o4.other w ne_o4_ac
                      have A_o5 := A_o5.other w ne_o5_ac
                      refine g_aloadN K W d13_98 rfl rfl (pc' := 99) rfl ?_
                      refine g_getF K W (host := "") (Or.inl (hw _ (List.mem_of_getElem? (i := 20) rfl))) Via.refl F_o0_capacities d13_99 (pc' := 102) rfl (fun T W => ?_)
                      refine g_aload K W d13_102 rfl rfl (pc' := 104) rfl ?_
                      refine g_iload K W d13_104 rfl (pc' := 106) rfl ?_
                      refine g_iaload K W A_o5 (k := j) (own_ofNat (by omega)) (by omega) (v := (Int32.ofNat (Pn j))) (hP j hj2) d13_106 (pc' := 107) rfl ?_
                      refine g_iconst K W (v := (1 : Int32)) d13_107 rfl (pc' := 108) rfl ?_
                      refine g_ixor K W d13_108 (pc' := 109) rfl ?_
                      rw [own_xor1 (by omega)]
                      refine g_dup2 K W d13_109 rfl rfl (pc' := 110) rfl ?_
                      refine g_laload K W A_ac (k := (fl (Pn j))) (own_ofNat (by omega)) (by omega) (v := ((upd Cg (Pn j) ((Cg (Pn j)) - fm)) (fl (Pn j)))) rfl d13_110 (pc' := 111) rfl ?_
                      refine g_lload K W d13_111 rfl (pc' := 113) rfl ?_
                      refine g_ladd K W d13_113 (pc' := 114) rfl ?_
                      refine g_lastore K W A_ac (k := (fl (Pn j))) (own_ofNat (by omega)) (by omega) ge_ac d13_114 (pc' := 115) rfl (fun T h W w A_ac => ?_)
                      have kp := kp.wr w (Or.inl (List.mem_of_getElem? (i := 0) rfl))
                      have X_o0 := X_o0.wr w
                      have F_o0_heads := F_o0_heads.other w (Or.inl ne_o0_ac)
                      have F_o0_capacities := F_o0_capacities.other w (Or.inl ne_o0_ac)
                      have F_o0_nextOut := F_o0_nextOut.other w (Or.inl ne_o0_ac)
                      have F_o0_firstOut := F_o0_firstOut.other w (Or.inl ne_o0_ac)
                      have F_o0_nodes := F_o0_nodes.other w (Or.inl ne_o0_ac)
                      have A_ah := A_ah.other w ne_ah_ac
                      have A_an := A_an.other w ne_an_ac
                      have A_af := A_af.other w ne_af_ac
                      have A_o3 := A_o3.other w ne_o3_ac
                      have A_o4 := A_o4.other w ne_o4_ac
                      have A_o5 := A_o5.other w ne_o5_ac
                      refine g_iinc K W d13_115 rfl (Ls' := #[.val (.ref o0), .val (.int (Int32.ofNat sr)), .val (.int (Int32.ofNat sk)), .val (.ref o3), .val (.ref o4), .val (.ref o5), .val (.int (Int32.ofNat i)), .val (.int (Int32.ofNat u)), .val (.long (0 : Int64)), .second, .val (.long fm), .second, .val (.int ((Int32.ofNat j) + (1 : Int32)))]) rfl (pc' := 118) rfl ?_
                      refine g_goto K W d13_118 (pt := 76) rfl ?_
                      rw [own_one]
                      exact ih (i - (j + 1)) (by omega) (j + 1) _ T h rfl (by omega) (ag.step pt hj2 (by omega) (hfl j hj2) hag.1 hag.2.1 hag.2.2) X_o0 F_o0_heads F_o0_capacities F_o0_nextOut F_o0_firstOut F_o0_nodes A_ah A_ac A_an A_af A_o3 A_o4 A_o5 kp W
                    · refine g_lload K W d13_121 rfl (pc' := 123) rfl ?_
                      refine g_lstore K W d13_123 (Ls' := #[.val (.ref o0), .val (.int (Int32.ofNat sr)), .val (.int (Int32.ofNat sk)), .val (.ref o3), .val (.ref o4), .val (.ref o5), .val (.int (Int32.ofNat i)), .val (.int (Int32.ofNat u)), .val (.long fm), .second, .val (.long fm), .second, .val (.int (Int32.ofNat j))]) rfl (pc' := 125) rfl ?_
                      refine g_goto K W d13_125 (pt := 9) rfl ?_
                      refine g_lload K W d13_9 rfl (pc' := 11) rfl ?_
                      refine g_lconst K W (v := (0 : Int64)) d13_11 rfl (pc' := 12) rfl ?_
                      refine g_lcmp_ne K W d13_12 (pc1 := 13) rfl d13_13 (pt := 245) rfl (pf := 16) rfl (fun hc12 => absurd hc12 (fun z => by rw [z] at hf0; exact absurd hf0 (by decide))) (fun hc12 => ?_)
                      refine g_lload K W d13_245 rfl (pc' := 247) rfl ?_
                      have hje : j = i := by have := (not_congr (own_lt (i := j) (n := i) (by omega) (by omega))).mp hc80; omega
                      exact g_retL K W d13_247 (by decide) (by decide) ⟨fm, Cg, cu, Pf, b, rfl, kp, A_ac, A_o4, A_o5, by omega, hfI, (show AG nn kk H C0 (Ci Cf) (Ci Cg) sr sk F fm.toInt Pn nd i i by rw [hje] at ag; exact ag).done (hnu.trans hus), hb, fun _ => hf0⟩
                exact loop3 i 0 Cf T h rfl (Nat.zero_le _) (AG.start fi pt.1) X_o0 F_o0_heads F_o0_capacities F_o0_nextOut F_o0_firstOut F_o0_nodes A_ah A_ac A_an A_af A_o3 A_o4 A_o5 kp W
          exact loop2 d 0 _ T rfl (Nat.zero_le _) (by decide) (by decide) (fun j hj => absurd hj (Nat.not_lt_zero _)) W
        · refine g_aload K W d13_128 rfl rfl (pc' := 130) rfl ?_
          refine g_iload K W d13_130 rfl (pc' := 132) rfl ?_
          refine g_iaload K W A_o4 (k := u) (own_ofNat (by omega)) hun (v := (cu u)) rfl d13_132 (pc' := 133) rfl ?_
          refine g_istore K W d13_133 (Ls' := #[.val (.ref o0), .val (.int (Int32.ofNat sr)), .val (.int (Int32.ofNat sk)), .val (.ref o3), .val (.ref o4), .val (.ref o5), .val (.int (Int32.ofNat d)), .val (.int (Int32.ofNat u)), .val (.long (0 : Int64)), .second, .val (.int (cu u)), .unset, .unset]) (by rcases hs_s10 with rfl | ⟨z, rfl⟩ <;> rfl) (pc' := 135) rfl ?_
          have loop4 : ∀ (my : Nat) (b1 : Nat) (x10 : Int32) (T : State), b1 = my → b1 ≤ b u → x10.toInt = prv H u b1 → (∀ e', E e' → tl H e' = u → e' < b1) → Wd p l e rm_c_push s m args below meth c n0 T h 0 0 → Go p e below s n0 (Q_c_push Z n0 h0 o0 (Int32.ofNat sr) (Int32.ofNat sk) o3 o4 o5 ah ac an af nn kk M H Hf Cf Nf Ff sr sk Lf cu Pf C0 F b E) 0 0 T (mkF m 135 #[.val (.ref o0), .val (.int (Int32.ofNat sr)), .val (.int (Int32.ofNat sk)), .val (.ref o3), .val (.ref o4), .val (.ref o5), .val (.int (Int32.ofNat d)), .val (.int (Int32.ofNat u)), .val (.long (0 : Int64)), .second, .val (.int x10), .unset, .unset] []) := by
            intro my
            induction my using Nat.strongRecOn with
            | ind my ih =>
              intro b1 x10 T hmy hb1u hx10 hE1  W
              refine g_iload K W d13_135 rfl (pc' := 137) rfl ?_
              refine g_if_lt K W d13_137 (pt := 165) rfl (pf := 140) rfl (fun hc137 => ?_) (fun hc137 => ?_)
              · refine g_aload K W d13_165 rfl rfl (pc' := 167) rfl ?_
                refine g_iload K W d13_167 rfl (pc' := 169) rfl ?_
                refine g_iload K W d13_169 rfl (pc' := 171) rfl ?_
                refine g_iastore K W A_o4 (k := u) (own_ofNat (by omega)) hun ge_o4 d13_171 (pc' := 172) rfl (fun T h W w A_o4 => ?_)
                have kp := kp.wr w (Or.inl (List.mem_of_getElem? (i := 1) rfl))
                have X_o0 := X_o0.wr w
                have F_o0_heads := F_o0_heads.other w (Or.inl ne_o0_o4)
                have F_o0_capacities := F_o0_capacities.other w (Or.inl ne_o0_o4)
                have F_o0_nextOut := F_o0_nextOut.other w (Or.inl ne_o0_o4)
                have F_o0_firstOut := F_o0_firstOut.other w (Or.inl ne_o0_o4)
                have F_o0_nodes := F_o0_nodes.other w (Or.inl ne_o0_o4)
                have A_ah := A_ah.other w ne_ah_o4
                have A_ac := A_ac.other w ne_ac_o4
                have A_an := A_an.other w ne_an_o4
                have A_af := A_af.other w ne_af_o4
                have A_o3 := A_o3.other w ne_o3_o4
                have A_o5 := A_o5.other w ne_o5_o4
                refine g_iload K W d13_172 rfl (pc' := 174) rfl ?_
                refine g_if_lt K W d13_174 (pt := 199) rfl (pf := 177) rfl (fun hc174 => ?_) (fun hc174 => absurd hc137 hc174)
                refine g_iload K W d13_199 rfl (pc' := 201) rfl ?_
                refine g_if_le K W d13_201 (pt := 239) rfl (pf := 204) rfl (fun hc201 => ?_) (fun hc201 => ?_)
                · have hd0 : 0 < d := (own_pos d (by omega)).mp hc201
                  obtain ⟨p1, p2, p3, p4, p5⟩ := pt.2.1 (d - 1) (by omega)
                  have hnd1 := (pt.2.2 (d - 1) (by omega)).1
                  have hp6 := fl_lt p1
                  have hne1 : nd (d - 1) ≠ u := by rw [← hnu]; exact pt.ne (by omega) (Nat.le_refl _) (by omega)
                  refine g_iinc K W d13_204 rfl (Ls' := #[.val (.ref o0), .val (.int (Int32.ofNat sr)), .val (.int (Int32.ofNat sk)), .val (.ref o3), .val (.ref o4), .val (.ref o5), .val (.int ((Int32.ofNat d) + (-1 : Int32))), .val (.int (Int32.ofNat u)), .val (.long (0 : Int64)), .second, .val (.int x10), .unset, .unset]) rfl (pc' := 207) rfl ?_
                  rw [own_m1 hd0]
                  refine g_aloadN K W d13_207 rfl rfl (pc' := 208) rfl ?_
                  refine g_getF K W (host := "") (Or.inl (hw _ (List.mem_of_getElem? (i := 18) rfl))) Via.refl F_o0_heads d13_208 (pc' := 211) rfl (fun T W => ?_)
                  refine g_aload K W d13_211 rfl rfl (pc' := 213) rfl ?_
                  refine g_iload K W d13_213 rfl (pc' := 215) rfl ?_
                  refine g_iaload K W A_o5 (k := (d - 1)) (own_ofNat (by omega)) (by omega) (v := (Int32.ofNat (Pn (d - 1)))) (hP (d - 1) (by omega)) d13_215 (pc' := 216) rfl ?_
                  refine g_iconst K W (v := (1 : Int32)) d13_216 rfl (pc' := 217) rfl ?_
                  refine g_ixor K W d13_217 (pc' := 218) rfl ?_
                  rw [own_xor1 (by omega)]
                  refine g_iaload K W A_ah (k := (fl (Pn (d - 1)))) (own_ofNat (by omega)) (by omega) (v := (Int32.ofNat (nd (d - 1)))) (by rw [hHf _ hp6, ← p2]; rfl) d13_218 (pc' := 219) rfl ?_
                  refine g_istore K W d13_219 (Ls' := #[.val (.ref o0), .val (.int (Int32.ofNat sr)), .val (.int (Int32.ofNat sk)), .val (.ref o3), .val (.ref o4), .val (.ref o5), .val (.int (Int32.ofNat (d - 1))), .val (.int (Int32.ofNat (nd (d - 1)))), .val (.long (0 : Int64)), .second, .val (.int x10), .unset, .unset]) rfl (pc' := 221) rfl ?_
                  refine g_aload K W d13_221 rfl rfl (pc' := 223) rfl ?_
                  refine g_iload K W d13_223 rfl (pc' := 225) rfl ?_
                  refine g_aloadN K W d13_225 rfl rfl (pc' := 226) rfl ?_
                  refine g_getF K W (host := "") (Or.inl (hw _ (List.mem_of_getElem? (i := 22) rfl))) Via.refl F_o0_nextOut d13_226 (pc' := 229) rfl (fun T W => ?_)
                  refine g_aload K W d13_229 rfl rfl (pc' := 231) rfl ?_
                  refine g_iload K W d13_231 rfl (pc' := 233) rfl ?_
                  refine g_iaload K W A_o4 (k := (nd (d - 1))) (own_ofNat (by omega)) hnd1 (v := (Int32.ofNat (Pn (d - 1)))) (by rw [upd_ne _ _ hne1]; exact own_toI ((hb _ hnd1).2.trans p5)) d13_233 (pc' := 234) rfl ?_
                  refine g_iaload K W A_an (k := (Pn (d - 1))) (own_ofNat (by omega)) (by omega) (v := (Nf (Pn (d - 1)))) rfl d13_234 (pc' := 235) rfl ?_
                  refine g_iastore K W A_o4 (k := (nd (d - 1))) (own_ofNat (by omega)) hnd1 ge_o4 d13_235 (pc' := 236) rfl (fun T h W w A_o4 => ?_)
                  have kp := kp.wr w (Or.inl (List.mem_of_getElem? (i := 1) rfl))
                  have X_o0 := X_o0.wr w
                  have F_o0_heads := F_o0_heads.other w (Or.inl ne_o0_o4)
                  have F_o0_capacities := F_o0_capacities.other w (Or.inl ne_o0_o4)
                  have F_o0_nextOut := F_o0_nextOut.other w (Or.inl ne_o0_o4)
                  have F_o0_firstOut := F_o0_firstOut.other w (Or.inl ne_o0_o4)
                  have F_o0_nodes := F_o0_nodes.other w (Or.inl ne_o0_o4)
                  have A_ah := A_ah.other w ne_ah_o4
                  have A_ac := A_ac.other w ne_ac_o4
                  have A_an := A_an.other w ne_an_o4
                  have A_af := A_af.other w ne_af_o4
                  have A_o3 := A_o3.other w ne_o3_o4
                  have A_o5 := A_o5.other w ne_o5_o4
                  refine g_goto K W d13_236 (pt := 242) rfl ?_
                  refine g_goto K W d13_242 (pt := 9) rfl ?_
                  have pt1 := pt.low b1
                  rw [hnu] at pt1
                  have hb1 : ∀ v, v < nn → upd b u b1 v ≤ 2 * kk ∧ (upd cu u x10 v).toInt = prv H v (upd b u b1 v) := (fun v hv => by
                    by_cases z : v = u
                    · rw [z, upd_same, upd_same]; exact ⟨by have := (hb u hun).1; omega, hx10⟩
                    · rw [upd_ne _ _ z, upd_ne _ _ z]; exact hb v hv)
                  have hEE : ∀ e', E e' → e' < upd b u b1 (tl H e') := (fun e' he' => by
                    by_cases z : tl H e' = u
                    · rw [z, upd_same]; exact hE1 e' he' z
                    · rw [upd_ne _ _ z]; exact hE e' he')
                  have hsb := sb_upd (b := b) (u := u) (x := b1) nn hun
                  have hsb2 := sb_upd (b := upd b u b1) (u := nd (d - 1)) (x := Pn (d - 1)) nn hnd1
                  rw [upd_ne b _ hne1] at hsb2
                  have pt2 := (show PT nn kk H (Ci Cf) (Li Lf) sr (upd b u b1) Pn nd ((d - 1) + 1) by rw [Nat.sub_add_cancel hd0]; exact pt1).drop.low (Pn (d - 1))
                  have hno : ¬ E (Pn (d - 1)) := fun z => by
                    rcases (pi _ z).2.2 with y | ⟨e', y1, y2⟩
                    · exact hc32 (by rw [← y, p3, Nat.sub_add_cancel hd0, hnu])
                    · have y3 : tl H e' = u := by rw [y2, p3, Nat.sub_add_cancel hd0, hnu]
                      exact prv_no (by rw [← hx10]; exact (own_neg _).mp hc137) (hE1 e' y1 y3) y3
                  have hlo : Pn (d - 1) < b (nd (d - 1)) := by have z := prv_lt H (nd (d - 1)) (b (nd (d - 1))); rw [p5] at z; omega
                  exact ih0 (2 * sb (upd (upd b u b1) (nd (d - 1)) (Pn (d - 1))) nn + (nn + 1 - (d - 1))) (by omega) (d - 1) (nd (d - 1)) (upd (upd b u b1) (nd (d - 1)) (Pn (d - 1))) (upd (upd cu u x10) (nd (d - 1)) (Nf (Pn (d - 1)))) Pf Pn nd _ T h rfl pt2 rfl (fun i hi => hP i (by omega)) (fun v hv => by
                    by_cases z : v = nd (d - 1)
                    · rw [z, upd_same, upd_same]; exact ⟨by omega, by rw [hNf _ p1, p2]⟩
                    · rw [upd_ne _ _ z, upd_ne _ _ z]; exact hb1 v hv) (fun e' he' => by
                    by_cases z : tl H e' = nd (d - 1)
                    · rw [z, upd_same]
                      have y := hE e' he'
                      rw [z] at y
                      have y2 := prv_lo p5 z y
                      have y3 : e' ≠ Pn (d - 1) := fun y4 => hno (y4 ▸ he')
                      omega
                    · rw [upd_ne _ _ z]; exact hEE e' he') (Or.inr ⟨_, rfl⟩) X_o0 F_o0_heads F_o0_capacities F_o0_nextOut F_o0_firstOut F_o0_nodes A_ah A_ac A_an A_af A_o3 A_o4 A_o5 kp W
                · have hd0 : d = 0 := by have := (not_congr (own_pos d (by omega))).mp hc201; omega
                  have hus : u = sr := by rw [← hnu, hd0]; exact pt.1
                  refine g_iloadN K W d13_239 rfl (pc' := 240) rfl ?_
                  refine g_istore K W d13_240 (Ls' := #[.val (.ref o0), .val (.int (Int32.ofNat sr)), .val (.int (Int32.ofNat sk)), .val (.ref o3), .val (.ref o4), .val (.ref o5), .val (.int (Int32.ofNat d)), .val (.int (Int32.ofNat sr)), .val (.long (0 : Int64)), .second, .val (.int x10), .unset, .unset]) rfl (pc' := 242) rfl ?_
                  refine g_goto K W d13_242 (pt := 9) rfl ?_
                  refine g_lload K W d13_9 rfl (pc' := 11) rfl ?_
                  refine g_lconst K W (v := (0 : Int64)) d13_11 rfl (pc' := 12) rfl ?_
                  refine g_lcmp_ne K W d13_12 (pc1 := 13) rfl d13_13 (pt := 245) rfl (pf := 16) rfl (fun hc12 => ?_) (fun hc12 => absurd rfl hc12)
                  refine g_iload K W d13_16 rfl (pc' := 18) rfl ?_
                  refine g_iloadN K W d13_18 rfl (pc' := 19) rfl ?_
                  refine g_icmp_ne K W d13_19 (pt := 29) rfl (pf := 22) rfl (fun hc19 => ?_) (fun hc19 => absurd rfl hc19)
                  refine g_aload K W d13_22 rfl rfl (pc' := 24) rfl ?_
                  refine g_iloadN K W d13_24 rfl (pc' := 25) rfl ?_
                  refine g_iaload K W A_o4 (k := sr) (own_ofNat (by omega)) hs (v := x10) (by rw [← hus]; exact upd_same _ _ _) d13_25 (pc' := 26) rfl ?_
                  refine g_if_lt K W d13_26 (pt := 245) rfl (pf := 29) rfl (fun hc26 => ?_) (fun hc26 => absurd hc137 hc26)
                  refine g_lload K W d13_245 rfl (pc' := 247) rfl ?_
                  have hns : ∀ e', E e' → tl H e' ≠ sr := fun e' y1 y2 => by
                    have y3 : tl H e' = u := y2.trans hus.symm
                    exact prv_no (by rw [← hx10]; exact (own_neg _).mp hc137) (hE1 e' y1 y3) y3
                  have hb1 : ∀ v, v < nn → upd b u b1 v ≤ 2 * kk ∧ (upd cu u x10 v).toInt = prv H v (upd b u b1 v) := (fun v hv => by
                    by_cases z : v = u
                    · rw [z, upd_same, upd_same]; exact ⟨by have := (hb u hun).1; omega, hx10⟩
                    · rw [upd_ne _ _ z, upd_ne _ _ z]; exact hb v hv)
                  exact g_retL K W d13_247 (by decide) (by decide) ⟨0, Cf, _, Pf, upd b u b1, rfl, kp, A_ac, A_o4, A_o5, by decide, by decide, by rw [show (0 : Int64).toInt = 0 from rfl, Int.add_zero]; exact fi, hb1, fun ⟨e', y1, y2⟩ => absurd y2 (hns e' y1)⟩
              · have hx : ¬ prv H u b1 < 0 := by rw [← hx10]; exact fun z => hc137 ((own_neg _).mpr z)
                obtain ⟨ed, h1, h2, h3⟩ := prv_at hx
                have hxe : x10.toInt = (ed : Int) := hx10.trans h2
                have hed : ed < 2 * kk := by have := (hb u hun).1; omega
                refine g_aloadN K W d13_140 rfl rfl (pc' := 141) rfl ?_
                refine g_iload K W d13_141 rfl (pc' := 143) rfl ?_
                refine g_iload K W d13_143 rfl (pc' := 145) rfl ?_
                refine g_iloadN K W d13_145 rfl (pc' := 146) rfl ?_
                refine g_aloadN K W d13_146 rfl rfl (pc' := 147) rfl ?_
                refine g_callP (c_adm l Z a0 hw n0 _ W.sz o0 x10 (Int32.ofNat u) (Int32.ofNat sk) o3 ah ac an af nn kk M H Hf Cf Nf Ff sr sk Lf ed u X_o0 F_o0_heads F_o0_capacities F_o0_nextOut F_o0_firstOut F_o0_nodes A_ah A_ac A_an A_af A_o3 hxe hed rfl h3 hun rfl ht lvb ⟨hn5, hk16, hkM, hM32, hH, hHf, hNf, hFf⟩) K W X_o0.cell (hw _ (List.mem_of_getElem? (i := 74) rfl)) (hw _ (List.mem_of_getElem? (i := 75) rfl)) (hw _ (List.mem_of_getElem? (i := 10) rfl)) (hw _ (List.mem_of_getElem? (i := 76) rfl)) (hw _ (List.mem_of_getElem? (i := 11) rfl)) (hw _ (List.mem_of_getElem? (i := 77) rfl)) (by decide) (lenOf pd_2 rfl) d13_147 (pc' := 150) rfl (argsL := [(.int x10), (.int (Int32.ofNat u)), (.int (Int32.ofNat sk)), (.ref o3)]) (rest := []) rfl rfl (by decide) (wt := 0) rfl (by decide) (by decide) (by decide) ?_
                rintro T _ _ W (⟨rfl, rfl, hA⟩ | ⟨rfl, rfl, hA⟩)
                · show Go p e below s n0 (Q_c_push Z n0 h0 o0 (Int32.ofNat sr) (Int32.ofNat sk) o3 o4 o5 ah ac an af nn kk M H Hf Cf Nf Ff sr sk Lf cu Pf C0 F b E) 0 0 T (mkF m 150 #[.val (.ref o0), .val (.int (Int32.ofNat sr)), .val (.int (Int32.ofNat sk)), .val (.ref o3), .val (.ref o4), .val (.ref o5), .val (.int (Int32.ofNat d)), .val (.int (Int32.ofNat u)), .val (.long (0 : Int64)), .second, .val (.int x10), .unset, .unset] [(.int (1 : Int32))])
                  refine g_if_ne K W d13_150 (pt := 165) rfl (pf := 153) rfl (fun hc150 => absurd hc150 (by decide)) (fun hc150 => ?_)
                  refine g_aload K W d13_165 rfl rfl (pc' := 167) rfl ?_
                  refine g_iload K W d13_167 rfl (pc' := 169) rfl ?_
                  refine g_iload K W d13_169 rfl (pc' := 171) rfl ?_
                  refine g_iastore K W A_o4 (k := u) (own_ofNat (by omega)) hun ge_o4 d13_171 (pc' := 172) rfl (fun T h W w A_o4 => ?_)
                  have kp := kp.wr w (Or.inl (List.mem_of_getElem? (i := 1) rfl))
                  have X_o0 := X_o0.wr w
                  have F_o0_heads := F_o0_heads.other w (Or.inl ne_o0_o4)
                  have F_o0_capacities := F_o0_capacities.other w (Or.inl ne_o0_o4)
                  have F_o0_nextOut := F_o0_nextOut.other w (Or.inl ne_o0_o4)
                  have F_o0_firstOut := F_o0_firstOut.other w (Or.inl ne_o0_o4)
                  have F_o0_nodes := F_o0_nodes.other w (Or.inl ne_o0_o4)
                  have A_ah := A_ah.other w ne_ah_o4
                  have A_ac := A_ac.other w ne_ac_o4
                  have A_an := A_an.other w ne_an_o4
                  have A_af := A_af.other w ne_af_o4
                  have A_o3 := A_o3.other w ne_o3_o4
                  have A_o5 := A_o5.other w ne_o5_o4
                  refine g_iload K W d13_172 rfl (pc' := 174) rfl ?_
                  refine g_if_lt K W d13_174 (pt := 199) rfl (pf := 177) rfl (fun hc174 => absurd hc174 hc137) (fun hc174 => ?_)
                  refine g_aload K W d13_177 rfl rfl (pc' := 179) rfl ?_
                  refine g_iload K W d13_179 rfl (pc' := 181) rfl ?_
                  refine g_iinc K W d13_181 rfl (Ls' := #[.val (.ref o0), .val (.int (Int32.ofNat sr)), .val (.int (Int32.ofNat sk)), .val (.ref o3), .val (.ref o4), .val (.ref o5), .val (.int ((Int32.ofNat d) + (1 : Int32))), .val (.int (Int32.ofNat u)), .val (.long (0 : Int64)), .second, .val (.int x10), .unset, .unset]) rfl (pc' := 184) rfl ?_
                  refine g_iload K W d13_184 rfl (pc' := 186) rfl ?_
                  refine g_iastore K W A_o5 (k := d) (own_ofNat (by omega)) hdn ge_o5 d13_186 (pc' := 187) rfl (fun T h W w A_o5 => ?_)
                  have kp := kp.wr w (Or.inl (List.mem_of_getElem? (i := 2) rfl))
                  have X_o0 := X_o0.wr w
                  have F_o0_heads := F_o0_heads.other w (Or.inl ne_o0_o5)
                  have F_o0_capacities := F_o0_capacities.other w (Or.inl ne_o0_o5)
                  have F_o0_nextOut := F_o0_nextOut.other w (Or.inl ne_o0_o5)
                  have F_o0_firstOut := F_o0_firstOut.other w (Or.inl ne_o0_o5)
                  have F_o0_nodes := F_o0_nodes.other w (Or.inl ne_o0_o5)
                  have A_ah := A_ah.other w ne_ah_o5
                  have A_ac := A_ac.other w ne_ac_o5
                  have A_an := A_an.other w ne_an_o5
                  have A_af := A_af.other w ne_af_o5
                  have A_o3 := A_o3.other w ne_o3_o5
                  have A_o4 := A_o4.other w ne_o4_o5
                  refine g_aloadN K W d13_187 rfl rfl (pc' := 188) rfl ?_
                  refine g_getF K W (host := "") (Or.inl (hw _ (List.mem_of_getElem? (i := 18) rfl))) Via.refl F_o0_heads d13_188 (pc' := 191) rfl (fun T W => ?_)
                  refine g_iload K W d13_191 rfl (pc' := 193) rfl ?_
                  refine g_iaload K W A_ah (k := ed) hxe (by omega) (v := (Int32.ofNat (H ed))) (hHf ed hed) d13_193 (pc' := 194) rfl ?_
                  refine g_istore K W d13_194 (Ls' := #[.val (.ref o0), .val (.int (Int32.ofNat sr)), .val (.int (Int32.ofNat sk)), .val (.ref o3), .val (.ref o4), .val (.ref o5), .val (.int ((Int32.ofNat d) + (1 : Int32))), .val (.int (Int32.ofNat (H ed))), .val (.long (0 : Int64)), .second, .val (.int x10), .unset, .unset]) rfl (pc' := 196) rfl ?_
                  refine g_goto K W d13_196 (pt := 242) rfl ?_
                  refine g_goto K W d13_242 (pt := 9) rfl ?_
                  have pt1 := pt.low b1
                  rw [hnu] at pt1
                  have hb1 : ∀ v, v < nn → upd b u b1 v ≤ 2 * kk ∧ (upd cu u x10 v).toInt = prv H v (upd b u b1 v) := (fun v hv => by
                    by_cases z : v = u
                    · rw [z, upd_same, upd_same]; exact ⟨by have := (hb u hun).1; omega, hx10⟩
                    · rw [upd_ne _ _ z, upd_ne _ _ z]; exact hb v hv)
                  have hEE : ∀ e', E e' → e' < upd b u b1 (tl H e') := (fun e' he' => by
                    by_cases z : tl H e' = u
                    · rw [z, upd_same]; exact hE1 e' he' z
                    · rw [upd_ne _ _ z]; exact hE e' he')
                  have hsb := sb_upd (b := b) (u := u) (x := b1) nn hun
                  rw [own_one]
                  have pt2 := pt1.adv hH hed (by rw [hnu, upd_same]; exact h2) (h3.trans hnu.symm) hA
                  exact ih0 (2 * sb (upd b u b1) nn + (nn + 1 - (d + 1))) (by omega) (d + 1) (H ed) (upd b u b1) (upd cu u x10) (upd Pf d x10) (upd Pn d ed) (upd nd (d + 1) (H ed)) _ T h rfl pt2 (upd_same _ _ _) (fun i hi => by
                    by_cases z : i = d
                    · rw [z, upd_same, upd_same]; exact own_toI hxe
                    · rw [upd_ne _ _ z, upd_ne _ _ z]; exact hP i (by omega)) hb1 hEE (Or.inr ⟨_, rfl⟩) X_o0 F_o0_heads F_o0_capacities F_o0_nextOut F_o0_firstOut F_o0_nodes A_ah A_ac A_an A_af A_o3 A_o4 A_o5 kp W
                · show Go p e below s n0 (Q_c_push Z n0 h0 o0 (Int32.ofNat sr) (Int32.ofNat sk) o3 o4 o5 ah ac an af nn kk M H Hf Cf Nf Ff sr sk Lf cu Pf C0 F b E) 0 0 T (mkF m 150 #[.val (.ref o0), .val (.int (Int32.ofNat sr)), .val (.int (Int32.ofNat sk)), .val (.ref o3), .val (.ref o4), .val (.ref o5), .val (.int (Int32.ofNat d)), .val (.int (Int32.ofNat u)), .val (.long (0 : Int64)), .second, .val (.int x10), .unset, .unset] [(.int (0 : Int32))])
                  refine g_if_ne K W d13_150 (pt := 165) rfl (pf := 153) rfl (fun hc150 => ?_) (fun hc150 => absurd rfl hc150)
                  refine g_aloadN K W d13_153 rfl rfl (pc' := 154) rfl ?_
                  refine g_getF K W (host := "") (Or.inl (hw _ (List.mem_of_getElem? (i := 22) rfl))) Via.refl F_o0_nextOut d13_154 (pc' := 157) rfl (fun T W => ?_)
                  refine g_iload K W d13_157 rfl (pc' := 159) rfl ?_
                  refine g_iaload K W A_an (k := ed) hxe (by omega) (v := (Nf ed)) rfl d13_159 (pc' := 160) rfl ?_
                  refine g_istore K W d13_160 (Ls' := #[.val (.ref o0), .val (.int (Int32.ofNat sr)), .val (.int (Int32.ofNat sk)), .val (.ref o3), .val (.ref o4), .val (.ref o5), .val (.int (Int32.ofNat d)), .val (.int (Int32.ofNat u)), .val (.long (0 : Int64)), .second, .val (.int (Nf ed)), .unset, .unset]) rfl (pc' := 162) rfl ?_
                  refine g_goto K W d13_162 (pt := 135) rfl ?_
                  exact ih ed (by omega) ed _ T rfl (by omega) (by rw [hNf ed hed, h3]) (fun e' y1 y2 => by
                    have y3 := prv_lo h2 y2 (hE1 e' y1 y2)
                    have y4 : e' ≠ ed := fun z => hA (z ▸ (pi e' y1).2.1)
                    omega) W
          exact loop4 (b u) (b u) _ T rfl (Nat.le_refl _) (hb u hun).2 (fun e' y1 y2 => by have y3 := hE e' y1; rw [y2] at y3; exact y3) W
      refine g_iload K W d13_16 rfl (pc' := 18) rfl ?_
      refine g_iloadN K W d13_18 rfl (pc' := 19) rfl ?_
      refine g_icmp_ne K W d13_19 (pt := 29) rfl (pf := 22) rfl (fun hc19 => ?_) (fun hc19 => ?_)
      · refine g_aload K W d13_22 rfl rfl (pc' := 24) rfl ?_
        refine g_iloadN K W d13_24 rfl (pc' := 25) rfl ?_
        refine g_iaload K W A_o4 (k := sr) (own_ofNat (by omega)) hs (v := (cu sr)) rfl d13_25 (pc' := 26) rfl ?_
        refine g_if_lt K W d13_26 (pt := 245) rfl (pf := 29) rfl (fun hc26 => ?_) (fun hc26 => ?_)
        · refine g_lload K W d13_245 rfl (pc' := 247) rfl ?_
          have hns : ∀ e', E e' → tl H e' ≠ sr := fun e' y1 y2 => by
            have y3 := hE e' y1
            rw [y2] at y3
            exact prv_no (by rw [← (hb sr hs).2]; exact (own_neg _).mp hc26) y3 y2
          exact g_retL K W d13_247 (by decide) (by decide) ⟨0, Cf, cu, Pf, b, rfl, kp, A_ac, A_o4, A_o5, by decide, by decide, by rw [show (0 : Int64).toInt = 0 from rfl, Int.add_zero]; exact fi, hb, fun ⟨e', y1, y2⟩ => absurd y2 (hns e' y1)⟩
        · exact hJ29  _ (W.mono (by decide) (by decide))
      · exact hJ29  _ (W.mono (by decide) (by decide))
  exact loop1 _ 0 sr b cu Pf (fun _ => 0) (fun _ => sr) _ T h0 rfl (PT.start hs lv0 b _) rfl (fun i hi => absurd hi (Nat.not_lt_zero _)) hb hE (Or.inl rfl) X_o0 F_o0_heads F_o0_capacities F_o0_nextOut F_o0_firstOut F_o0_nodes A_ah A_ac A_an A_af A_o3 A_o4 A_o5 kp W
/-- a MinCut of nn nodes and kk edges, its cuts, and the places that are none of its own -/
def MC (Z : State) (n0 : Nat) (h : Heap) (o : Addr) (nn kk : Nat) (Kc : (Nat → Bool) → Int) (Fs : List Addr) : Prop := Exa Z h o "com/example/ichnos/ichnos/planning/ils/MinCut" ∧ n0 ≤ o ∧ ∃ (ah ac an af : Addr) (M : Nat) (H : Nat → Nat) (Hf : Nat → Int32) (Cf : Nat → Int64) (Nf Ff : Nat → Int32), n0 ≤ ah ∧ n0 ≤ ac ∧ n0 ≤ an ∧ n0 ≤ af ∧ o ≠ ah ∧ o ≠ ac ∧ o ≠ an ∧ o ≠ af ∧ ah ≠ ac ∧ ah ≠ an ∧ ah ≠ af ∧ ac ≠ an ∧ ac ≠ af ∧ an ≠ af ∧ Fld Z h o "com/example/ichnos/ichnos/planning/ils/MinCut" "heads" "[I" (.ref ah) ∧ Fld Z h o "com/example/ichnos/ichnos/planning/ils/MinCut" "capacities" "[J" (.ref ac) ∧ Fld Z h o "com/example/ichnos/ichnos/planning/ils/MinCut" "nextOut" "[I" (.ref an) ∧ Fld Z h o "com/example/ichnos/ichnos/planning/ils/MinCut" "firstOut" "[I" (.ref af) ∧ Fld Z h o "com/example/ichnos/ichnos/planning/ils/MinCut" "nodes" "I" (.int (Int32.ofNat nn)) ∧ Fld Z h o "com/example/ichnos/ichnos/planning/ils/MinCut" "edges" "I" (.int (Int32.ofNat (2 * kk))) ∧ AyI Z h ah .int M Hf ∧ AyJ Z h ac M Cf ∧ AyI Z h an .int M Nf ∧ AyI Z h af .int nn Ff ∧ GP nn kk M H Hf Nf Ff ∧ (M = 16 ∨ M = 32) ∧ CAP kk Cf ∧ (∀ S, Kc S = cut H kk (Ci Cf) S) ∧ ∀ x ∈ Fs, x < h.size ∧ x ≠ o ∧ x ≠ ah ∧ x ≠ ac ∧ x ≠ an ∧ x ≠ af
/-- the places Fs hold what they held -/
def Sm (h0 h : Heap) (Fs : List Addr) : Prop := ∀ x ∈ Fs, ∀ c : Cell, h0[x]? = some c → h[x]? = some c
theorem AyI.sm {Z : State} {h0 h : Heap} {Fs : List Addr} {a : Addr} {ty : FieldType} {n : Nat} {f : Nat → Int32} (A : AyI Z h0 a ty n f) (X : Sm h0 h Fs) (q : a ∈ Fs) : AyI Z h a ty n f := by obtain ⟨cl, x, r⟩ := A; exact ⟨cl, ⟨X a q cl x.1, x.2⟩, r⟩
theorem AyJ.sm {Z : State} {h0 h : Heap} {Fs : List Addr} {a : Addr} {n : Nat} {f : Nat → Int64} (A : AyJ Z h0 a n f) (X : Sm h0 h Fs) (q : a ∈ Fs) : AyJ Z h a n f := by obtain ⟨cl, x, r⟩ := A; exact ⟨cl, ⟨X a q cl x.1, x.2⟩, r⟩

def Q_c_side (Z : State) (n0 : Nat) (h0 : Heap) (o0 : Addr) (xs : Int32) (xt : Int32) (nn : Nat) (kk : Nat) (sr : Nat) (sk : Nat) (Kc : (Nat → Bool) → Int) (Fs : List Addr) : Option Value → Heap → Prop := fun v h => (v = some .null ∧ Sm h0 h Fs ∧ ∀ S : Nat → Bool, S sr = true → S sk = false → 2305843009213693951 ≤ Kc S) ∨ ∃ (a : Addr) (g : Nat → Int32) (S : Nat → Bool) (F : Int), v = some (.ref a) ∧ Sm h0 h Fs ∧ AyI Z h a .boolean nn g ∧ F < 2305843009213693951 ∧ SideK nn Kc sr sk S F ∧ ∀ v, v < nn → g v = if S v = true then 1 else 0
abbrev rm_c_side : Room := { frames := 2, cells := 5, slots := 25, locals := 41 }
set_option maxHeartbeats 40000000 in
theorem c_side (l : Launch) (Z : State) (a0 : Array Value) (hw : ∀ d ∈ tables_1, d.before a0 Z = true) (n0 : Nat) (h0 : Heap) (hn : n0 ≤ h0.size) (o0 : Addr) (xs : Int32) (xt : Int32) (nn : Nat) (kk : Nat) (sr : Nat) (sk : Nat) (Kc : (Nat → Bool) → Int) (Fs : List Addr) (P : MC Z n0 h0 o0 nn kk Kc Fs) (exs : xs = Int32.ofNat sr) (ext : xt = Int32.ofNat sk) (hs : sr < nn) (ht : sk < nn) (hst : sk ≠ sr) :
    Mt l Z (⟨"com/example/ichnos/ichnos/planning/ils/MinCut", "sourceSide", "(II)[Z"⟩ : MethodName) prog_66_method_4_code 11 (some (.array .boolean)) rm_c_side n0 #[(.ref o0), (.int xs), (.int xt)] h0 (Q_c_side Z n0 h0 o0 xs xt nn kk sr sk Kc Fs) := by
  refine met_of (plainFor_of_name pn_1) (Ls := #[.val (.ref o0), .val (.int xs), .val (.int xt), .unset, .unset, .unset, .unset, .unset, .unset, .unset, .unset]) (fun m => by first | (simp [entryFrame, mkF, argsToLocals, Value.category]; done) | rfl) hn ?_
  intro p e s m below meth c T K W
  replace K : Cx p s m meth c Z "com/example/ichnos/ichnos/planning/ils/MinCut" "sourceSide" prog_66_method_4_code 11 (some (.array .boolean)) := K
  generalize eA : (#[(.ref o0), (.int xs), (.int xt)] : Array Value) = args at W
  show Go p e below s n0 (Q_c_side Z n0 h0 o0 xs xt nn kk sr sk Kc Fs) 5 25 T (mkF m 0 #[.val (.ref o0), .val (.int xs), .val (.int xt), .unset, .unset, .unset, .unset, .unset, .unset, .unset, .unset] [])
  subst exs ext
  show Go p e below s n0 (Q_c_side Z n0 h0 o0 (Int32.ofNat sr) (Int32.ofNat sk) nn kk sr sk Kc Fs) 5 25 T (mkF m 0 #[.val (.ref o0), .val (.int (Int32.ofNat sr)), .val (.int (Int32.ofNat sk)), .unset, .unset, .unset, .unset, .unset, .unset, .unset, .unset] [])
  obtain ⟨X_o0, ge_o0, ah, ac, an, af, M, H, Hf, Cf, Nf, Ff, ge_ah, ge_ac, ge_an, ge_af, ne_o0_ah, ne_o0_ac, ne_o0_an, ne_o0_af, ne_ah_ac, ne_ah_an, ne_ah_af, ne_ac_an, ne_ac_af, ne_an_af, F_o0_heads, F_o0_capacities, F_o0_nextOut, F_o0_firstOut, F_o0_nodes, F_o0_edges, A_ah, A_ac, A_an, A_af, gp, hM, cap, hK, fs⟩ := P
  have ne_ah_o0 := Ne.symm ne_o0_ah
  have ne_ac_o0 := Ne.symm ne_o0_ac
  have ne_an_o0 := Ne.symm ne_o0_an
  have ne_af_o0 := Ne.symm ne_o0_af
  have ne_ac_ah := Ne.symm ne_ah_ac
  have ne_an_ah := Ne.symm ne_ah_an
  have ne_af_ah := Ne.symm ne_ah_af
  have ne_an_ac := Ne.symm ne_ac_an
  have ne_af_ac := Ne.symm ne_ac_af
  have ne_af_an := Ne.symm ne_an_af
  have kp := Keep.refl h0 [o0, ah, ac, an, af]
  have gp0 := gp
  obtain ⟨hn5, hk16, hkM, hM32, hH, hHf, hNf, hFf⟩ := gp
  have fi0 : FI nn kk H (Ci Cf) (Ci Cf) sr sk 0 := FI.start (fun e he => (cap e he).1)
  have hC0 : ∀ e, e < 2 * kk → Ci Cf e + Ci Cf (fl e) ≤ 2305843009213693951 := fun e he => (cap e he).2
  have hsm : ∀ h, Keep h0 h [o0, ah, ac, an, af] → Sm h0 h Fs := fun h kp x hx c hc => kp.2.1 x c hc (by have z := fs x hx; simp [z.2.1, z.2.2.1, z.2.2.2.1, z.2.2.2.2.1, z.2.2.2.2.2])
  refine g_aloadN K W d10_0 rfl rfl (pc' := 1) rfl ?_
  refine g_getF K W (host := "") (Or.inl (hw _ (List.mem_of_getElem? (i := 24) rfl))) Via.refl F_o0_nodes d10_1 (pc' := 4) rfl (fun T W => ?_)
  refine g_newI K W (ty := .int) (n := nn) (cap := 5) (hw _ (List.mem_of_getElem? (i := 5) rfl)) rfl rfl (own_ofNat (by omega)) hn5 d10_4 (pc' := 6) rfl (by decide) (by decide) (by decide) (fun T h a4 W E ha_a4 ge_a4 A_a4 => ?_)
  have ne_o0_a4 : o0 ≠ a4 := fun q => by have r := X_o0.lt; rw [q, ha_a4] at r; exact Nat.lt_irrefl _ r
  have ne_a4_o0 : a4 ≠ o0 := Ne.symm ne_o0_a4
  have ne_ah_a4 : ah ≠ a4 := fun q => by have r := A_ah.lt; rw [q, ha_a4] at r; exact Nat.lt_irrefl _ r
  have ne_a4_ah : a4 ≠ ah := Ne.symm ne_ah_a4
  have ne_ac_a4 : ac ≠ a4 := fun q => by have r := A_ac.lt; rw [q, ha_a4] at r; exact Nat.lt_irrefl _ r
  have ne_a4_ac : a4 ≠ ac := Ne.symm ne_ac_a4
  have ne_an_a4 : an ≠ a4 := fun q => by have r := A_an.lt; rw [q, ha_a4] at r; exact Nat.lt_irrefl _ r
  have ne_a4_an : a4 ≠ an := Ne.symm ne_an_a4
  have ne_af_a4 : af ≠ a4 := fun q => by have r := A_af.lt; rw [q, ha_a4] at r; exact Nat.lt_irrefl _ r
  have ne_a4_af : a4 ≠ af := Ne.symm ne_af_a4
  have sz_a4 : h0.size ≤ a4 := by rw [ha_a4]; exact kp.1
  have kp := kp.ext E
  have X_o0 := X_o0.ext E
  have F_o0_heads := F_o0_heads.ext E
  have F_o0_capacities := F_o0_capacities.ext E
  have F_o0_nextOut := F_o0_nextOut.ext E
  have F_o0_firstOut := F_o0_firstOut.ext E
  have F_o0_nodes := F_o0_nodes.ext E
  have F_o0_edges := F_o0_edges.ext E
  have A_ah := A_ah.ext E
  have A_ac := A_ac.ext E
  have A_an := A_an.ext E
  have A_af := A_af.ext E
  refine g_astoreN K W d10_6 rfl (Ls' := #[.val (.ref o0), .val (.int (Int32.ofNat sr)), .val (.int (Int32.ofNat sk)), .val (.ref a4), .unset, .unset, .unset, .unset, .unset, .unset, .unset]) rfl (pc' := 7) rfl ?_
  refine g_aloadN K W d10_7 rfl rfl (pc' := 8) rfl ?_
  refine g_getF K W (host := "") (Or.inl (hw _ (List.mem_of_getElem? (i := 24) rfl))) Via.refl F_o0_nodes d10_8 (pc' := 11) rfl (fun T W => ?_)
  refine g_newI K W (ty := .int) (n := nn) (cap := 5) (hw _ (List.mem_of_getElem? (i := 5) rfl)) rfl rfl (own_ofNat (by omega)) hn5 d10_11 (pc' := 13) rfl (by decide) (by decide) (by decide) (fun T h a11 W E ha_a11 ge_a11 A_a11 => ?_)
  have ne_o0_a11 : o0 ≠ a11 := fun q => by have r := X_o0.lt; rw [q, ha_a11] at r; exact Nat.lt_irrefl _ r
  have ne_a11_o0 : a11 ≠ o0 := Ne.symm ne_o0_a11
  have ne_ah_a11 : ah ≠ a11 := fun q => by have r := A_ah.lt; rw [q, ha_a11] at r; exact Nat.lt_irrefl _ r
  have ne_a11_ah : a11 ≠ ah := Ne.symm ne_ah_a11
  have ne_ac_a11 : ac ≠ a11 := fun q => by have r := A_ac.lt; rw [q, ha_a11] at r; exact Nat.lt_irrefl _ r
  have ne_a11_ac : a11 ≠ ac := Ne.symm ne_ac_a11
  have ne_an_a11 : an ≠ a11 := fun q => by have r := A_an.lt; rw [q, ha_a11] at r; exact Nat.lt_irrefl _ r
  have ne_a11_an : a11 ≠ an := Ne.symm ne_an_a11
  have ne_af_a11 : af ≠ a11 := fun q => by have r := A_af.lt; rw [q, ha_a11] at r; exact Nat.lt_irrefl _ r
  have ne_a11_af : a11 ≠ af := Ne.symm ne_af_a11
  have ne_a4_a11 : a4 ≠ a11 := fun q => by have r := A_a4.lt; rw [q, ha_a11] at r; exact Nat.lt_irrefl _ r
  have ne_a11_a4 : a11 ≠ a4 := Ne.symm ne_a4_a11
  have sz_a11 : h0.size ≤ a11 := by rw [ha_a11]; exact kp.1
  have kp := kp.ext E
  have X_o0 := X_o0.ext E
  have F_o0_heads := F_o0_heads.ext E
  have F_o0_capacities := F_o0_capacities.ext E
  have F_o0_nextOut := F_o0_nextOut.ext E
  have F_o0_firstOut := F_o0_firstOut.ext E
  have F_o0_nodes := F_o0_nodes.ext E
  have F_o0_edges := F_o0_edges.ext E
  have A_ah := A_ah.ext E
  have A_ac := A_ac.ext E
  have A_an := A_an.ext E
  have A_af := A_af.ext E
  have A_a4 := A_a4.ext E
  refine g_astore K W d10_13 rfl (Ls' := #[.val (.ref o0), .val (.int (Int32.ofNat sr)), .val (.int (Int32.ofNat sk)), .val (.ref a4), .val (.ref a11), .unset, .unset, .unset, .unset, .unset, .unset]) rfl (pc' := 15) rfl ?_
  refine g_aloadN K W d10_15 rfl rfl (pc' := 16) rfl ?_
  refine g_getF K W (host := "") (Or.inl (hw _ (List.mem_of_getElem? (i := 24) rfl))) Via.refl F_o0_nodes d10_16 (pc' := 19) rfl (fun T W => ?_)
  refine g_newI K W (ty := .int) (n := nn) (cap := 5) (hw _ (List.mem_of_getElem? (i := 5) rfl)) rfl rfl (own_ofNat (by omega)) hn5 d10_19 (pc' := 21) rfl (by decide) (by decide) (by decide) (fun T h a19 W E ha_a19 ge_a19 A_a19 => ?_)
  have ne_o0_a19 : o0 ≠ a19 := fun q => by have r := X_o0.lt; rw [q, ha_a19] at r; exact Nat.lt_irrefl _ r
  have ne_a19_o0 : a19 ≠ o0 := Ne.symm ne_o0_a19
  have ne_ah_a19 : ah ≠ a19 := fun q => by have r := A_ah.lt; rw [q, ha_a19] at r; exact Nat.lt_irrefl _ r
  have ne_a19_ah : a19 ≠ ah := Ne.symm ne_ah_a19
  have ne_ac_a19 : ac ≠ a19 := fun q => by have r := A_ac.lt; rw [q, ha_a19] at r; exact Nat.lt_irrefl _ r
  have ne_a19_ac : a19 ≠ ac := Ne.symm ne_ac_a19
  have ne_an_a19 : an ≠ a19 := fun q => by have r := A_an.lt; rw [q, ha_a19] at r; exact Nat.lt_irrefl _ r
  have ne_a19_an : a19 ≠ an := Ne.symm ne_an_a19
  have ne_af_a19 : af ≠ a19 := fun q => by have r := A_af.lt; rw [q, ha_a19] at r; exact Nat.lt_irrefl _ r
  have ne_a19_af : a19 ≠ af := Ne.symm ne_af_a19
  have ne_a4_a19 : a4 ≠ a19 := fun q => by have r := A_a4.lt; rw [q, ha_a19] at r; exact Nat.lt_irrefl _ r
  have ne_a19_a4 : a19 ≠ a4 := Ne.symm ne_a4_a19
  have ne_a11_a19 : a11 ≠ a19 := fun q => by have r := A_a11.lt; rw [q, ha_a19] at r; exact Nat.lt_irrefl _ r
  have ne_a19_a11 : a19 ≠ a11 := Ne.symm ne_a11_a19
  have sz_a19 : h0.size ≤ a19 := by rw [ha_a19]; exact kp.1
  have kp := kp.ext E
  have X_o0 := X_o0.ext E
  have F_o0_heads := F_o0_heads.ext E
  have F_o0_capacities := F_o0_capacities.ext E
  have F_o0_nextOut := F_o0_nextOut.ext E
  have F_o0_firstOut := F_o0_firstOut.ext E
  have F_o0_nodes := F_o0_nodes.ext E
  have F_o0_edges := F_o0_edges.ext E
  have A_ah := A_ah.ext E
  have A_ac := A_ac.ext E
  have A_an := A_an.ext E
  have A_af := A_af.ext E
  have A_a4 := A_a4.ext E
  have A_a11 := A_a11.ext E
  refine g_astore K W d10_21 rfl (Ls' := #[.val (.ref o0), .val (.int (Int32.ofNat sr)), .val (.int (Int32.ofNat sk)), .val (.ref a4), .val (.ref a11), .val (.ref a19), .unset, .unset, .unset, .unset, .unset]) rfl (pc' := 23) rfl ?_
  refine g_aloadN K W d10_23 rfl rfl (pc' := 24) rfl ?_
  refine g_getF K W (host := "") (Or.inl (hw _ (List.mem_of_getElem? (i := 24) rfl))) Via.refl F_o0_nodes d10_24 (pc' := 27) rfl (fun T W => ?_)
  refine g_newI K W (ty := .int) (n := nn) (cap := 5) (hw _ (List.mem_of_getElem? (i := 5) rfl)) rfl rfl (own_ofNat (by omega)) hn5 d10_27 (pc' := 29) rfl (by decide) (by decide) (by decide) (fun T h a27 W E ha_a27 ge_a27 A_a27 => ?_)
  have ne_o0_a27 : o0 ≠ a27 := fun q => by have r := X_o0.lt; rw [q, ha_a27] at r; exact Nat.lt_irrefl _ r
  have ne_a27_o0 : a27 ≠ o0 := Ne.symm ne_o0_a27
  have ne_ah_a27 : ah ≠ a27 := fun q => by have r := A_ah.lt; rw [q, ha_a27] at r; exact Nat.lt_irrefl _ r
  have ne_a27_ah : a27 ≠ ah := Ne.symm ne_ah_a27
  have ne_ac_a27 : ac ≠ a27 := fun q => by have r := A_ac.lt; rw [q, ha_a27] at r; exact Nat.lt_irrefl _ r
  have ne_a27_ac : a27 ≠ ac := Ne.symm ne_ac_a27
  have ne_an_a27 : an ≠ a27 := fun q => by have r := A_an.lt; rw [q, ha_a27] at r; exact Nat.lt_irrefl _ r
  have ne_a27_an : a27 ≠ an := Ne.symm ne_an_a27
  have ne_af_a27 : af ≠ a27 := fun q => by have r := A_af.lt; rw [q, ha_a27] at r; exact Nat.lt_irrefl _ r
  have ne_a27_af : a27 ≠ af := Ne.symm ne_af_a27
  have ne_a4_a27 : a4 ≠ a27 := fun q => by have r := A_a4.lt; rw [q, ha_a27] at r; exact Nat.lt_irrefl _ r
  have ne_a27_a4 : a27 ≠ a4 := Ne.symm ne_a4_a27
  have ne_a11_a27 : a11 ≠ a27 := fun q => by have r := A_a11.lt; rw [q, ha_a27] at r; exact Nat.lt_irrefl _ r
  have ne_a27_a11 : a27 ≠ a11 := Ne.symm ne_a11_a27
  have ne_a19_a27 : a19 ≠ a27 := fun q => by have r := A_a19.lt; rw [q, ha_a27] at r; exact Nat.lt_irrefl _ r
  have ne_a27_a19 : a27 ≠ a19 := Ne.symm ne_a19_a27
  have sz_a27 : h0.size ≤ a27 := by rw [ha_a27]; exact kp.1
  have kp := kp.ext E
  have X_o0 := X_o0.ext E
  have F_o0_heads := F_o0_heads.ext E
  have F_o0_capacities := F_o0_capacities.ext E
  have F_o0_nextOut := F_o0_nextOut.ext E
  have F_o0_firstOut := F_o0_firstOut.ext E
  have F_o0_nodes := F_o0_nodes.ext E
  have F_o0_edges := F_o0_edges.ext E
  have A_ah := A_ah.ext E
  have A_ac := A_ac.ext E
  have A_an := A_an.ext E
  have A_af := A_af.ext E
  have A_a4 := A_a4.ext E
  have A_a11 := A_a11.ext E
  have A_a19 := A_a19.ext E
  refine g_astore K W d10_29 rfl (Ls' := #[.val (.ref o0), .val (.int (Int32.ofNat sr)), .val (.int (Int32.ofNat sk)), .val (.ref a4), .val (.ref a11), .val (.ref a19), .val (.ref a27), .unset, .unset, .unset, .unset]) rfl (pc' := 31) rfl ?_
  refine g_lconst K W (v := (0 : Int64)) d10_31 rfl (pc' := 32) rfl ?_
  refine g_lstore K W d10_32 (Ls' := #[.val (.ref o0), .val (.int (Int32.ofNat sr)), .val (.int (Int32.ofNat sk)), .val (.ref a4), .val (.ref a11), .val (.ref a19), .val (.ref a27), .val (.long (0 : Int64)), .second, .unset, .unset]) rfl (pc' := 34) rfl ?_
  have loop1 : ∀ (mz : Nat) (x7 : Int64) (Cg : Nat → Int64) (L0 : Nat → Int32) (cu : Nat → Int32) (Q0 : Nat → Int32) (Pf : Nat → Int32) (s9 : Slot) (s10 : Slot) (T : State) (h : Heap), (2305843009213693951 - x7.toInt).toNat = mz → 0 ≤ x7.toInt → x7.toInt < 2305843009213693951 → FI nn kk H (Ci Cf) (Ci Cg) sr sk x7.toInt → ((s9 = .unset ∧ s10 = .unset) ∨ ∃ z : Int64, s9 = .val (.long z) ∧ s10 = .second) → Exa Z h o0 "com/example/ichnos/ichnos/planning/ils/MinCut" → Fld Z h o0 "com/example/ichnos/ichnos/planning/ils/MinCut" "heads" "[I" (.ref ah) → Fld Z h o0 "com/example/ichnos/ichnos/planning/ils/MinCut" "capacities" "[J" (.ref ac) → Fld Z h o0 "com/example/ichnos/ichnos/planning/ils/MinCut" "nextOut" "[I" (.ref an) → Fld Z h o0 "com/example/ichnos/ichnos/planning/ils/MinCut" "firstOut" "[I" (.ref af) → Fld Z h o0 "com/example/ichnos/ichnos/planning/ils/MinCut" "nodes" "I" (.int (Int32.ofNat nn)) → Fld Z h o0 "com/example/ichnos/ichnos/planning/ils/MinCut" "edges" "I" (.int (Int32.ofNat (2 * kk))) → AyI Z h ah .int M Hf → AyJ Z h ac M Cg → AyI Z h an .int M Nf → AyI Z h af .int nn Ff → AyI Z h a4 .int nn L0 → AyI Z h a11 .int nn cu → AyI Z h a19 .int nn Q0 → AyI Z h a27 .int nn Pf → Keep h0 h [o0, ah, ac, an, af] → Wd p l e rm_c_side s m args below meth c n0 T h 4 20 → Go p e below s n0 (Q_c_side Z n0 h0 o0 (Int32.ofNat sr) (Int32.ofNat sk) nn kk sr sk Kc Fs) 5 25 T (mkF m 34 #[.val (.ref o0), .val (.int (Int32.ofNat sr)), .val (.int (Int32.ofNat sk)), .val (.ref a4), .val (.ref a11), .val (.ref a19), .val (.ref a27), .val (.long x7), .second, s9, s10] []) := by
    intro mz
    induction mz using Nat.strongRecOn with
    | ind mz ih =>
      intro x7 Cg L0 cu Q0 Pf s9 s10 T h hm h70 h7I fi hs_s9 X_o0 F_o0_heads F_o0_capacities F_o0_nextOut F_o0_firstOut F_o0_nodes F_o0_edges A_ah A_ac A_an A_af A_a4 A_a11 A_a19 A_a27 kp W
      have ih0 := ih
      refine g_aloadN K W d10_34 rfl rfl (pc' := 35) rfl ?_
      refine g_iloadN K W d10_35 rfl (pc' := 36) rfl ?_
      refine g_iloadN K W d10_36 rfl (pc' := 37) rfl ?_
      refine g_aloadN K W d10_37 rfl rfl (pc' := 38) rfl ?_
      refine g_aload K W d10_38 rfl rfl (pc' := 40) rfl ?_
      refine g_callP (c_level l Z a0 hw n0 _ W.sz o0 (Int32.ofNat sr) (Int32.ofNat sk) a4 a19 ah ac an af nn kk M H Hf Cg Nf Ff sr sk L0 Q0 X_o0 F_o0_heads F_o0_capacities F_o0_nextOut F_o0_firstOut F_o0_nodes A_ah A_ac A_an A_af A_a4 A_a19 ge_a4 ge_a19 ne_o0_a4 ne_o0_a19 ne_ah_a4 ne_ah_a19 ne_ac_a4 ne_ac_a19 ne_an_a4 ne_an_a19 ne_af_a4 ne_af_a19 ne_a4_a19 ne_a19_a4 rfl rfl hs ht gp0) K W X_o0.cell (hw _ (List.mem_of_getElem? (i := 56) rfl)) (hw _ (List.mem_of_getElem? (i := 57) rfl)) (hw _ (List.mem_of_getElem? (i := 10) rfl)) (hw _ (List.mem_of_getElem? (i := 58) rfl)) (hw _ (List.mem_of_getElem? (i := 11) rfl)) (hw _ (List.mem_of_getElem? (i := 59) rfl)) (by decide) (lenOf pd_3 rfl) d10_40 (pc' := 43) rfl (argsL := [(.int (Int32.ofNat sr)), (.int (Int32.ofNat sk)), (.ref a4), (.ref a19)]) (rest := []) rfl rfl (by decide) (wt := 0) rfl (by decide) (by decide) (by decide) ?_
      rintro T h _ W (⟨rfl, Lf, Qf, A_a4, A_a19, kq, lv, hsk⟩ | ⟨rfl, Lf, Qf, A_a4, A_a19, kq, lv, hsk⟩)
      · show Go p e below s n0 (Q_c_side Z n0 h0 o0 (Int32.ofNat sr) (Int32.ofNat sk) nn kk sr sk Kc Fs) 5 25 T (mkF m 43 #[.val (.ref o0), .val (.int (Int32.ofNat sr)), .val (.int (Int32.ofNat sk)), .val (.ref a4), .val (.ref a11), .val (.ref a19), .val (.ref a27), .val (.long x7), .second, s9, s10] [(.int (1 : Int32))])
        have kp := kp.trans kq (allS (Or.inr sz_a4) (allS (Or.inr sz_a19) all0))
        have X_o0 := X_o0.keep kq
        have F_o0_heads := F_o0_heads.keep kq (ninS ne_o0_a4 (ninS ne_o0_a19 nin0))
        have F_o0_capacities := F_o0_capacities.keep kq (ninS ne_o0_a4 (ninS ne_o0_a19 nin0))
        have F_o0_nextOut := F_o0_nextOut.keep kq (ninS ne_o0_a4 (ninS ne_o0_a19 nin0))
        have F_o0_firstOut := F_o0_firstOut.keep kq (ninS ne_o0_a4 (ninS ne_o0_a19 nin0))
        have F_o0_nodes := F_o0_nodes.keep kq (ninS ne_o0_a4 (ninS ne_o0_a19 nin0))
        have F_o0_edges := F_o0_edges.keep kq (ninS ne_o0_a4 (ninS ne_o0_a19 nin0))
        have A_ah := A_ah.keep kq (ninS ne_ah_a4 (ninS ne_ah_a19 nin0))
        have A_ac := A_ac.keep kq (ninS ne_ac_a4 (ninS ne_ac_a19 nin0))
        have A_an := A_an.keep kq (ninS ne_an_a4 (ninS ne_an_a19 nin0))
        have A_af := A_af.keep kq (ninS ne_af_a4 (ninS ne_af_a19 nin0))
        have A_a11 := A_a11.keep kq (ninS ne_a11_a4 (ninS ne_a11_a19 nin0))
        have A_a27 := A_a27.keep kq (ninS ne_a27_a4 (ninS ne_a27_a19 nin0))
        refine g_if_eq K W d10_43 (pt := 118) rfl (pf := 46) rfl (fun hc43 => absurd hc43 (by decide)) (fun hc43 => ?_)
        refine g_aloadN K W d10_46 rfl rfl (pc' := 47) rfl ?_
        refine g_getF K W (host := "") (Or.inl (hw _ (List.mem_of_getElem? (i := 26) rfl))) Via.refl F_o0_firstOut d10_47 (pc' := 50) rfl (fun T W => ?_)
        refine g_iconst K W (v := (0 : Int32)) d10_50 rfl (pc' := 51) rfl ?_
        refine g_aload K W d10_51 rfl rfl (pc' := 53) rfl ?_
        refine g_iconst K W (v := (0 : Int32)) d10_53 rfl (pc' := 54) rfl ?_
        refine g_aloadN K W d10_54 rfl rfl (pc' := 55) rfl ?_
        refine g_getF K W (host := "") (Or.inl (hw _ (List.mem_of_getElem? (i := 24) rfl))) Via.refl F_o0_nodes d10_55 (pc' := 58) rfl (fun T W => ?_)
        refine g_cpI K W (hw _ (List.mem_of_getElem? (i := 66) rfl)) (hw _ (List.mem_of_getElem? (i := 69) rfl)) (hw _ (List.mem_of_getElem? (i := 67) rfl)) (hw _ (List.mem_of_getElem? (i := 68) rfl)) A_af A_a11 (by omega) (by omega) (len := nn) (own_ofNat (by omega)) (Nat.le_refl _) (Nat.le_refl _) ge_a11 rfl d10_58 (pc' := 61) rfl (by decide) (wt := 0) rfl (by decide) (fun T h W kq N_A_a11 => ?_)
        have kp := kp.trans kq (allS (Or.inr sz_a11) all0)
        have X_o0 := X_o0.keep kq
        have F_o0_heads := F_o0_heads.keep kq (ninS ne_o0_a11 nin0)
        have F_o0_capacities := F_o0_capacities.keep kq (ninS ne_o0_a11 nin0)
        have F_o0_nextOut := F_o0_nextOut.keep kq (ninS ne_o0_a11 nin0)
        have F_o0_firstOut := F_o0_firstOut.keep kq (ninS ne_o0_a11 nin0)
        have F_o0_nodes := F_o0_nodes.keep kq (ninS ne_o0_a11 nin0)
        have F_o0_edges := F_o0_edges.keep kq (ninS ne_o0_a11 nin0)
        have A_ah := A_ah.keep kq (ninS ne_ah_a11 nin0)
        have A_ac := A_ac.keep kq (ninS ne_ac_a11 nin0)
        have A_an := A_an.keep kq (ninS ne_an_a11 nin0)
        have A_af := A_af.keep kq (ninS ne_af_a11 nin0)
        have A_a4 := A_a4.keep kq (ninS ne_a4_a11 nin0)
        have A_a19 := A_a19.keep kq (ninS ne_a19_a11 nin0)
        have A_a27 := A_a27.keep kq (ninS ne_a27_a11 nin0)
        have A_a11 := N_A_a11
        refine g_aloadN K W d10_61 rfl rfl (pc' := 62) rfl ?_
        refine g_iloadN K W d10_62 rfl (pc' := 63) rfl ?_
        refine g_iloadN K W d10_63 rfl (pc' := 64) rfl ?_
        refine g_aloadN K W d10_64 rfl rfl (pc' := 65) rfl ?_
        refine g_aload K W d10_65 rfl rfl (pc' := 67) rfl ?_
        refine g_aload K W d10_67 rfl rfl (pc' := 69) rfl ?_
        obtain ⟨E, pi, hE0⟩ := lv.road hH ht (by omega) hst
        refine g_callP (c_push l Z a0 hw n0 _ W.sz o0 (Int32.ofNat sr) (Int32.ofNat sk) a4 a11 a27 ah ac an af nn kk M H Hf Cg Nf Ff sr sk Lf (fun j => if j < nn then Ff j else cu j) Pf (Ci Cf) x7.toInt (fun _ => 2 * kk) E X_o0 F_o0_heads F_o0_capacities F_o0_nextOut F_o0_firstOut F_o0_nodes A_ah A_ac A_an A_af A_a4 A_a11 A_a27 ge_ac ge_a11 ge_a27 ne_o0_ac ne_o0_a11 ne_o0_a27 ne_ah_ac ne_ah_a11 ne_ah_a27 ne_ac_a11 ne_ac_a27 ne_an_ac ne_an_a11 ne_an_a27 ne_af_ac ne_af_a11 ne_af_a27 ne_a4_ac ne_a4_a11 ne_a4_a27 ne_a11_ac ne_a11_a27 ne_a27_ac ne_a27_a11 rfl rfl hs ht gp0 lv.1 lv.2.1 fi hC0 (fun v hv => ⟨Nat.le_refl _, by show (if v < nn then Ff v else cu v).toInt = _; rw [if_pos hv]; exact hFf v hv⟩) pi (fun e he => (pi e he).1)) K W X_o0.cell (hw _ (List.mem_of_getElem? (i := 70) rfl)) (hw _ (List.mem_of_getElem? (i := 71) rfl)) (hw _ (List.mem_of_getElem? (i := 10) rfl)) (hw _ (List.mem_of_getElem? (i := 72) rfl)) (hw _ (List.mem_of_getElem? (i := 11) rfl)) (hw _ (List.mem_of_getElem? (i := 73) rfl)) (by decide) (lenOf pd_4 rfl) d10_69 (pc' := 72) rfl (argsL := [(.int (Int32.ofNat sr)), (.int (Int32.ofNat sk)), (.ref a4), (.ref a11), (.ref a27)]) (rest := []) rfl rfl (by decide) (wt := 0) rfl (by decide) (by decide) (by decide) ?_
        rintro T h _ W ⟨x9, Cg, cu, Pf, b, rfl, kq, A_ac, A_a11, A_a27, hp0, hpI, fi, hb, hpp⟩
        show Go p e below s n0 (Q_c_side Z n0 h0 o0 (Int32.ofNat sr) (Int32.ofNat sk) nn kk sr sk Kc Fs) 5 25 T (mkF m 72 #[.val (.ref o0), .val (.int (Int32.ofNat sr)), .val (.int (Int32.ofNat sk)), .val (.ref a4), .val (.ref a11), .val (.ref a19), .val (.ref a27), .val (.long x7), .second, s9, s10] [(.long x9)])
        have kp := kp.trans kq (allS (Or.inl (List.mem_of_getElem? (i := 2) rfl)) (allS (Or.inr sz_a11) (allS (Or.inr sz_a27) all0)))
        have X_o0 := X_o0.keep kq
        have F_o0_heads := F_o0_heads.keep kq (ninS ne_o0_ac (ninS ne_o0_a11 (ninS ne_o0_a27 nin0)))
        have F_o0_capacities := F_o0_capacities.keep kq (ninS ne_o0_ac (ninS ne_o0_a11 (ninS ne_o0_a27 nin0)))
        have F_o0_nextOut := F_o0_nextOut.keep kq (ninS ne_o0_ac (ninS ne_o0_a11 (ninS ne_o0_a27 nin0)))
        have F_o0_firstOut := F_o0_firstOut.keep kq (ninS ne_o0_ac (ninS ne_o0_a11 (ninS ne_o0_a27 nin0)))
        have F_o0_nodes := F_o0_nodes.keep kq (ninS ne_o0_ac (ninS ne_o0_a11 (ninS ne_o0_a27 nin0)))
        have F_o0_edges := F_o0_edges.keep kq (ninS ne_o0_ac (ninS ne_o0_a11 (ninS ne_o0_a27 nin0)))
        have A_ah := A_ah.keep kq (ninS ne_ah_ac (ninS ne_ah_a11 (ninS ne_ah_a27 nin0)))
        have A_an := A_an.keep kq (ninS ne_an_ac (ninS ne_an_a11 (ninS ne_an_a27 nin0)))
        have A_af := A_af.keep kq (ninS ne_af_ac (ninS ne_af_a11 (ninS ne_af_a27 nin0)))
        have A_a4 := A_a4.keep kq (ninS ne_a4_ac (ninS ne_a4_a11 (ninS ne_a4_a27 nin0)))
        have A_a19 := A_a19.keep kq (ninS ne_a19_ac (ninS ne_a19_a11 (ninS ne_a19_a27 nin0)))
        refine g_lstore K W d10_72 (Ls' := #[.val (.ref o0), .val (.int (Int32.ofNat sr)), .val (.int (Int32.ofNat sk)), .val (.ref a4), .val (.ref a11), .val (.ref a19), .val (.ref a27), .val (.long x7), .second, .val (.long x9), .second]) (by rcases hs_s9 with ⟨rfl, rfl⟩ | ⟨z, rfl, rfl⟩ <;> rfl) (pc' := 74) rfl ?_
        have loop2 : ∀ (my : Nat) (x7b : Int64) (x9 : Int64) (Cg : Nat → Int64) (cu : Nat → Int32) (Pf : Nat → Int32) (b : Nat → Nat) (T : State) (h : Heap), (2305843009213693951 - x7b.toInt).toNat = my → 0 ≤ x7b.toInt → x7b.toInt < 2305843009213693951 → 0 ≤ x9.toInt → x9.toInt ≤ 2305843009213693951 → x7.toInt ≤ x7b.toInt → x7.toInt < x7b.toInt + x9.toInt → FI nn kk H (Ci Cf) (Ci Cg) sr sk (x7b.toInt + x9.toInt) → (∀ v, v < nn → b v ≤ 2 * kk ∧ (cu v).toInt = prv H v (b v)) → Exa Z h o0 "com/example/ichnos/ichnos/planning/ils/MinCut" → Fld Z h o0 "com/example/ichnos/ichnos/planning/ils/MinCut" "heads" "[I" (.ref ah) → Fld Z h o0 "com/example/ichnos/ichnos/planning/ils/MinCut" "capacities" "[J" (.ref ac) → Fld Z h o0 "com/example/ichnos/ichnos/planning/ils/MinCut" "nextOut" "[I" (.ref an) → Fld Z h o0 "com/example/ichnos/ichnos/planning/ils/MinCut" "firstOut" "[I" (.ref af) → Fld Z h o0 "com/example/ichnos/ichnos/planning/ils/MinCut" "nodes" "I" (.int (Int32.ofNat nn)) → Fld Z h o0 "com/example/ichnos/ichnos/planning/ils/MinCut" "edges" "I" (.int (Int32.ofNat (2 * kk))) → AyI Z h ah .int M Hf → AyJ Z h ac M Cg → AyI Z h an .int M Nf → AyI Z h af .int nn Ff → AyI Z h a4 .int nn Lf → AyI Z h a11 .int nn cu → AyI Z h a19 .int nn Qf → AyI Z h a27 .int nn Pf → Keep h0 h [o0, ah, ac, an, af] → Wd p l e rm_c_side s m args below meth c n0 T h 4 20 → Go p e below s n0 (Q_c_side Z n0 h0 o0 (Int32.ofNat sr) (Int32.ofNat sk) nn kk sr sk Kc Fs) 5 25 T (mkF m 74 #[.val (.ref o0), .val (.int (Int32.ofNat sr)), .val (.int (Int32.ofNat sk)), .val (.ref a4), .val (.ref a11), .val (.ref a19), .val (.ref a27), .val (.long x7b), .second, .val (.long x9), .second] []) := by
          intro my
          induction my using Nat.strongRecOn with
          | ind my ih =>
            intro x7b x9 Cg cu Pf b T h hmy h7b0 h7bI h90 h9I hle hlt fi hb X_o0 F_o0_heads F_o0_capacities F_o0_nextOut F_o0_firstOut F_o0_nodes F_o0_edges A_ah A_ac A_an A_af A_a4 A_a11 A_a19 A_a27 kp W
            refine g_lload K W d10_74 rfl (pc' := 76) rfl ?_
            refine g_lconst K W (v := (0 : Int64)) d10_76 rfl (pc' := 77) rfl ?_
            refine g_lcmp_le K W d10_77 (pc1 := 78) rfl d10_78 (pt := 115) rfl (pf := 81) rfl (fun hc77 => ?_) (fun hc77 => ?_)
            · have h9p := (own_lpos x9).mp hc77
              have hadd : (x7b + x9).toInt = x7b.toInt + x9.toInt := own_ladd h7b0 h90 (by omega)
              refine g_lload K W d10_81 rfl (pc' := 83) rfl ?_
              refine g_lload K W d10_83 rfl (pc' := 85) rfl ?_
              refine g_ladd K W d10_85 (pc' := 86) rfl ?_
              refine g_lstore K W d10_86 (Ls' := #[.val (.ref o0), .val (.int (Int32.ofNat sr)), .val (.int (Int32.ofNat sk)), .val (.ref a4), .val (.ref a11), .val (.ref a19), .val (.ref a27), .val (.long (x7b + x9)), .second, .val (.long x9), .second]) rfl (pc' := 88) rfl ?_
              refine g_lload K W d10_88 rfl (pc' := 90) rfl ?_
              refine g_ldc2 K W (v := (2305843009213693951 : Int64)) (hw _ (List.mem_of_getElem? (i := 42) rfl)) d10_90 (pc' := 93) rfl ?_
              refine g_lcmp_lt K W d10_93 (pc1 := 94) rfl d10_94 (pt := 99) rfl (pf := 97) rfl (fun hc93 => ?_) (fun hc93 => ?_)
              · have h7n : (x7b + x9).toInt < 2305843009213693951 := Int64.lt_iff_toInt_lt.mp hc93
                refine g_aloadN K W d10_99 rfl rfl (pc' := 100) rfl ?_
                refine g_iloadN K W d10_100 rfl (pc' := 101) rfl ?_
                refine g_iloadN K W d10_101 rfl (pc' := 102) rfl ?_
                refine g_aloadN K W d10_102 rfl rfl (pc' := 103) rfl ?_
                refine g_aload K W d10_103 rfl rfl (pc' := 105) rfl ?_
                refine g_aload K W d10_105 rfl rfl (pc' := 107) rfl ?_
                refine g_callP (c_push l Z a0 hw n0 _ W.sz o0 (Int32.ofNat sr) (Int32.ofNat sk) a4 a11 a27 ah ac an af nn kk M H Hf Cg Nf Ff sr sk Lf cu Pf (Ci Cf) (x7b.toInt + x9.toInt) b (fun _ => False) X_o0 F_o0_heads F_o0_capacities F_o0_nextOut F_o0_firstOut F_o0_nodes A_ah A_ac A_an A_af A_a4 A_a11 A_a27 ge_ac ge_a11 ge_a27 ne_o0_ac ne_o0_a11 ne_o0_a27 ne_ah_ac ne_ah_a11 ne_ah_a27 ne_ac_a11 ne_ac_a27 ne_an_ac ne_an_a11 ne_an_a27 ne_af_ac ne_af_a11 ne_af_a27 ne_a4_ac ne_a4_a11 ne_a4_a27 ne_a11_ac ne_a11_a27 ne_a27_ac ne_a27_a11 rfl rfl hs ht gp0 lv.1 lv.2.1 fi hC0 hb (PiC.none _ _ _ _ _) (fun _ z => z.elim)) K W X_o0.cell (hw _ (List.mem_of_getElem? (i := 70) rfl)) (hw _ (List.mem_of_getElem? (i := 71) rfl)) (hw _ (List.mem_of_getElem? (i := 10) rfl)) (hw _ (List.mem_of_getElem? (i := 72) rfl)) (hw _ (List.mem_of_getElem? (i := 11) rfl)) (hw _ (List.mem_of_getElem? (i := 73) rfl)) (by decide) (lenOf pd_4 rfl) d10_107 (pc' := 110) rfl (argsL := [(.int (Int32.ofNat sr)), (.int (Int32.ofNat sk)), (.ref a4), (.ref a11), (.ref a27)]) (rest := []) rfl rfl (by decide) (wt := 0) rfl (by decide) (by decide) (by decide) ?_
                rintro T h _ W ⟨x9n, Cg, cu, Pf, b, rfl, kq, A_ac, A_a11, A_a27, hp0, hpI, fi, hb, hpp⟩
                show Go p e below s n0 (Q_c_side Z n0 h0 o0 (Int32.ofNat sr) (Int32.ofNat sk) nn kk sr sk Kc Fs) 5 25 T (mkF m 110 #[.val (.ref o0), .val (.int (Int32.ofNat sr)), .val (.int (Int32.ofNat sk)), .val (.ref a4), .val (.ref a11), .val (.ref a19), .val (.ref a27), .val (.long (x7b + x9)), .second, .val (.long x9), .second] [(.long x9n)])
                have kp := kp.trans kq (allS (Or.inl (List.mem_of_getElem? (i := 2) rfl)) (allS (Or.inr sz_a11) (allS (Or.inr sz_a27) all0)))
                have X_o0 := X_o0.keep kq
                have F_o0_heads := F_o0_heads.keep kq (ninS ne_o0_ac (ninS ne_o0_a11 (ninS ne_o0_a27 nin0)))
                have F_o0_capacities := F_o0_capacities.keep kq (ninS ne_o0_ac (ninS ne_o0_a11 (ninS ne_o0_a27 nin0)))
                have F_o0_nextOut := F_o0_nextOut.keep kq (ninS ne_o0_ac (ninS ne_o0_a11 (ninS ne_o0_a27 nin0)))
                have F_o0_firstOut := F_o0_firstOut.keep kq (ninS ne_o0_ac (ninS ne_o0_a11 (ninS ne_o0_a27 nin0)))
                have F_o0_nodes := F_o0_nodes.keep kq (ninS ne_o0_ac (ninS ne_o0_a11 (ninS ne_o0_a27 nin0)))
                have F_o0_edges := F_o0_edges.keep kq (ninS ne_o0_ac (ninS ne_o0_a11 (ninS ne_o0_a27 nin0)))
                have A_ah := A_ah.keep kq (ninS ne_ah_ac (ninS ne_ah_a11 (ninS ne_ah_a27 nin0)))
                have A_an := A_an.keep kq (ninS ne_an_ac (ninS ne_an_a11 (ninS ne_an_a27 nin0)))
                have A_af := A_af.keep kq (ninS ne_af_ac (ninS ne_af_a11 (ninS ne_af_a27 nin0)))
                have A_a4 := A_a4.keep kq (ninS ne_a4_ac (ninS ne_a4_a11 (ninS ne_a4_a27 nin0)))
                have A_a19 := A_a19.keep kq (ninS ne_a19_ac (ninS ne_a19_a11 (ninS ne_a19_a27 nin0)))
                refine g_lstore K W d10_110 (Ls' := #[.val (.ref o0), .val (.int (Int32.ofNat sr)), .val (.int (Int32.ofNat sk)), .val (.ref a4), .val (.ref a11), .val (.ref a19), .val (.ref a27), .val (.long (x7b + x9)), .second, .val (.long x9n), .second]) rfl (pc' := 112) rfl ?_
                refine g_goto K W d10_112 (pt := 74) rfl ?_
                exact ih (2305843009213693951 - (x7b + x9).toInt).toNat (by omega) (x7b + x9) x9n Cg cu Pf b T h rfl (by omega) h7n hp0 hpI (by omega) (by omega) (by rw [hadd]; exact fi) hb X_o0 F_o0_heads F_o0_capacities F_o0_nextOut F_o0_firstOut F_o0_nodes F_o0_edges A_ah A_ac A_an A_af A_a4 A_a11 A_a19 A_a27 kp W
              · have h7n : ¬ (x7b + x9).toInt < 2305843009213693951 := fun z => hc93 (Int64.lt_iff_toInt_lt.mpr z)
                refine g_null K W d10_97 (pc' := 98) rfl ?_
                exact g_retA K W rfl rfl rfl d10_98 (by decide) (by decide) (Or.inl ⟨rfl, hsm _ kp, fun S h1 h2 => by have z := fi.le hH hs ht h1 h2; rw [hK S]; omega⟩)
            · refine g_goto K W d10_115 (pt := 34) rfl ?_
              have hx90 : x9.toInt = 0 := by have := (not_congr (own_lpos x9)).mp hc77; omega
              rw [hx90, Int.add_zero] at fi
              exact ih0 (2305843009213693951 - x7b.toInt).toNat (by omega) x7b Cg Lf cu Qf Pf _ _ T h rfl (by omega) (by omega) fi (Or.inr ⟨_, rfl, rfl⟩) X_o0 F_o0_heads F_o0_capacities F_o0_nextOut F_o0_firstOut F_o0_nodes F_o0_edges A_ah A_ac A_an A_af A_a4 A_a11 A_a19 A_a27 kp W
        have hp1 := hpp hE0
        exact loop2 _ x7 x9 Cg cu Pf b T h rfl h70 h7I hp0 hpI (Int.le_refl _) (by omega) fi hb X_o0 F_o0_heads F_o0_capacities F_o0_nextOut F_o0_firstOut F_o0_nodes F_o0_edges A_ah A_ac A_an A_af A_a4 A_a11 A_a19 A_a27 kp W
      · show Go p e below s n0 (Q_c_side Z n0 h0 o0 (Int32.ofNat sr) (Int32.ofNat sk) nn kk sr sk Kc Fs) 5 25 T (mkF m 43 #[.val (.ref o0), .val (.int (Int32.ofNat sr)), .val (.int (Int32.ofNat sk)), .val (.ref a4), .val (.ref a11), .val (.ref a19), .val (.ref a27), .val (.long x7), .second, s9, s10] [(.int (0 : Int32))])
        have kp := kp.trans kq (allS (Or.inr sz_a4) (allS (Or.inr sz_a19) all0))
        have X_o0 := X_o0.keep kq
        have F_o0_heads := F_o0_heads.keep kq (ninS ne_o0_a4 (ninS ne_o0_a19 nin0))
        have F_o0_capacities := F_o0_capacities.keep kq (ninS ne_o0_a4 (ninS ne_o0_a19 nin0))
        have F_o0_nextOut := F_o0_nextOut.keep kq (ninS ne_o0_a4 (ninS ne_o0_a19 nin0))
        have F_o0_firstOut := F_o0_firstOut.keep kq (ninS ne_o0_a4 (ninS ne_o0_a19 nin0))
        have F_o0_nodes := F_o0_nodes.keep kq (ninS ne_o0_a4 (ninS ne_o0_a19 nin0))
        have F_o0_edges := F_o0_edges.keep kq (ninS ne_o0_a4 (ninS ne_o0_a19 nin0))
        have A_ah := A_ah.keep kq (ninS ne_ah_a4 (ninS ne_ah_a19 nin0))
        have A_ac := A_ac.keep kq (ninS ne_ac_a4 (ninS ne_ac_a19 nin0))
        have A_an := A_an.keep kq (ninS ne_an_a4 (ninS ne_an_a19 nin0))
        have A_af := A_af.keep kq (ninS ne_af_a4 (ninS ne_af_a19 nin0))
        have A_a11 := A_a11.keep kq (ninS ne_a11_a4 (ninS ne_a11_a19 nin0))
        have A_a27 := A_a27.keep kq (ninS ne_a27_a4 (ninS ne_a27_a19 nin0))
        refine g_if_eq K W d10_43 (pt := 118) rfl (pf := 46) rfl (fun hc43 => ?_) (fun hc43 => absurd rfl hc43)
        refine g_aloadN K W d10_118 rfl rfl (pc' := 119) rfl ?_
        refine g_getF K W (host := "") (Or.inl (hw _ (List.mem_of_getElem? (i := 24) rfl))) Via.refl F_o0_nodes d10_119 (pc' := 122) rfl (fun T W => ?_)
        refine g_newI K W (ty := .boolean) (n := nn) (cap := 5) (hw _ (List.mem_of_getElem? (i := 60) rfl)) rfl rfl (own_ofNat (by omega)) hn5 d10_122 (pc' := 124) rfl (by decide) (by decide) (by decide) (fun T h a122 W E ha_a122 ge_a122 A_a122 => ?_)
        have ne_o0_a122 : o0 ≠ a122 := fun q => by have r := X_o0.lt; rw [q, ha_a122] at r; exact Nat.lt_irrefl _ r
        have ne_a122_o0 : a122 ≠ o0 := Ne.symm ne_o0_a122
        have ne_ah_a122 : ah ≠ a122 := fun q => by have r := A_ah.lt; rw [q, ha_a122] at r; exact Nat.lt_irrefl _ r
        have ne_a122_ah : a122 ≠ ah := Ne.symm ne_ah_a122
        have ne_ac_a122 : ac ≠ a122 := fun q => by have r := A_ac.lt; rw [q, ha_a122] at r; exact Nat.lt_irrefl _ r
        have ne_a122_ac : a122 ≠ ac := Ne.symm ne_ac_a122
        have ne_an_a122 : an ≠ a122 := fun q => by have r := A_an.lt; rw [q, ha_a122] at r; exact Nat.lt_irrefl _ r
        have ne_a122_an : a122 ≠ an := Ne.symm ne_an_a122
        have ne_af_a122 : af ≠ a122 := fun q => by have r := A_af.lt; rw [q, ha_a122] at r; exact Nat.lt_irrefl _ r
        have ne_a122_af : a122 ≠ af := Ne.symm ne_af_a122
        have ne_a4_a122 : a4 ≠ a122 := fun q => by have r := A_a4.lt; rw [q, ha_a122] at r; exact Nat.lt_irrefl _ r
        have ne_a122_a4 : a122 ≠ a4 := Ne.symm ne_a4_a122
        have ne_a11_a122 : a11 ≠ a122 := fun q => by have r := A_a11.lt; rw [q, ha_a122] at r; exact Nat.lt_irrefl _ r
        have ne_a122_a11 : a122 ≠ a11 := Ne.symm ne_a11_a122
        have ne_a19_a122 : a19 ≠ a122 := fun q => by have r := A_a19.lt; rw [q, ha_a122] at r; exact Nat.lt_irrefl _ r
        have ne_a122_a19 : a122 ≠ a19 := Ne.symm ne_a19_a122
        have ne_a27_a122 : a27 ≠ a122 := fun q => by have r := A_a27.lt; rw [q, ha_a122] at r; exact Nat.lt_irrefl _ r
        have ne_a122_a27 : a122 ≠ a27 := Ne.symm ne_a27_a122
        have sz_a122 : h0.size ≤ a122 := by rw [ha_a122]; exact kp.1
        have kp := kp.ext E
        have X_o0 := X_o0.ext E
        have F_o0_heads := F_o0_heads.ext E
        have F_o0_capacities := F_o0_capacities.ext E
        have F_o0_nextOut := F_o0_nextOut.ext E
        have F_o0_firstOut := F_o0_firstOut.ext E
        have F_o0_nodes := F_o0_nodes.ext E
        have F_o0_edges := F_o0_edges.ext E
        have A_ah := A_ah.ext E
        have A_ac := A_ac.ext E
        have A_an := A_an.ext E
        have A_af := A_af.ext E
        have A_a4 := A_a4.ext E
        have A_a11 := A_a11.ext E
        have A_a19 := A_a19.ext E
        have A_a27 := A_a27.ext E
        refine g_astore K W d10_124 rfl (Ls' := #[.val (.ref o0), .val (.int (Int32.ofNat sr)), .val (.int (Int32.ofNat sk)), .val (.ref a4), .val (.ref a11), .val (.ref a19), .val (.ref a27), .val (.long x7), .second, .val (.ref a122), .unset]) (by rcases hs_s9 with ⟨rfl, rfl⟩ | ⟨z, rfl, rfl⟩ <;> rfl) (pc' := 126) rfl ?_
        refine g_iconst K W (v := (0 : Int32)) d10_126 rfl (pc' := 127) rfl ?_
        refine g_istore K W d10_127 (Ls' := #[.val (.ref o0), .val (.int (Int32.ofNat sr)), .val (.int (Int32.ofNat sk)), .val (.ref a4), .val (.ref a11), .val (.ref a19), .val (.ref a27), .val (.long x7), .second, .val (.ref a122), .val (.int (0 : Int32))]) rfl (pc' := 129) rfl ?_
        have loop3 : ∀ (my : Nat) (i : Nat) (g : Nat → Int32) (T : State) (h : Heap), nn - i = my → i ≤ nn → (∀ j, j < i → g j = if decide (0 ≤ Li Lf j) = true then 1 else 0) → Exa Z h o0 "com/example/ichnos/ichnos/planning/ils/MinCut" → Fld Z h o0 "com/example/ichnos/ichnos/planning/ils/MinCut" "heads" "[I" (.ref ah) → Fld Z h o0 "com/example/ichnos/ichnos/planning/ils/MinCut" "capacities" "[J" (.ref ac) → Fld Z h o0 "com/example/ichnos/ichnos/planning/ils/MinCut" "nextOut" "[I" (.ref an) → Fld Z h o0 "com/example/ichnos/ichnos/planning/ils/MinCut" "firstOut" "[I" (.ref af) → Fld Z h o0 "com/example/ichnos/ichnos/planning/ils/MinCut" "nodes" "I" (.int (Int32.ofNat nn)) → Fld Z h o0 "com/example/ichnos/ichnos/planning/ils/MinCut" "edges" "I" (.int (Int32.ofNat (2 * kk))) → AyI Z h ah .int M Hf → AyJ Z h ac M Cg → AyI Z h an .int M Nf → AyI Z h af .int nn Ff → AyI Z h a4 .int nn Lf → AyI Z h a11 .int nn cu → AyI Z h a19 .int nn Qf → AyI Z h a27 .int nn Pf → AyI Z h a122 .boolean nn g → Keep h0 h [o0, ah, ac, an, af] → Wd p l e rm_c_side s m args below meth c n0 T h 5 25 → Go p e below s n0 (Q_c_side Z n0 h0 o0 (Int32.ofNat sr) (Int32.ofNat sk) nn kk sr sk Kc Fs) 5 25 T (mkF m 129 #[.val (.ref o0), .val (.int (Int32.ofNat sr)), .val (.int (Int32.ofNat sk)), .val (.ref a4), .val (.ref a11), .val (.ref a19), .val (.ref a27), .val (.long x7), .second, .val (.ref a122), .val (.int (Int32.ofNat i))] []) := by
          intro my
          induction my using Nat.strongRecOn with
          | ind my ih =>
            intro i g T h hmy hi hg X_o0 F_o0_heads F_o0_capacities F_o0_nextOut F_o0_firstOut F_o0_nodes F_o0_edges A_ah A_ac A_an A_af A_a4 A_a11 A_a19 A_a27 A_a122 kp W
            refine g_iload K W d10_129 rfl (pc' := 131) rfl ?_
            refine g_aloadN K W d10_131 rfl rfl (pc' := 132) rfl ?_
            refine g_getF K W (host := "") (Or.inl (hw _ (List.mem_of_getElem? (i := 24) rfl))) Via.refl F_o0_nodes d10_132 (pc' := 135) rfl (fun T W => ?_)
            refine g_icmp_ge K W d10_135 (pt := 161) rfl (pf := 138) rfl (fun hc135 => ?_) (fun hc135 => ?_)
            · have hi2 : i < nn := (own_lt (by omega) (by omega)).mp hc135
              refine g_aload K W d10_138 rfl rfl (pc' := 140) rfl ?_
              refine g_iload K W d10_140 rfl (pc' := 142) rfl ?_
              refine g_aloadN K W d10_142 rfl rfl (pc' := 143) rfl ?_
              refine g_iload K W d10_143 rfl (pc' := 145) rfl ?_
              refine g_iaload K W A_a4 (k := i) (own_ofNat (by omega)) hi2 (v := (Lf i)) rfl d10_145 (pc' := 146) rfl ?_
              refine g_if_lt K W d10_146 (pt := 153) rfl (pf := 149) rfl (fun hc146 => ?_) (fun hc146 => ?_)
              · refine g_iconst K W (v := (0 : Int32)) d10_153 rfl (pc' := 154) rfl ?_
                refine g_zastore K W A_a122 (k := i) (own_ofNat (by omega)) hi2 ge_a122 d10_154 (pc' := 155) rfl (fun T h W w A_a122 => ?_)
                have kp := kp.wr w (Or.inr sz_a122)
                have X_o0 := X_o0.wr w
                have F_o0_heads := F_o0_heads.other w (Or.inl ne_o0_a122)
                have F_o0_capacities := F_o0_capacities.other w (Or.inl ne_o0_a122)
                have F_o0_nextOut := F_o0_nextOut.other w (Or.inl ne_o0_a122)
                have F_o0_firstOut := F_o0_firstOut.other w (Or.inl ne_o0_a122)
                have F_o0_nodes := F_o0_nodes.other w (Or.inl ne_o0_a122)
                have F_o0_edges := F_o0_edges.other w (Or.inl ne_o0_a122)
                have A_ah := A_ah.other w ne_ah_a122
                have A_ac := A_ac.other w ne_ac_a122
                have A_an := A_an.other w ne_an_a122
                have A_af := A_af.other w ne_af_a122
                have A_a4 := A_a4.other w ne_a4_a122
                have A_a11 := A_a11.other w ne_a11_a122
                have A_a19 := A_a19.other w ne_a19_a122
                have A_a27 := A_a27.other w ne_a27_a122
                refine g_iinc K W d10_155 rfl (Ls' := #[.val (.ref o0), .val (.int (Int32.ofNat sr)), .val (.int (Int32.ofNat sk)), .val (.ref a4), .val (.ref a11), .val (.ref a19), .val (.ref a27), .val (.long x7), .second, .val (.ref a122), .val (.int ((Int32.ofNat i) + (1 : Int32)))]) rfl (pc' := 158) rfl ?_
                refine g_goto K W d10_158 (pt := 129) rfl ?_
                rw [own_one]
                exact ih (nn - (i + 1)) (by omega) (i + 1) _ T h rfl (by omega) (fun j hj => by
                  by_cases z : j = i
                  · rw [z, upd_same, if_neg (fun y => by have y1 := of_decide_eq_true y; have y2 : Li Lf i < 0 := (own_neg _).mp hc146; omega)]; rfl
                  · rw [upd_ne _ _ z]; exact hg j (by omega)) X_o0 F_o0_heads F_o0_capacities F_o0_nextOut F_o0_firstOut F_o0_nodes F_o0_edges A_ah A_ac A_an A_af A_a4 A_a11 A_a19 A_a27 A_a122 kp W
              · refine g_iconst K W (v := (1 : Int32)) d10_149 rfl (pc' := 150) rfl ?_
                refine g_goto K W d10_150 (pt := 154) rfl ?_
                refine g_zastore K W A_a122 (k := i) (own_ofNat (by omega)) hi2 ge_a122 d10_154 (pc' := 155) rfl (fun T h W w A_a122 => ?_)
                have kp := kp.wr w (Or.inr sz_a122)
                have X_o0 := X_o0.wr w
                have F_o0_heads := F_o0_heads.other w (Or.inl ne_o0_a122)
                have F_o0_capacities := F_o0_capacities.other w (Or.inl ne_o0_a122)
                have F_o0_nextOut := F_o0_nextOut.other w (Or.inl ne_o0_a122)
                have F_o0_firstOut := F_o0_firstOut.other w (Or.inl ne_o0_a122)
                have F_o0_nodes := F_o0_nodes.other w (Or.inl ne_o0_a122)
                have F_o0_edges := F_o0_edges.other w (Or.inl ne_o0_a122)
                have A_ah := A_ah.other w ne_ah_a122
                have A_ac := A_ac.other w ne_ac_a122
                have A_an := A_an.other w ne_an_a122
                have A_af := A_af.other w ne_af_a122
                have A_a4 := A_a4.other w ne_a4_a122
                have A_a11 := A_a11.other w ne_a11_a122
                have A_a19 := A_a19.other w ne_a19_a122
                have A_a27 := A_a27.other w ne_a27_a122
                refine g_iinc K W d10_155 rfl (Ls' := #[.val (.ref o0), .val (.int (Int32.ofNat sr)), .val (.int (Int32.ofNat sk)), .val (.ref a4), .val (.ref a11), .val (.ref a19), .val (.ref a27), .val (.long x7), .second, .val (.ref a122), .val (.int ((Int32.ofNat i) + (1 : Int32)))]) rfl (pc' := 158) rfl ?_
                refine g_goto K W d10_158 (pt := 129) rfl ?_
                rw [own_one]
                exact ih (nn - (i + 1)) (by omega) (i + 1) _ T h rfl (by omega) (fun j hj => by
                  by_cases z : j = i
                  · rw [z, upd_same, if_pos (decide_eq_true (show 0 ≤ Li Lf i from Int.not_lt.mp (fun y => hc146 ((own_neg _).mpr y))))]; rfl
                  · rw [upd_ne _ _ z]; exact hg j (by omega)) X_o0 F_o0_heads F_o0_capacities F_o0_nextOut F_o0_firstOut F_o0_nodes F_o0_edges A_ah A_ac A_an A_af A_a4 A_a11 A_a19 A_a27 A_a122 kp W
            · refine g_aload K W d10_161 rfl rfl (pc' := 163) rfl ?_
              have hni : ¬ i < nn := (not_congr (own_lt (by omega) (by omega))).mp hc135
              exact g_retA K W rfl rfl rfl d10_163 (by decide) (by decide) (Or.inr ⟨a122, g, fun v => decide (0 ≤ Li Lf v), x7.toInt, rfl, hsm _ kp, A_a122, h7I, (Side.of fi hH hs ht lv hsk).k hK, fun v hv => hg v (by omega)⟩)
        exact loop3 nn 0 _ T h rfl (Nat.zero_le _) (fun j hj => absurd hj (Nat.not_lt_zero _)) X_o0 F_o0_heads F_o0_capacities F_o0_nextOut F_o0_firstOut F_o0_nodes F_o0_edges A_ah A_ac A_an A_af A_a4 A_a11 A_a19 A_a27 A_a122 kp W
  exact loop1 _ 0 Cf _ _ _ _ _ _ T h rfl (by decide) (by decide) fi0 (Or.inl ⟨rfl, rfl⟩) X_o0 F_o0_heads F_o0_capacities F_o0_nextOut F_o0_firstOut F_o0_nodes F_o0_edges A_ah A_ac A_an A_af A_a4 A_a11 A_a19 A_a27 kp W
def Q_c_init (Z : State) (n0 : Nat) (h0 : Heap) (o0 : Addr) (x1 : Int32) (nn : Nat) (Fs : List Addr) : Option Value → Heap → Prop := fun v h => v = none ∧ Sm h0 h Fs ∧ MC Z n0 h o0 nn 0 (fun _ => 0) Fs
abbrev rm_c_init : Room := { frames := 1, cells := 4, slots := 53, locals := 15 }
set_option maxHeartbeats 40000000 in
theorem c_init (l : Launch) (Z : State) (a0 : Array Value) (hw : ∀ d ∈ tables_1, d.before a0 Z = true) (n0 : Nat) (h0 : Heap) (hn : n0 ≤ h0.size) (o0 : Addr) (x1 : Int32) (nn : Nat) (Fs : List Addr) (X_o0 : Exa Z h0 o0 "com/example/ichnos/ichnos/planning/ils/MinCut") (F_o0_heads : Fld Z h0 o0 "com/example/ichnos/ichnos/planning/ils/MinCut" "heads" "[I" .null) (F_o0_capacities : Fld Z h0 o0 "com/example/ichnos/ichnos/planning/ils/MinCut" "capacities" "[J" .null) (F_o0_nextOut : Fld Z h0 o0 "com/example/ichnos/ichnos/planning/ils/MinCut" "nextOut" "[I" .null) (F_o0_firstOut : Fld Z h0 o0 "com/example/ichnos/ichnos/planning/ils/MinCut" "firstOut" "[I" .null) (F_o0_nodes : Fld Z h0 o0 "com/example/ichnos/ichnos/planning/ils/MinCut" "nodes" "I" (.int (0 : Int32))) (F_o0_edges : Fld Z h0 o0 "com/example/ichnos/ichnos/planning/ils/MinCut" "edges" "I" (.int (0 : Int32))) (ge_o0 : n0 ≤ o0) (ex1 : x1 = Int32.ofNat nn) (hn5 : nn ≤ 5) (fs : ∀ x ∈ Fs, x < h0.size ∧ x ≠ o0) :
    Mt l Z (⟨"com/example/ichnos/ichnos/planning/ils/MinCut", "<init>", "(I)V"⟩ : MethodName) prog_66_method_1_code 2 none rm_c_init n0 #[(.ref o0), (.int x1)] h0 (Q_c_init Z n0 h0 o0 x1 nn Fs) := by
  refine met_of (plainFor_of_name pn_1) (Ls := #[.val (.ref o0), .val (.int x1)]) (fun m => by first | (simp [entryFrame, mkF, argsToLocals, Value.category]; done) | rfl) hn ?_
  intro p e s m below meth c T K W
  replace K : Cx p s m meth c Z "com/example/ichnos/ichnos/planning/ils/MinCut" "<init>" prog_66_method_1_code 2 none := K
  generalize eA : (#[(.ref o0), (.int x1)] : Array Value) = args at W
  show Go p e below s n0 (Q_c_init Z n0 h0 o0 x1 nn Fs) 4 53 T (mkF m 0 #[.val (.ref o0), .val (.int x1)] [])
  have kp := Keep.refl h0 [o0]
  subst ex1
  show Go p e below s n0 (Q_c_init Z n0 h0 o0 (Int32.ofNat nn) nn Fs) 4 53 T (mkF m 0 #[.val (.ref o0), .val (.int (Int32.ofNat nn))] [])
  have lt_o0 := X_o0.lt
  refine g_aloadN K W d3_0 rfl rfl (pc' := 1) rfl ?_
  refine g_initO K W (hw _ (List.mem_of_getElem? (i := 15) rfl)) (hw _ (List.mem_of_getElem? (i := 16) rfl)) (hw _ (List.mem_of_getElem? (i := 17) rfl)) rfl d3_1 (pc' := 4) rfl (by decide) (wt := 0) rfl (by decide) (fun T W => ?_)
  refine g_aloadN K W d3_4 rfl rfl (pc' := 5) rfl ?_
  refine g_bipush K W (v := (16 : Int32)) d3_5 rfl (pc' := 7) rfl ?_
  refine g_newI K W (ty := .int) (n := 16) (cap := 16) (hw _ (List.mem_of_getElem? (i := 5) rfl)) rfl rfl rfl (Nat.le_refl _) d3_7 (pc' := 9) rfl (by decide) (by decide) (by decide) (fun T h a7 W E ha_a7 ge_a7 A_a7 => ?_)
  have ne_o0_a7 : o0 ≠ a7 := fun q => by have r := X_o0.lt; rw [q, ha_a7] at r; exact Nat.lt_irrefl _ r
  have ne_a7_o0 : a7 ≠ o0 := Ne.symm ne_o0_a7
  have sz_a7 : h0.size ≤ a7 := by rw [ha_a7]; exact kp.1
  have kp := kp.ext E
  have X_o0 := X_o0.ext E
  have F_o0_heads := F_o0_heads.ext E
  have F_o0_capacities := F_o0_capacities.ext E
  have F_o0_nextOut := F_o0_nextOut.ext E
  have F_o0_firstOut := F_o0_firstOut.ext E
  have F_o0_nodes := F_o0_nodes.ext E
  have F_o0_edges := F_o0_edges.ext E
  refine g_putF K W (host := "") (Or.inl (hw _ (List.mem_of_getElem? (i := 18) rfl))) Via.refl F_o0_heads X_o0 (Or.inl (hw _ (List.mem_of_getElem? (i := 19) rfl))) (hw _ (List.mem_of_getElem? (i := 10) rfl)) (ty := (.array .int)) (by decide) rfl rfl ge_o0 d3_9 (pc' := 12) rfl (fun T h W w => ?_)
  have kp := kp.wr w (Or.inl (List.mem_of_getElem? (i := 0) rfl))
  have X_o0 := X_o0.wr w
  have F_o0_capacities := F_o0_capacities.other w (Or.inr (slot_ne (a0 := a0) (C := "com/example/ichnos/ichnos/planning/ils/MinCut") (Or.inl (hw _ (List.mem_of_getElem? (i := 21) rfl))) (Or.inl (hw _ (List.mem_of_getElem? (i := 19) rfl))) (by decide) (t := (.array .long)) (t' := (.array .int)) (by decide) (by decide)))
  have F_o0_nextOut := F_o0_nextOut.other w (Or.inr (slot_ne (a0 := a0) (C := "com/example/ichnos/ichnos/planning/ils/MinCut") (Or.inl (hw _ (List.mem_of_getElem? (i := 23) rfl))) (Or.inl (hw _ (List.mem_of_getElem? (i := 19) rfl))) (by decide) (t := (.array .int)) (t' := (.array .int)) (by decide) (by decide)))
  have F_o0_firstOut := F_o0_firstOut.other w (Or.inr (slot_ne (a0 := a0) (C := "com/example/ichnos/ichnos/planning/ils/MinCut") (Or.inr (hw _ (List.mem_of_getElem? (i := 27) rfl))) (Or.inl (hw _ (List.mem_of_getElem? (i := 19) rfl))) (by decide) (t := (.array .int)) (t' := (.array .int)) (by decide) (by decide)))
  have F_o0_nodes := F_o0_nodes.other w (Or.inr (slot_ne (a0 := a0) (C := "com/example/ichnos/ichnos/planning/ils/MinCut") (Or.inr (hw _ (List.mem_of_getElem? (i := 25) rfl))) (Or.inl (hw _ (List.mem_of_getElem? (i := 19) rfl))) (by decide) (t := .int) (t' := (.array .int)) (by decide) (by decide)))
  have F_o0_edges := F_o0_edges.other w (Or.inr (slot_ne (a0 := a0) (C := "com/example/ichnos/ichnos/planning/ils/MinCut") (Or.inl (hw _ (List.mem_of_getElem? (i := 41) rfl))) (Or.inl (hw _ (List.mem_of_getElem? (i := 19) rfl))) (by decide) (t := .int) (t' := (.array .int)) (by decide) (by decide)))
  have A_a7 := A_a7.other w ne_a7_o0
  have F_o0_heads := F_o0_heads.same w
  refine g_aloadN K W d3_12 rfl rfl (pc' := 13) rfl ?_
  refine g_bipush K W (v := (16 : Int32)) d3_13 rfl (pc' := 15) rfl ?_
  refine g_newJ K W (n := 16) (cap := 16) (hw _ (List.mem_of_getElem? (i := 0) rfl)) rfl (Nat.le_refl _) d3_15 (pc' := 17) rfl (by decide) (by decide) (by decide) (fun T h a15 W E ha_a15 ge_a15 A_a15 => ?_)
  have ne_o0_a15 : o0 ≠ a15 := fun q => by have r := X_o0.lt; rw [q, ha_a15] at r; exact Nat.lt_irrefl _ r
  have ne_a15_o0 : a15 ≠ o0 := Ne.symm ne_o0_a15
  have ne_a7_a15 : a7 ≠ a15 := fun q => by have r := A_a7.lt; rw [q, ha_a15] at r; exact Nat.lt_irrefl _ r
  have ne_a15_a7 : a15 ≠ a7 := Ne.symm ne_a7_a15
  have sz_a15 : h0.size ≤ a15 := by rw [ha_a15]; exact kp.1
  have kp := kp.ext E
  have X_o0 := X_o0.ext E
  have F_o0_heads := F_o0_heads.ext E
  have F_o0_capacities := F_o0_capacities.ext E
  have F_o0_nextOut := F_o0_nextOut.ext E
  have F_o0_firstOut := F_o0_firstOut.ext E
  have F_o0_nodes := F_o0_nodes.ext E
  have F_o0_edges := F_o0_edges.ext E
  have A_a7 := A_a7.ext E
  refine g_putF K W (host := "") (Or.inl (hw _ (List.mem_of_getElem? (i := 20) rfl))) Via.refl F_o0_capacities X_o0 (Or.inl (hw _ (List.mem_of_getElem? (i := 21) rfl))) (hw _ (List.mem_of_getElem? (i := 10) rfl)) (ty := (.array .long)) (by decide) rfl rfl ge_o0 d3_17 (pc' := 20) rfl (fun T h W w => ?_)
  have kp := kp.wr w (Or.inl (List.mem_of_getElem? (i := 0) rfl))
  have X_o0 := X_o0.wr w
  have F_o0_heads := F_o0_heads.other w (Or.inr (slot_ne (a0 := a0) (C := "com/example/ichnos/ichnos/planning/ils/MinCut") (Or.inl (hw _ (List.mem_of_getElem? (i := 19) rfl))) (Or.inl (hw _ (List.mem_of_getElem? (i := 21) rfl))) (by decide) (t := (.array .int)) (t' := (.array .long)) (by decide) (by decide)))
  have F_o0_nextOut := F_o0_nextOut.other w (Or.inr (slot_ne (a0 := a0) (C := "com/example/ichnos/ichnos/planning/ils/MinCut") (Or.inl (hw _ (List.mem_of_getElem? (i := 23) rfl))) (Or.inl (hw _ (List.mem_of_getElem? (i := 21) rfl))) (by decide) (t := (.array .int)) (t' := (.array .long)) (by decide) (by decide)))
  have F_o0_firstOut := F_o0_firstOut.other w (Or.inr (slot_ne (a0 := a0) (C := "com/example/ichnos/ichnos/planning/ils/MinCut") (Or.inr (hw _ (List.mem_of_getElem? (i := 27) rfl))) (Or.inl (hw _ (List.mem_of_getElem? (i := 21) rfl))) (by decide) (t := (.array .int)) (t' := (.array .long)) (by decide) (by decide)))
  have F_o0_nodes := F_o0_nodes.other w (Or.inr (slot_ne (a0 := a0) (C := "com/example/ichnos/ichnos/planning/ils/MinCut") (Or.inr (hw _ (List.mem_of_getElem? (i := 25) rfl))) (Or.inl (hw _ (List.mem_of_getElem? (i := 21) rfl))) (by decide) (t := .int) (t' := (.array .long)) (by decide) (by decide)))
  have F_o0_edges := F_o0_edges.other w (Or.inr (slot_ne (a0 := a0) (C := "com/example/ichnos/ichnos/planning/ils/MinCut") (Or.inl (hw _ (List.mem_of_getElem? (i := 41) rfl))) (Or.inl (hw _ (List.mem_of_getElem? (i := 21) rfl))) (by decide) (t := .int) (t' := (.array .long)) (by decide) (by decide)))
  have A_a7 := A_a7.other w ne_a7_o0
  have A_a15 := A_a15.other w ne_a15_o0
  have F_o0_capacities := F_o0_capacities.same w
  refine g_aloadN K W d3_20 rfl rfl (pc' := 21) rfl ?_
  refine g_bipush K W (v := (16 : Int32)) d3_21 rfl (pc' := 23) rfl ?_
  refine g_newI K W (ty := .int) (n := 16) (cap := 16) (hw _ (List.mem_of_getElem? (i := 5) rfl)) rfl rfl rfl (Nat.le_refl _) d3_23 (pc' := 25) rfl (by decide) (by decide) (by decide) (fun T h a23 W E ha_a23 ge_a23 A_a23 => ?_)
  have ne_o0_a23 : o0 ≠ a23 := fun q => by have r := X_o0.lt; rw [q, ha_a23] at r; exact Nat.lt_irrefl _ r
  have ne_a23_o0 : a23 ≠ o0 := Ne.symm ne_o0_a23
  have ne_a7_a23 : a7 ≠ a23 := fun q => by have r := A_a7.lt; rw [q, ha_a23] at r; exact Nat.lt_irrefl _ r
  have ne_a23_a7 : a23 ≠ a7 := Ne.symm ne_a7_a23
  have ne_a15_a23 : a15 ≠ a23 := fun q => by have r := A_a15.lt; rw [q, ha_a23] at r; exact Nat.lt_irrefl _ r
  have ne_a23_a15 : a23 ≠ a15 := Ne.symm ne_a15_a23
  have sz_a23 : h0.size ≤ a23 := by rw [ha_a23]; exact kp.1
  have kp := kp.ext E
  have X_o0 := X_o0.ext E
  have F_o0_heads := F_o0_heads.ext E
  have F_o0_capacities := F_o0_capacities.ext E
  have F_o0_nextOut := F_o0_nextOut.ext E
  have F_o0_firstOut := F_o0_firstOut.ext E
  have F_o0_nodes := F_o0_nodes.ext E
  have F_o0_edges := F_o0_edges.ext E
  have A_a7 := A_a7.ext E
  have A_a15 := A_a15.ext E
  refine g_putF K W (host := "") (Or.inl (hw _ (List.mem_of_getElem? (i := 22) rfl))) Via.refl F_o0_nextOut X_o0 (Or.inl (hw _ (List.mem_of_getElem? (i := 23) rfl))) (hw _ (List.mem_of_getElem? (i := 10) rfl)) (ty := (.array .int)) (by decide) rfl rfl ge_o0 d3_25 (pc' := 28) rfl (fun T h W w => ?_)
  have kp := kp.wr w (Or.inl (List.mem_of_getElem? (i := 0) rfl))
  have X_o0 := X_o0.wr w
  have F_o0_heads := F_o0_heads.other w (Or.inr (slot_ne (a0 := a0) (C := "com/example/ichnos/ichnos/planning/ils/MinCut") (Or.inl (hw _ (List.mem_of_getElem? (i := 19) rfl))) (Or.inl (hw _ (List.mem_of_getElem? (i := 23) rfl))) (by decide) (t := (.array .int)) (t' := (.array .int)) (by decide) (by decide)))
  have F_o0_capacities := F_o0_capacities.other w (Or.inr (slot_ne (a0 := a0) (C := "com/example/ichnos/ichnos/planning/ils/MinCut") (Or.inl (hw _ (List.mem_of_getElem? (i := 21) rfl))) (Or.inl (hw _ (List.mem_of_getElem? (i := 23) rfl))) (by decide) (t := (.array .long)) (t' := (.array .int)) (by decide) (by decide)))
  have F_o0_firstOut := F_o0_firstOut.other w (Or.inr (slot_ne (a0 := a0) (C := "com/example/ichnos/ichnos/planning/ils/MinCut") (Or.inr (hw _ (List.mem_of_getElem? (i := 27) rfl))) (Or.inl (hw _ (List.mem_of_getElem? (i := 23) rfl))) (by decide) (t := (.array .int)) (t' := (.array .int)) (by decide) (by decide)))
  have F_o0_nodes := F_o0_nodes.other w (Or.inr (slot_ne (a0 := a0) (C := "com/example/ichnos/ichnos/planning/ils/MinCut") (Or.inr (hw _ (List.mem_of_getElem? (i := 25) rfl))) (Or.inl (hw _ (List.mem_of_getElem? (i := 23) rfl))) (by decide) (t := .int) (t' := (.array .int)) (by decide) (by decide)))
  have F_o0_edges := F_o0_edges.other w (Or.inr (slot_ne (a0 := a0) (C := "com/example/ichnos/ichnos/planning/ils/MinCut") (Or.inl (hw _ (List.mem_of_getElem? (i := 41) rfl))) (Or.inl (hw _ (List.mem_of_getElem? (i := 23) rfl))) (by decide) (t := .int) (t' := (.array .int)) (by decide) (by decide)))
  have A_a7 := A_a7.other w ne_a7_o0
  have A_a15 := A_a15.other w ne_a15_o0
  have A_a23 := A_a23.other w ne_a23_o0
  have F_o0_nextOut := F_o0_nextOut.same w
  refine g_aloadN K W d3_28 rfl rfl (pc' := 29) rfl ?_
  refine g_iloadN K W d3_29 rfl (pc' := 30) rfl ?_
  refine g_putF K W (host := "") (Or.inl (hw _ (List.mem_of_getElem? (i := 24) rfl))) Via.refl F_o0_nodes X_o0 (Or.inr ⟨(hw _ (List.mem_of_getElem? (i := 25) rfl)), rfl, rfl⟩) (hw _ (List.mem_of_getElem? (i := 10) rfl)) (ty := .int) (by decide) rfl rfl ge_o0 d3_30 (pc' := 33) rfl (fun T h W w => ?_)
  have kp := kp.wr w (Or.inl (List.mem_of_getElem? (i := 0) rfl))
  have X_o0 := X_o0.wr w
  have F_o0_heads := F_o0_heads.other w (Or.inr (slot_ne (a0 := a0) (C := "com/example/ichnos/ichnos/planning/ils/MinCut") (Or.inl (hw _ (List.mem_of_getElem? (i := 19) rfl))) (Or.inr (hw _ (List.mem_of_getElem? (i := 25) rfl))) (by decide) (t := (.array .int)) (t' := .int) (by decide) (by decide)))
  have F_o0_capacities := F_o0_capacities.other w (Or.inr (slot_ne (a0 := a0) (C := "com/example/ichnos/ichnos/planning/ils/MinCut") (Or.inl (hw _ (List.mem_of_getElem? (i := 21) rfl))) (Or.inr (hw _ (List.mem_of_getElem? (i := 25) rfl))) (by decide) (t := (.array .long)) (t' := .int) (by decide) (by decide)))
  have F_o0_nextOut := F_o0_nextOut.other w (Or.inr (slot_ne (a0 := a0) (C := "com/example/ichnos/ichnos/planning/ils/MinCut") (Or.inl (hw _ (List.mem_of_getElem? (i := 23) rfl))) (Or.inr (hw _ (List.mem_of_getElem? (i := 25) rfl))) (by decide) (t := (.array .int)) (t' := .int) (by decide) (by decide)))
  have F_o0_firstOut := F_o0_firstOut.other w (Or.inr (slot_ne (a0 := a0) (C := "com/example/ichnos/ichnos/planning/ils/MinCut") (Or.inr (hw _ (List.mem_of_getElem? (i := 27) rfl))) (Or.inr (hw _ (List.mem_of_getElem? (i := 25) rfl))) (by decide) (t := (.array .int)) (t' := .int) (by decide) (by decide)))
  have F_o0_edges := F_o0_edges.other w (Or.inr (slot_ne (a0 := a0) (C := "com/example/ichnos/ichnos/planning/ils/MinCut") (Or.inl (hw _ (List.mem_of_getElem? (i := 41) rfl))) (Or.inr (hw _ (List.mem_of_getElem? (i := 25) rfl))) (by decide) (t := .int) (t' := .int) (by decide) (by decide)))
  have A_a7 := A_a7.other w ne_a7_o0
  have A_a15 := A_a15.other w ne_a15_o0
  have A_a23 := A_a23.other w ne_a23_o0
  have F_o0_nodes := F_o0_nodes.same w
  refine g_aloadN K W d3_33 rfl rfl (pc' := 34) rfl ?_
  refine g_iloadN K W d3_34 rfl (pc' := 35) rfl ?_
  refine g_newI K W (ty := .int) (n := nn) (cap := 5) (hw _ (List.mem_of_getElem? (i := 5) rfl)) rfl rfl (own_ofNat (by omega)) hn5 d3_35 (pc' := 37) rfl (by decide) (by decide) (by decide) (fun T h a35 W E ha_a35 ge_a35 A_a35 => ?_)
  have ne_o0_a35 : o0 ≠ a35 := fun q => by have r := X_o0.lt; rw [q, ha_a35] at r; exact Nat.lt_irrefl _ r
  have ne_a35_o0 : a35 ≠ o0 := Ne.symm ne_o0_a35
  have ne_a7_a35 : a7 ≠ a35 := fun q => by have r := A_a7.lt; rw [q, ha_a35] at r; exact Nat.lt_irrefl _ r
  have ne_a35_a7 : a35 ≠ a7 := Ne.symm ne_a7_a35
  have ne_a15_a35 : a15 ≠ a35 := fun q => by have r := A_a15.lt; rw [q, ha_a35] at r; exact Nat.lt_irrefl _ r
  have ne_a35_a15 : a35 ≠ a15 := Ne.symm ne_a15_a35
  have ne_a23_a35 : a23 ≠ a35 := fun q => by have r := A_a23.lt; rw [q, ha_a35] at r; exact Nat.lt_irrefl _ r
  have ne_a35_a23 : a35 ≠ a23 := Ne.symm ne_a23_a35
  have sz_a35 : h0.size ≤ a35 := by rw [ha_a35]; exact kp.1
  have kp := kp.ext E
  have X_o0 := X_o0.ext E
  have F_o0_heads := F_o0_heads.ext E
  have F_o0_capacities := F_o0_capacities.ext E
  have F_o0_nextOut := F_o0_nextOut.ext E
  have F_o0_firstOut := F_o0_firstOut.ext E
  have F_o0_nodes := F_o0_nodes.ext E
  have F_o0_edges := F_o0_edges.ext E
  have A_a7 := A_a7.ext E
  have A_a15 := A_a15.ext E
  have A_a23 := A_a23.ext E
  refine g_putF K W (host := "") (Or.inl (hw _ (List.mem_of_getElem? (i := 26) rfl))) Via.refl F_o0_firstOut X_o0 (Or.inr ⟨(hw _ (List.mem_of_getElem? (i := 27) rfl)), rfl, rfl⟩) (hw _ (List.mem_of_getElem? (i := 10) rfl)) (ty := (.array .int)) (by decide) rfl rfl ge_o0 d3_37 (pc' := 40) rfl (fun T h W w => ?_)
  have kp := kp.wr w (Or.inl (List.mem_of_getElem? (i := 0) rfl))
  have X_o0 := X_o0.wr w
  have F_o0_heads := F_o0_heads.other w (Or.inr (slot_ne (a0 := a0) (C := "com/example/ichnos/ichnos/planning/ils/MinCut") (Or.inl (hw _ (List.mem_of_getElem? (i := 19) rfl))) (Or.inr (hw _ (List.mem_of_getElem? (i := 27) rfl))) (by decide) (t := (.array .int)) (t' := (.array .int)) (by decide) (by decide)))
  have F_o0_capacities := F_o0_capacities.other w (Or.inr (slot_ne (a0 := a0) (C := "com/example/ichnos/ichnos/planning/ils/MinCut") (Or.inl (hw _ (List.mem_of_getElem? (i := 21) rfl))) (Or.inr (hw _ (List.mem_of_getElem? (i := 27) rfl))) (by decide) (t := (.array .long)) (t' := (.array .int)) (by decide) (by decide)))
  have F_o0_nextOut := F_o0_nextOut.other w (Or.inr (slot_ne (a0 := a0) (C := "com/example/ichnos/ichnos/planning/ils/MinCut") (Or.inl (hw _ (List.mem_of_getElem? (i := 23) rfl))) (Or.inr (hw _ (List.mem_of_getElem? (i := 27) rfl))) (by decide) (t := (.array .int)) (t' := (.array .int)) (by decide) (by decide)))
  have F_o0_nodes := F_o0_nodes.other w (Or.inr (slot_ne (a0 := a0) (C := "com/example/ichnos/ichnos/planning/ils/MinCut") (Or.inr (hw _ (List.mem_of_getElem? (i := 25) rfl))) (Or.inr (hw _ (List.mem_of_getElem? (i := 27) rfl))) (by decide) (t := .int) (t' := (.array .int)) (by decide) (by decide)))
  have F_o0_edges := F_o0_edges.other w (Or.inr (slot_ne (a0 := a0) (C := "com/example/ichnos/ichnos/planning/ils/MinCut") (Or.inl (hw _ (List.mem_of_getElem? (i := 41) rfl))) (Or.inr (hw _ (List.mem_of_getElem? (i := 27) rfl))) (by decide) (t := .int) (t' := (.array .int)) (by decide) (by decide)))
  have A_a7 := A_a7.other w ne_a7_o0
  have A_a15 := A_a15.other w ne_a15_o0
  have A_a23 := A_a23.other w ne_a23_o0
  have A_a35 := A_a35.other w ne_a35_o0
  have F_o0_firstOut := F_o0_firstOut.same w
  refine g_aloadN K W d3_40 rfl rfl (pc' := 41) rfl ?_
  refine g_getF K W (host := "") (Or.inl (hw _ (List.mem_of_getElem? (i := 26) rfl))) Via.refl F_o0_firstOut d3_41 (pc' := 44) rfl (fun T W => ?_)
  refine g_iconst K W (v := (-1 : Int32)) d3_44 rfl (pc' := 45) rfl ?_
  refine g_callS (c_fill l Z a0 hw n0 _ W.sz a35 (-1 : Int32) nn _ A_a35 ge_a35 hn5) K W (hw _ (List.mem_of_getElem? (i := 28) rfl)) (hw _ (List.mem_of_getElem? (i := 29) rfl)) (hw _ (List.mem_of_getElem? (i := 30) rfl)) (hw _ (List.mem_of_getElem? (i := 31) rfl)) (by decide) (lenOf pd_0 rfl) d3_45 (pc' := 48) rfl (argsL := [(.ref a35), (.int (-1 : Int32))]) (rest := []) rfl rfl (by decide) (wt := 0) rfl (by decide) (by decide) (by decide) ?_
  rintro T h _ W ⟨rfl, kq, g, A_a35, hg⟩
  show Go p e below s n0 (Q_c_init Z n0 h0 o0 (Int32.ofNat nn) nn Fs) 4 53 T (mkF m 48 #[.val (.ref o0), .val (.int (Int32.ofNat nn))] [])
  have kp := kp.trans kq (allS (Or.inr sz_a35) all0)
  have X_o0 := X_o0.keep kq
  have F_o0_heads := F_o0_heads.keep kq (ninS ne_o0_a35 nin0)
  have F_o0_capacities := F_o0_capacities.keep kq (ninS ne_o0_a35 nin0)
  have F_o0_nextOut := F_o0_nextOut.keep kq (ninS ne_o0_a35 nin0)
  have F_o0_firstOut := F_o0_firstOut.keep kq (ninS ne_o0_a35 nin0)
  have F_o0_nodes := F_o0_nodes.keep kq (ninS ne_o0_a35 nin0)
  have F_o0_edges := F_o0_edges.keep kq (ninS ne_o0_a35 nin0)
  have A_a7 := A_a7.keep kq (ninS ne_a7_a35 nin0)
  have A_a15 := A_a15.keep kq (ninS ne_a15_a35 nin0)
  have A_a23 := A_a23.keep kq (ninS ne_a23_a35 nin0)
  exact g_ret0 K W d3_48 (by decide) (by decide) ⟨rfl, fun x hx c hc => kp.2.1 x c hc (by simp [(fs x hx).2]), X_o0, ge_o0, a7, a15, a23, a35, 16, fun _ => 0, _, _, _, g, ge_a7, ge_a15, ge_a23, ge_a35, ne_o0_a7, ne_o0_a15, ne_o0_a23, ne_o0_a35, ne_a7_a15, ne_a7_a23, ne_a7_a35, ne_a15_a23, ne_a15_a35, ne_a23_a35, F_o0_heads, F_o0_capacities, F_o0_nextOut, F_o0_firstOut, F_o0_nodes, F_o0_edges, A_a7, A_a15, A_a23, A_a35, GP.start hn5 hg, Or.inl rfl, fun e he => by omega, fun S => rfl, fun x hx => ⟨Nat.lt_of_lt_of_le (fs x hx).1 kp.1, (fs x hx).2, Nat.ne_of_lt (Nat.lt_of_lt_of_le (fs x hx).1 sz_a7), Nat.ne_of_lt (Nat.lt_of_lt_of_le (fs x hx).1 sz_a15), Nat.ne_of_lt (Nat.lt_of_lt_of_le (fs x hx).1 sz_a23), Nat.ne_of_lt (Nat.lt_of_lt_of_le (fs x hx).1 sz_a35)⟩⟩
def Q_c_link (Z : State) (n0 : Nat) (h0 : Heap) (o0 : Addr) (x1 : Int32) (x2 : Int32) (y3 : Int64) (ah : Addr) (ac : Addr) (an : Addr) (af : Addr) (nn : Nat) (M : Nat) (Hf : Nat → Int32) (Cf : Nat → Int64) (Nf : Nat → Int32) (Ff : Nat → Int32) (mm : Nat) (u : Nat) : Option Value → Heap → Prop := fun v h => v = none ∧ Keep h0 h [o0, ah, ac, an, af] ∧ Fld Z h o0 "com/example/ichnos/ichnos/planning/ils/MinCut" "heads" "[I" (.ref ah) ∧ Fld Z h o0 "com/example/ichnos/ichnos/planning/ils/MinCut" "capacities" "[J" (.ref ac) ∧ Fld Z h o0 "com/example/ichnos/ichnos/planning/ils/MinCut" "nextOut" "[I" (.ref an) ∧ Fld Z h o0 "com/example/ichnos/ichnos/planning/ils/MinCut" "firstOut" "[I" (.ref af) ∧ Fld Z h o0 "com/example/ichnos/ichnos/planning/ils/MinCut" "nodes" "I" (.int (Int32.ofNat nn)) ∧ Fld Z h o0 "com/example/ichnos/ichnos/planning/ils/MinCut" "edges" "I" (.int (Int32.ofNat (mm + 1))) ∧ AyI Z h ah .int M (upd Hf mm x2) ∧ AyJ Z h ac M (upd Cf mm y3) ∧ AyI Z h an .int M (upd Nf mm (Ff u)) ∧ AyI Z h af .int nn (upd Ff u (Int32.ofNat mm))
abbrev rm_c_link : Room := { frames := 0, cells := 0, slots := 0, locals := 0 }
set_option maxHeartbeats 40000000 in
theorem c_link (l : Launch) (Z : State) (a0 : Array Value) (hw : ∀ d ∈ tables_1, d.before a0 Z = true) (n0 : Nat) (h0 : Heap) (hn : n0 ≤ h0.size) (o0 : Addr) (x1 : Int32) (x2 : Int32) (y3 : Int64) (ah : Addr) (ac : Addr) (an : Addr) (af : Addr) (nn : Nat) (M : Nat) (Hf : Nat → Int32) (Cf : Nat → Int64) (Nf : Nat → Int32) (Ff : Nat → Int32) (mm : Nat) (u : Nat) (X_o0 : Exa Z h0 o0 "com/example/ichnos/ichnos/planning/ils/MinCut") (F_o0_heads : Fld Z h0 o0 "com/example/ichnos/ichnos/planning/ils/MinCut" "heads" "[I" (.ref ah)) (F_o0_capacities : Fld Z h0 o0 "com/example/ichnos/ichnos/planning/ils/MinCut" "capacities" "[J" (.ref ac)) (F_o0_nextOut : Fld Z h0 o0 "com/example/ichnos/ichnos/planning/ils/MinCut" "nextOut" "[I" (.ref an)) (F_o0_firstOut : Fld Z h0 o0 "com/example/ichnos/ichnos/planning/ils/MinCut" "firstOut" "[I" (.ref af)) (F_o0_nodes : Fld Z h0 o0 "com/example/ichnos/ichnos/planning/ils/MinCut" "nodes" "I" (.int (Int32.ofNat nn))) (F_o0_edges : Fld Z h0 o0 "com/example/ichnos/ichnos/planning/ils/MinCut" "edges" "I" (.int (Int32.ofNat mm))) (A_ah : AyI Z h0 ah .int M Hf) (A_ac : AyJ Z h0 ac M Cf) (A_an : AyI Z h0 an .int M Nf) (A_af : AyI Z h0 af .int nn Ff) (ge_o0 : n0 ≤ o0) (ge_ah : n0 ≤ ah) (ge_ac : n0 ≤ ac) (ge_an : n0 ≤ an) (ge_af : n0 ≤ af) (ne_o0_ah : o0 ≠ ah) (ne_o0_ac : o0 ≠ ac) (ne_o0_an : o0 ≠ an) (ne_o0_af : o0 ≠ af) (ne_ah_o0 : ah ≠ o0) (ne_ah_ac : ah ≠ ac) (ne_ah_an : ah ≠ an) (ne_ah_af : ah ≠ af) (ne_ac_o0 : ac ≠ o0) (ne_ac_ah : ac ≠ ah) (ne_ac_an : ac ≠ an) (ne_ac_af : ac ≠ af) (ne_an_o0 : an ≠ o0) (ne_an_ah : an ≠ ah) (ne_an_ac : an ≠ ac) (ne_an_af : an ≠ af) (ne_af_o0 : af ≠ o0) (ne_af_ah : af ≠ ah) (ne_af_ac : af ≠ ac) (ne_af_an : af ≠ an) (ex1 : x1 = Int32.ofNat u) (hu : u < nn) (hn5 : nn ≤ 5) (hmM : mm < M) (hM32 : M ≤ 32) :
    Mt l Z (⟨"com/example/ichnos/ichnos/planning/ils/MinCut", "link", "(IIJ)V"⟩ : MethodName) prog_66_method_3_code 5 none rm_c_link n0 #[(.ref o0), (.int x1), (.int x2), (.long y3)] h0 (Q_c_link Z n0 h0 o0 x1 x2 y3 ah ac an af nn M Hf Cf Nf Ff mm u) := by
  refine met_of (plainFor_of_name pn_1) (Ls := #[.val (.ref o0), .val (.int x1), .val (.int x2), .val (.long y3), .second]) (fun m => by first | (simp [entryFrame, mkF, argsToLocals, Value.category]; done) | rfl) hn ?_
  intro p e s m below meth c T K W
  replace K : Cx p s m meth c Z "com/example/ichnos/ichnos/planning/ils/MinCut" "link" prog_66_method_3_code 5 none := K
  generalize eA : (#[(.ref o0), (.int x1), (.int x2), (.long y3)] : Array Value) = args at W
  show Go p e below s n0 (Q_c_link Z n0 h0 o0 x1 x2 y3 ah ac an af nn M Hf Cf Nf Ff mm u) 0 0 T (mkF m 0 #[.val (.ref o0), .val (.int x1), .val (.int x2), .val (.long y3), .second] [])
  have kp := Keep.refl h0 [o0, ah, ac, an, af]
  subst ex1
  show Go p e below s n0 (Q_c_link Z n0 h0 o0 (Int32.ofNat u) x2 y3 ah ac an af nn M Hf Cf Nf Ff mm u) 0 0 T (mkF m 0 #[.val (.ref o0), .val (.int (Int32.ofNat u)), .val (.int x2), .val (.long y3), .second] [])
  refine g_aloadN K W d9_0 rfl rfl (pc' := 1) rfl ?_
  refine g_getF K W (host := "") (Or.inl (hw _ (List.mem_of_getElem? (i := 18) rfl))) Via.refl F_o0_heads d9_1 (pc' := 4) rfl (fun T W => ?_)
  refine g_aloadN K W d9_4 rfl rfl (pc' := 5) rfl ?_
  refine g_getF K W (host := "") (Or.inl (hw _ (List.mem_of_getElem? (i := 40) rfl))) Via.refl F_o0_edges d9_5 (pc' := 8) rfl (fun T W => ?_)
  refine g_iloadN K W d9_8 rfl (pc' := 9) rfl ?_
  refine g_iastore K W A_ah (k := mm) (own_ofNat (by omega)) hmM ge_ah d9_9 (pc' := 10) rfl (fun T h W w A_ah => ?_)
  have kp := kp.wr w (Or.inl (List.mem_of_getElem? (i := 1) rfl))
  have X_o0 := X_o0.wr w
  have F_o0_heads := F_o0_heads.other w (Or.inl ne_o0_ah)
  have F_o0_capacities := F_o0_capacities.other w (Or.inl ne_o0_ah)
  have F_o0_nextOut := F_o0_nextOut.other w (Or.inl ne_o0_ah)
  have F_o0_firstOut := F_o0_firstOut.other w (Or.inl ne_o0_ah)
  have F_o0_nodes := F_o0_nodes.other w (Or.inl ne_o0_ah)
  have F_o0_edges := F_o0_edges.other w (Or.inl ne_o0_ah)
  have A_ac := A_ac.other w ne_ac_ah
  have A_an := A_an.other w ne_an_ah
  have A_af := A_af.other w ne_af_ah
  refine g_aloadN K W d9_10 rfl rfl (pc' := 11) rfl ?_
  refine g_getF K W (host := "") (Or.inl (hw _ (List.mem_of_getElem? (i := 20) rfl))) Via.refl F_o0_capacities d9_11 (pc' := 14) rfl (fun T W => ?_)
  refine g_aloadN K W d9_14 rfl rfl (pc' := 15) rfl ?_
  refine g_getF K W (host := "") (Or.inl (hw _ (List.mem_of_getElem? (i := 40) rfl))) Via.refl F_o0_edges d9_15 (pc' := 18) rfl (fun T W => ?_)
  refine g_lloadN K W d9_18 rfl (pc' := 19) rfl ?_
  refine g_lastore K W A_ac (k := mm) (own_ofNat (by omega)) hmM ge_ac d9_19 (pc' := 20) rfl (fun T h W w A_ac => ?_)
  have kp := kp.wr w (Or.inl (List.mem_of_getElem? (i := 2) rfl))
  have X_o0 := X_o0.wr w
  have F_o0_heads := F_o0_heads.other w (Or.inl ne_o0_ac)
  have F_o0_capacities := F_o0_capacities.other w (Or.inl ne_o0_ac)
  have F_o0_nextOut := F_o0_nextOut.other w (Or.inl ne_o0_ac)
  have F_o0_firstOut := F_o0_firstOut.other w (Or.inl ne_o0_ac)
  have F_o0_nodes := F_o0_nodes.other w (Or.inl ne_o0_ac)
  have F_o0_edges := F_o0_edges.other w (Or.inl ne_o0_ac)
  have A_ah := A_ah.other w ne_ah_ac
  have A_an := A_an.other w ne_an_ac
  have A_af := A_af.other w ne_af_ac
  refine g_aloadN K W d9_20 rfl rfl (pc' := 21) rfl ?_
  refine g_getF K W (host := "") (Or.inl (hw _ (List.mem_of_getElem? (i := 22) rfl))) Via.refl F_o0_nextOut d9_21 (pc' := 24) rfl (fun T W => ?_)
  refine g_aloadN K W d9_24 rfl rfl (pc' := 25) rfl ?_
  refine g_getF K W (host := "") (Or.inl (hw _ (List.mem_of_getElem? (i := 40) rfl))) Via.refl F_o0_edges d9_25 (pc' := 28) rfl (fun T W => ?_)
  refine g_aloadN K W d9_28 rfl rfl (pc' := 29) rfl ?_
  refine g_getF K W (host := "") (Or.inl (hw _ (List.mem_of_getElem? (i := 26) rfl))) Via.refl F_o0_firstOut d9_29 (pc' := 32) rfl (fun T W => ?_)
  refine g_iloadN K W d9_32 rfl (pc' := 33) rfl ?_
  refine g_iaload K W A_af (k := u) (own_ofNat (by omega)) hu (v := (Ff u)) rfl d9_33 (pc' := 34) rfl ?_
  refine g_iastore K W A_an (k := mm) (own_ofNat (by omega)) hmM ge_an d9_34 (pc' := 35) rfl (fun T h W w A_an => ?_)
  have kp := kp.wr w (Or.inl (List.mem_of_getElem? (i := 3) rfl))
  have X_o0 := X_o0.wr w
  have F_o0_heads := F_o0_heads.other w (Or.inl ne_o0_an)
  have F_o0_capacities := F_o0_capacities.other w (Or.inl ne_o0_an)
  have F_o0_nextOut := F_o0_nextOut.other w (Or.inl ne_o0_an)
  have F_o0_firstOut := F_o0_firstOut.other w (Or.inl ne_o0_an)
  have F_o0_nodes := F_o0_nodes.other w (Or.inl ne_o0_an)
  have F_o0_edges := F_o0_edges.other w (Or.inl ne_o0_an)
  have A_ah := A_ah.other w ne_ah_an
  have A_ac := A_ac.other w ne_ac_an
  have A_af := A_af.other w ne_af_an
  refine g_aloadN K W d9_35 rfl rfl (pc' := 36) rfl ?_
  refine g_getF K W (host := "") (Or.inl (hw _ (List.mem_of_getElem? (i := 26) rfl))) Via.refl F_o0_firstOut d9_36 (pc' := 39) rfl (fun T W => ?_)
  refine g_iloadN K W d9_39 rfl (pc' := 40) rfl ?_
  refine g_aloadN K W d9_40 rfl rfl (pc' := 41) rfl ?_
  refine g_getF K W (host := "") (Or.inl (hw _ (List.mem_of_getElem? (i := 40) rfl))) Via.refl F_o0_edges d9_41 (pc' := 44) rfl (fun T W => ?_)
  refine g_iastore K W A_af (k := u) (own_ofNat (by omega)) hu ge_af d9_44 (pc' := 45) rfl (fun T h W w A_af => ?_)
  have kp := kp.wr w (Or.inl (List.mem_of_getElem? (i := 4) rfl))
  have X_o0 := X_o0.wr w
  have F_o0_heads := F_o0_heads.other w (Or.inl ne_o0_af)
  have F_o0_capacities := F_o0_capacities.other w (Or.inl ne_o0_af)
  have F_o0_nextOut := F_o0_nextOut.other w (Or.inl ne_o0_af)
  have F_o0_firstOut := F_o0_firstOut.other w (Or.inl ne_o0_af)
  have F_o0_nodes := F_o0_nodes.other w (Or.inl ne_o0_af)
  have F_o0_edges := F_o0_edges.other w (Or.inl ne_o0_af)
  have A_ah := A_ah.other w ne_ah_af
  have A_ac := A_ac.other w ne_ac_af
  have A_an := A_an.other w ne_an_af
  refine g_aloadN K W d9_45 rfl rfl (pc' := 46) rfl ?_
  refine g_dup K W d9_46 rfl (pc' := 47) rfl ?_
  refine g_getF K W (host := "") (Or.inl (hw _ (List.mem_of_getElem? (i := 40) rfl))) Via.refl F_o0_edges d9_47 (pc' := 50) rfl (fun T W => ?_)
  refine g_iconst K W (v := (1 : Int32)) d9_50 rfl (pc' := 51) rfl ?_
  refine g_iadd K W d9_51 (pc' := 52) rfl ?_
  rw [own_one]
  refine g_putF K W (host := "") (Or.inl (hw _ (List.mem_of_getElem? (i := 40) rfl))) Via.refl F_o0_edges X_o0 (Or.inl (hw _ (List.mem_of_getElem? (i := 41) rfl))) (hw _ (List.mem_of_getElem? (i := 10) rfl)) (ty := .int) (by decide) rfl rfl ge_o0 d9_52 (pc' := 55) rfl (fun T h W w => ?_)
  have kp := kp.wr w (Or.inl (List.mem_of_getElem? (i := 0) rfl))
  have X_o0 := X_o0.wr w
  have F_o0_heads := F_o0_heads.other w (Or.inr (slot_ne (a0 := a0) (C := "com/example/ichnos/ichnos/planning/ils/MinCut") (Or.inl (hw _ (List.mem_of_getElem? (i := 19) rfl))) (Or.inl (hw _ (List.mem_of_getElem? (i := 41) rfl))) (by decide) (t := (.array .int)) (t' := .int) (by decide) (by decide)))
  have F_o0_capacities := F_o0_capacities.other w (Or.inr (slot_ne (a0 := a0) (C := "com/example/ichnos/ichnos/planning/ils/MinCut") (Or.inl (hw _ (List.mem_of_getElem? (i := 21) rfl))) (Or.inl (hw _ (List.mem_of_getElem? (i := 41) rfl))) (by decide) (t := (.array .long)) (t' := .int) (by decide) (by decide)))
  have F_o0_nextOut := F_o0_nextOut.other w (Or.inr (slot_ne (a0 := a0) (C := "com/example/ichnos/ichnos/planning/ils/MinCut") (Or.inl (hw _ (List.mem_of_getElem? (i := 23) rfl))) (Or.inl (hw _ (List.mem_of_getElem? (i := 41) rfl))) (by decide) (t := (.array .int)) (t' := .int) (by decide) (by decide)))
  have F_o0_firstOut := F_o0_firstOut.other w (Or.inr (slot_ne (a0 := a0) (C := "com/example/ichnos/ichnos/planning/ils/MinCut") (Or.inr (hw _ (List.mem_of_getElem? (i := 27) rfl))) (Or.inl (hw _ (List.mem_of_getElem? (i := 41) rfl))) (by decide) (t := (.array .int)) (t' := .int) (by decide) (by decide)))
  have F_o0_nodes := F_o0_nodes.other w (Or.inr (slot_ne (a0 := a0) (C := "com/example/ichnos/ichnos/planning/ils/MinCut") (Or.inr (hw _ (List.mem_of_getElem? (i := 25) rfl))) (Or.inl (hw _ (List.mem_of_getElem? (i := 41) rfl))) (by decide) (t := .int) (t' := .int) (by decide) (by decide)))
  have A_ah := A_ah.other w ne_ah_o0
  have A_ac := A_ac.other w ne_ac_o0
  have A_an := A_an.other w ne_an_o0
  have A_af := A_af.other w ne_af_o0
  have F_o0_edges := F_o0_edges.same w
  exact g_ret0 K W d9_55 (by decide) (by decide) ⟨rfl, kp, F_o0_heads, F_o0_capacities, F_o0_nextOut, F_o0_firstOut, F_o0_nodes, F_o0_edges, A_ah, A_ac, A_an, A_af⟩
def Q_c_add (Z : State) (n0 : Nat) (h0 : Heap) (o0 : Addr) (x1 : Int32) (x2 : Int32) (y3 : Int64) (nn : Nat) (kk : Nat) (Kc : (Nat → Bool) → Int) (Fs : List Addr) (u : Nat) (wn : Nat) : Option Value → Heap → Prop := fun v h => v = none ∧ Sm h0 h Fs ∧ MC Z n0 h o0 nn (kk + 1) (fun S => Kc S + if S u = true ∧ S wn = false then min y3.toInt 2305843009213693951 else 0) Fs
abbrev rm_c_add : Room := { frames := 1, cells := 0, slots := 0, locals := 18 }
set_option maxHeartbeats 40000000 in
theorem c_add (l : Launch) (Z : State) (a0 : Array Value) (hw : ∀ d ∈ tables_1, d.before a0 Z = true) (n0 : Nat) (h0 : Heap) (hn : n0 ≤ h0.size) (o0 : Addr) (x1 : Int32) (x2 : Int32) (y3 : Int64) (nn : Nat) (kk : Nat) (Kc : (Nat → Bool) → Int) (Fs : List Addr) (u : Nat) (wn : Nat) (P : MC Z n0 h0 o0 nn kk Kc Fs) (ex1 : x1 = Int32.ofNat u) (hu : u < nn) (ex2 : x2 = Int32.ofNat wn) (hw2 : wn < nn) (hk8 : kk ≤ 7) (hy : 0 ≤ y3.toInt) :
    Mt l Z (⟨"com/example/ichnos/ichnos/planning/ils/MinCut", "add", "(IIJ)V"⟩ : MethodName) prog_66_method_2_code 5 none rm_c_add n0 #[(.ref o0), (.int x1), (.int x2), (.long y3)] h0 (Q_c_add Z n0 h0 o0 x1 x2 y3 nn kk Kc Fs u wn) := by
  refine met_of (plainFor_of_name pn_1) (Ls := #[.val (.ref o0), .val (.int x1), .val (.int x2), .val (.long y3), .second]) (fun m => by first | (simp [entryFrame, mkF, argsToLocals, Value.category]; done) | rfl) hn ?_
  intro p e s m below meth c T K W
  replace K : Cx p s m meth c Z "com/example/ichnos/ichnos/planning/ils/MinCut" "add" prog_66_method_2_code 5 none := K
  generalize eA : (#[(.ref o0), (.int x1), (.int x2), (.long y3)] : Array Value) = args at W
  show Go p e below s n0 (Q_c_add Z n0 h0 o0 x1 x2 y3 nn kk Kc Fs u wn) 0 0 T (mkF m 0 #[.val (.ref o0), .val (.int x1), .val (.int x2), .val (.long y3), .second] [])
  subst ex1 ex2
  show Go p e below s n0 (Q_c_add Z n0 h0 o0 (Int32.ofNat u) (Int32.ofNat wn) y3 nn kk Kc Fs u wn) 0 0 T (mkF m 0 #[.val (.ref o0), .val (.int (Int32.ofNat u)), .val (.int (Int32.ofNat wn)), .val (.long y3), .second] [])
  obtain ⟨X_o0, ge_o0, ah, ac, an, af, M, H, Hf, Cf, Nf, Ff, ge_ah, ge_ac, ge_an, ge_af, ne_o0_ah, ne_o0_ac, ne_o0_an, ne_o0_af, ne_ah_ac, ne_ah_an, ne_ah_af, ne_ac_an, ne_ac_af, ne_an_af, F_o0_heads, F_o0_capacities, F_o0_nextOut, F_o0_firstOut, F_o0_nodes, F_o0_edges, A_ah, A_ac, A_an, A_af, gp, hM, cap, hK, fs⟩ := P
  have ne_ah_o0 := Ne.symm ne_o0_ah
  have ne_ac_o0 := Ne.symm ne_o0_ac
  have ne_an_o0 := Ne.symm ne_o0_an
  have ne_af_o0 := Ne.symm ne_o0_af
  have ne_ac_ah := Ne.symm ne_ah_ac
  have ne_an_ah := Ne.symm ne_ah_an
  have ne_af_ah := Ne.symm ne_ah_af
  have ne_an_ac := Ne.symm ne_ac_an
  have ne_af_ac := Ne.symm ne_ac_af
  have ne_af_an := Ne.symm ne_an_af
  have kp := Keep.refl h0 [o0, ah, ac, an, af]
  have gp0 := gp
  obtain ⟨hn5, hk16, hkM, hM32, hH, hHf, hNf, hFf⟩ := gp
  have hM3 : M ≤ 32 := hM32
  have e2k : Int32.ofNat (2 * kk) + 2 = Int32.ofNat (2 * kk + 2) := (Int32.ofNat_add _ 2).symm
  refine g_aloadN K W d7_0 rfl rfl (pc' := 1) rfl ?_
  refine g_getF K W (host := "") (Or.inl (hw _ (List.mem_of_getElem? (i := 40) rfl))) Via.refl F_o0_edges d7_1 (pc' := 4) rfl (fun T W => ?_)
  refine g_iconst K W (v := (2 : Int32)) d7_4 rfl (pc' := 5) rfl ?_
  refine g_iadd K W d7_5 (pc' := 6) rfl ?_
  rw [e2k]
  refine g_aloadN K W d7_6 rfl rfl (pc' := 7) rfl ?_
  refine g_getF K W (host := "") (Or.inl (hw _ (List.mem_of_getElem? (i := 18) rfl))) Via.refl F_o0_heads d7_7 (pc' := 10) rfl (fun T W => ?_)
  refine g_alenI K W A_ah (v := (Int32.ofNat M)) rfl d7_10 (pc' := 11) rfl ?_
  refine g_icmp_le K W d7_11 (pt := 68) rfl (pf := 14) rfl (fun hc11 => absurd hc11 (fun z => by have := (own_lt (by omega) (by omega)).mp z; omega)) (fun hc11 => ?_)
  refine g_aloadN K W d7_68 rfl rfl (pc' := 69) rfl ?_
  refine g_iloadN K W d7_69 rfl (pc' := 70) rfl ?_
  refine g_iloadN K W d7_70 rfl (pc' := 71) rfl ?_
  refine g_lloadN K W d7_71 rfl (pc' := 72) rfl ?_
  refine g_ldc2 K W (v := (2305843009213693951 : Int64)) (hw _ (List.mem_of_getElem? (i := 42) rfl)) d7_72 (pc' := 75) rfl ?_
  refine g_callS (c_min l Z a0 hw n0 _ W.sz y3 (2305843009213693951 : Int64)) K W (hw _ (List.mem_of_getElem? (i := 43) rfl)) (hw _ (List.mem_of_getElem? (i := 44) rfl)) (hw _ (List.mem_of_getElem? (i := 45) rfl)) (hw _ (List.mem_of_getElem? (i := 46) rfl)) (by decide) (lenOf pd_1 rfl) d7_75 (pc' := 78) rfl (argsL := [(.long y3), (.long (2305843009213693951 : Int64))]) (rest := [(.int (Int32.ofNat wn)), (.int (Int32.ofNat u)), (.ref o0)]) rfl rfl (by decide) (wt := 3) rfl (by decide) (by decide) (by decide) ?_
  rintro T _ _ W ⟨rfl, rfl⟩
  show Go p e below s n0 (Q_c_add Z n0 h0 o0 (Int32.ofNat u) (Int32.ofNat wn) y3 nn kk Kc Fs u wn) 0 0 T (mkF m 78 #[.val (.ref o0), .val (.int (Int32.ofNat u)), .val (.int (Int32.ofNat wn)), .val (.long y3), .second] [(.long (own_minL y3 (2305843009213693951 : Int64))), (.int (Int32.ofNat wn)), (.int (Int32.ofNat u)), (.ref o0)])
  generalize hcc : own_minL y3 (2305843009213693951 : Int64) = cc
  have hcv : cc.toInt = min y3.toInt 2305843009213693951 := by rw [← hcc]; exact own_minL_toInt _ _
  have hMk : 2 * kk + 2 ≤ M := by omega
  refine g_callP (c_link l Z a0 hw n0 _ W.sz o0 (Int32.ofNat u) (Int32.ofNat wn) cc ah ac an af   nn M Hf Cf Nf Ff (2 * kk) u X_o0 F_o0_heads F_o0_capacities F_o0_nextOut F_o0_firstOut F_o0_nodes F_o0_edges A_ah A_ac A_an A_af ge_o0 ge_ah ge_ac ge_an ge_af ne_o0_ah ne_o0_ac ne_o0_an ne_o0_af ne_ah_o0 ne_ah_ac ne_ah_an ne_ah_af ne_ac_o0 ne_ac_ah ne_ac_an ne_ac_af ne_an_o0 ne_an_ah ne_an_ac ne_an_af ne_af_o0 ne_af_ah ne_af_ac ne_af_an rfl hu hn5 (by omega) (by omega)) K W X_o0.cell (hw _ (List.mem_of_getElem? (i := 47) rfl)) (hw _ (List.mem_of_getElem? (i := 48) rfl)) (hw _ (List.mem_of_getElem? (i := 10) rfl)) (hw _ (List.mem_of_getElem? (i := 49) rfl)) (hw _ (List.mem_of_getElem? (i := 11) rfl)) (hw _ (List.mem_of_getElem? (i := 50) rfl)) (by decide) (lenOf pd_5 rfl) d7_78 (pc' := 81) rfl (argsL := [(.int (Int32.ofNat u)), (.int (Int32.ofNat wn)), (.long cc)]) (rest := []) rfl rfl (by decide) (wt := 0) rfl (by decide) (by decide) (by decide) ?_
  rintro T h _ W ⟨rfl, kq, F_o0_heads, F_o0_capacities, F_o0_nextOut, F_o0_firstOut, F_o0_nodes, F_o0_edges, A_ah, A_ac, A_an, A_af⟩
  show Go p e below s n0 (Q_c_add Z n0 h0 o0 (Int32.ofNat u) (Int32.ofNat wn) y3 nn kk Kc Fs u wn) 0 0 T (mkF m 81 #[.val (.ref o0), .val (.int (Int32.ofNat u)), .val (.int (Int32.ofNat wn)), .val (.long y3), .second] [])
  have kp := kp.trans kq (allS (Or.inl (List.mem_of_getElem? (i := 0) rfl)) (allS (Or.inl (List.mem_of_getElem? (i := 1) rfl)) (allS (Or.inl (List.mem_of_getElem? (i := 2) rfl)) (allS (Or.inl (List.mem_of_getElem? (i := 3) rfl)) (allS (Or.inl (List.mem_of_getElem? (i := 4) rfl)) all0)))))
  have X_o0 := X_o0.keep kq
  refine g_aloadN K W d7_81 rfl rfl (pc' := 82) rfl ?_
  refine g_iloadN K W d7_82 rfl (pc' := 83) rfl ?_
  refine g_iloadN K W d7_83 rfl (pc' := 84) rfl ?_
  refine g_lconst K W (v := (0 : Int64)) d7_84 rfl (pc' := 85) rfl ?_
  refine g_callP (c_link l Z a0 hw n0 _ W.sz o0 (Int32.ofNat wn) (Int32.ofNat u) (0 : Int64) ah ac an af   nn M (upd Hf (2 * kk) (Int32.ofNat wn)) (upd Cf (2 * kk) cc) (upd Nf (2 * kk) (Ff u)) (upd Ff u (Int32.ofNat (2 * kk))) (2 * kk + 1) wn X_o0 F_o0_heads F_o0_capacities F_o0_nextOut F_o0_firstOut F_o0_nodes F_o0_edges A_ah A_ac A_an A_af ge_o0 ge_ah ge_ac ge_an ge_af ne_o0_ah ne_o0_ac ne_o0_an ne_o0_af ne_ah_o0 ne_ah_ac ne_ah_an ne_ah_af ne_ac_o0 ne_ac_ah ne_ac_an ne_ac_af ne_an_o0 ne_an_ah ne_an_ac ne_an_af ne_af_o0 ne_af_ah ne_af_ac ne_af_an rfl hw2 hn5 (by omega) (by omega)) K W X_o0.cell (hw _ (List.mem_of_getElem? (i := 47) rfl)) (hw _ (List.mem_of_getElem? (i := 48) rfl)) (hw _ (List.mem_of_getElem? (i := 10) rfl)) (hw _ (List.mem_of_getElem? (i := 49) rfl)) (hw _ (List.mem_of_getElem? (i := 11) rfl)) (hw _ (List.mem_of_getElem? (i := 50) rfl)) (by decide) (lenOf pd_5 rfl) d7_85 (pc' := 88) rfl (argsL := [(.int (Int32.ofNat wn)), (.int (Int32.ofNat u)), (.long (0 : Int64))]) (rest := []) rfl rfl (by decide) (wt := 0) rfl (by decide) (by decide) (by decide) ?_
  rintro T h _ W ⟨rfl, kq, F_o0_heads, F_o0_capacities, F_o0_nextOut, F_o0_firstOut, F_o0_nodes, F_o0_edges, A_ah, A_ac, A_an, A_af⟩
  show Go p e below s n0 (Q_c_add Z n0 h0 o0 (Int32.ofNat u) (Int32.ofNat wn) y3 nn kk Kc Fs u wn) 0 0 T (mkF m 88 #[.val (.ref o0), .val (.int (Int32.ofNat u)), .val (.int (Int32.ofNat wn)), .val (.long y3), .second] [])
  have kp := kp.trans kq (allS (Or.inl (List.mem_of_getElem? (i := 0) rfl)) (allS (Or.inl (List.mem_of_getElem? (i := 1) rfl)) (allS (Or.inl (List.mem_of_getElem? (i := 2) rfl)) (allS (Or.inl (List.mem_of_getElem? (i := 3) rfl)) (allS (Or.inl (List.mem_of_getElem? (i := 4) rfl)) all0)))))
  have X_o0 := X_o0.keep kq
  have hc0 : 0 ≤ cc.toInt := by omega
  have hcI : cc.toInt ≤ 2305843009213693951 := by omega
  have gp1 := gp0
  have cap1 := cap
  exact g_ret0 K W d7_88 (by decide) (by decide) ⟨rfl, fun x hx c hc => kp.2.1 x c hc (by have z := fs x hx; simp [z.2.1, z.2.2.1, z.2.2.2.1, z.2.2.2.2.1, z.2.2.2.2.2]), X_o0, ge_o0, ah, ac, an, af, M, upd (upd H (2 * kk) wn) (2 * kk + 1) u, _, _, _, _, ge_ah, ge_ac, ge_an, ge_af, ne_o0_ah, ne_o0_ac, ne_o0_an, ne_o0_af, ne_ah_ac, ne_ah_an, ne_ah_af, ne_ac_an, ne_ac_af, ne_an_af, F_o0_heads, F_o0_capacities, F_o0_nextOut, F_o0_firstOut, F_o0_nodes, F_o0_edges, A_ah, A_ac, A_an, A_af, gp1.add hMk hu hw2, hM, cap1.add hc0 hcI, fun S => by rw [cut_add, hcv, ← hK S], fun x hx => by have z := fs x hx; exact ⟨Nat.lt_of_lt_of_le z.1 kp.1, z.2.1, z.2.2.1, z.2.2.2.1, z.2.2.2.2.1, z.2.2.2.2.2⟩⟩
def Q_c_given (Z : State) (n0 : Nat) (h0 : Heap) (x0 : Int32) : Option Value → Heap → Prop := fun v h => ∃ y : Int64, v = some (.long y) ∧ h0 = h ∧ 0 ≤ y.toInt
abbrev rm_c_given : Room := { frames := 0, cells := 0, slots := 0, locals := 0 }
set_option maxHeartbeats 40000000 in
theorem c_given (l : Launch) (Z : State) (a0 : Array Value) (hw : ∀ d ∈ tables_1, d.before a0 Z = true) (n0 : Nat) (h0 : Heap) (hn : n0 ≤ h0.size) (x0 : Int32) :
    Mt l Z (⟨"com/example/ichnos/ichnos/planning/ils/MinCutSourceSidePinLaw", "given", "(I)J"⟩ : MethodName) method_2_code 2 (some .long) rm_c_given n0 #[(.int x0)] h0 (Q_c_given Z n0 h0 x0) := by
  refine met_of (plainFor_of_name pn_2) (Ls := #[.val (.int x0), .unset]) (fun m => by first | (simp [entryFrame, mkF, argsToLocals, Value.category]; done) | rfl) hn ?_
  intro p e s m below meth c T K W
  replace K : Cx p s m meth c Z "com/example/ichnos/ichnos/planning/ils/MinCutSourceSidePinLaw" "given" method_2_code 2 (some .long) := K
  generalize eA : (#[(.int x0)] : Array Value) = args at W
  show Go p e below s n0 (Q_c_given Z n0 h0 x0) 0 0 T (mkF m 0 #[.val (.int x0), .unset] [])
  refine g_iloadN K W d1_0 rfl (pc' := 1) rfl ?_
  refine g_bipush K W (v := (8 : Int32)) d1_1 rfl (pc' := 3) rfl ?_
  refine g_iushr K W d1_3 (pc' := 4) rfl ?_
  refine g_bipush K W (v := (7 : Int32)) d1_4 rfl (pc' := 6) rfl ?_
  refine g_iand K W d1_6 (pc' := 7) rfl ?_
  refine g_istoreN K W d1_7 (Ls' := #[.val (.int x0), .val (.int (((x0.toUInt32 >>> ((8 : Int32) &&& 31).toUInt32).toInt32) &&& (7 : Int32)))]) rfl (pc' := 8) rfl ?_
  refine g_iloadN K W d1_8 rfl (pc' := 9) rfl ?_
  refine g_bipush K W (v := (7 : Int32)) d1_9 rfl (pc' := 11) rfl ?_
  refine g_icmp_ne K W d1_11 (pt := 18) rfl (pf := 14) rfl (fun hc11 => ?_) (fun hc11 => ?_)
  · refine g_ldc2 K W (v := (9223372036854775807 : Int64)) (hw _ (List.mem_of_getElem? (i := 78) rfl)) d1_14 (pc' := 17) rfl ?_
    exact g_retL K W d1_17 (by decide) (by decide) ⟨_, rfl, rfl, by decide⟩
  · refine g_iloadN K W d1_18 rfl (pc' := 19) rfl ?_
    refine g_bipush K W (v := (6 : Int32)) d1_19 rfl (pc' := 21) rfl ?_
    refine g_icmp_ne K W d1_21 (pt := 28) rfl (pf := 24) rfl (fun hc21 => ?_) (fun hc21 => ?_)
    · refine g_ldc2 K W (v := (2305843009213693951 : Int64)) (hw _ (List.mem_of_getElem? (i := 64) rfl)) d1_24 (pc' := 27) rfl ?_
      exact g_retL K W d1_27 (by decide) (by decide) ⟨_, rfl, rfl, by decide⟩
    · refine g_iloadN K W d1_28 rfl (pc' := 29) rfl ?_
      refine g_sipush K W (v := (255 : Int32)) d1_29 rfl (pc' := 32) rfl ?_
      refine g_iand K W d1_32 (pc' := 33) rfl ?_
      refine g_i2l K W d1_33 (pc' := 34) rfl ?_
      exact g_retL K W d1_34 (by decide) (by decide) ⟨_, rfl, rfl, own_given _⟩
def Q_c_held (Z : State) (n0 : Nat) (h0 : Heap) (y0 : Int64) : Option Value → Heap → Prop := fun v h => v = some (.long (own_minL y0 2305843009213693951)) ∧ h0 = h
abbrev rm_c_held : Room := { frames := 1, cells := 0, slots := 0, locals := 15 }
set_option maxHeartbeats 40000000 in
theorem c_held (l : Launch) (Z : State) (a0 : Array Value) (hw : ∀ d ∈ tables_1, d.before a0 Z = true) (n0 : Nat) (h0 : Heap) (hn : n0 ≤ h0.size) (y0 : Int64) :
    Mt l Z (⟨"com/example/ichnos/ichnos/planning/ils/MinCutSourceSidePinLaw", "held", "(J)J"⟩ : MethodName) method_3_code 2 (some .long) rm_c_held n0 #[(.long y0)] h0 (Q_c_held Z n0 h0 y0) := by
  refine met_of (plainFor_of_name pn_2) (Ls := #[.val (.long y0), .second]) (fun m => by first | (simp [entryFrame, mkF, argsToLocals, Value.category]; done) | rfl) hn ?_
  intro p e s m below meth c T K W
  replace K : Cx p s m meth c Z "com/example/ichnos/ichnos/planning/ils/MinCutSourceSidePinLaw" "held" method_3_code 2 (some .long) := K
  generalize eA : (#[(.long y0)] : Array Value) = args at W
  show Go p e below s n0 (Q_c_held Z n0 h0 y0) 0 0 T (mkF m 0 #[.val (.long y0), .second] [])
  refine g_lloadN K W d12_0 rfl (pc' := 1) rfl ?_
  refine g_ldc2 K W (v := (2305843009213693951 : Int64)) (hw _ (List.mem_of_getElem? (i := 64) rfl)) d12_1 (pc' := 4) rfl ?_
  refine g_callS (c_min l Z a0 hw n0 _ W.sz y0 (2305843009213693951 : Int64)) K W (hw _ (List.mem_of_getElem? (i := 65) rfl)) (hw _ (List.mem_of_getElem? (i := 44) rfl)) (hw _ (List.mem_of_getElem? (i := 45) rfl)) (hw _ (List.mem_of_getElem? (i := 46) rfl)) (by decide) (lenOf pd_1 rfl) d12_4 (pc' := 7) rfl (argsL := [(.long y0), (.long (2305843009213693951 : Int64))]) (rest := []) rfl rfl (by decide) (wt := 0) rfl (by decide) (by decide) (by decide) ?_
  rintro T _ _ W ⟨rfl, rfl⟩
  show Go p e below s n0 (Q_c_held Z n0 h0 y0) 0 0 T (mkF m 7 #[.val (.long y0), .second] [(.long (own_minL y0 (2305843009213693951 : Int64)))])
  exact g_retL K W d12_7 (by decide) (by decide) ⟨rfl, rfl⟩
def Q_c_place (Z : State) (n0 : Nat) (h0 : Heap) (x0 : Int32) (x1 : Int32) (x2 : Int32) (x3 : Int32) (r : Nat) (st : Nat) (nn : Nat) : Option Value → Heap → Prop := fun v h => ∃ q : Nat, v = some (.int (Int32.ofNat q)) ∧ h0 = h ∧ q = pl r st nn x3
abbrev rm_c_place : Room := { frames := 0, cells := 0, slots := 0, locals := 0 }
set_option maxHeartbeats 40000000 in
theorem c_place (l : Launch) (Z : State) (a0 : Array Value) (hw : ∀ d ∈ tables_1, d.before a0 Z = true) (n0 : Nat) (h0 : Heap) (hn : n0 ≤ h0.size) (x0 : Int32) (x1 : Int32) (x2 : Int32) (x3 : Int32) (r : Nat) (st : Nat) (nn : Nat) (ex0 : x0 = Int32.ofNat r) (hr : r ≤ 4) (ex1 : x1 = Int32.ofNat st) (hst : st < nn) (ex2 : x2 = Int32.ofNat nn) (hnn : nn = 4 ∨ nn = 5) :
    Mt l Z (⟨"com/example/ichnos/ichnos/planning/ils/MinCutSourceSidePinLaw", "place", "(IIIZ)I"⟩ : MethodName) method_4_code 5 (some .int) rm_c_place n0 #[(.int x0), (.int x1), (.int x2), (.int x3)] h0 (Q_c_place Z n0 h0 x0 x1 x2 x3 r st nn) := by
  refine met_of (plainFor_of_name pn_2) (Ls := #[.val (.int x0), .val (.int x1), .val (.int x2), .val (.int x3), .unset]) (fun m => by first | (simp [entryFrame, mkF, argsToLocals, Value.category]; done) | rfl) hn ?_
  intro p e s m below meth c T K W
  replace K : Cx p s m meth c Z "com/example/ichnos/ichnos/planning/ils/MinCutSourceSidePinLaw" "place" method_4_code 5 (some .int) := K
  generalize eA : (#[(.int x0), (.int x1), (.int x2), (.int x3)] : Array Value) = args at W
  show Go p e below s n0 (Q_c_place Z n0 h0 x0 x1 x2 x3 r st nn) 0 0 T (mkF m 0 #[.val (.int x0), .val (.int x1), .val (.int x2), .val (.int x3), .unset] [])
  subst ex0 ex1 ex2
  show Go p e below s n0 (Q_c_place Z n0 h0 (Int32.ofNat r) (Int32.ofNat st) (Int32.ofNat nn) x3 r st nn) 0 0 T (mkF m 0 #[.val (.int (Int32.ofNat r)), .val (.int (Int32.ofNat st)), .val (.int (Int32.ofNat nn)), .val (.int x3), .unset] [])
  refine g_iloadN K W d2_0 rfl (pc' := 1) rfl ?_
  refine g_iloadN K W d2_1 rfl (pc' := 2) rfl ?_
  refine g_iadd K W d2_2 (pc' := 3) rfl ?_
  refine g_iloadN K W d2_3 rfl (pc' := 4) rfl ?_
  refine g_irem K W (own_nz hnn) d2_4 (pc' := 5) rfl ?_
  rw [own_pr hr hnn hst]
  refine g_istore K W d2_5 (Ls' := #[.val (.int (Int32.ofNat r)), .val (.int (Int32.ofNat st)), .val (.int (Int32.ofNat nn)), .val (.int x3), .val (.int (Int32.ofNat ((r + st) % nn)))]) rfl (pc' := 7) rfl ?_
  refine g_iloadN K W d2_7 rfl (pc' := 8) rfl ?_
  refine g_if_eq K W d2_8 (pt := 20) rfl (pf := 11) rfl (fun hc8 => ?_) (fun hc8 => ?_)
  · refine g_iload K W d2_20 rfl (pc' := 22) rfl ?_
    exact g_retI K W d2_22 (by decide) (by decide) ⟨_, rfl, rfl, by unfold pl; rw [if_pos hc8]⟩
  · refine g_iloadN K W d2_11 rfl (pc' := 12) rfl ?_
    refine g_iconst K W (v := (1 : Int32)) d2_12 rfl (pc' := 13) rfl ?_
    refine g_isub K W d2_13 (pc' := 14) rfl ?_
    refine g_iload K W d2_14 rfl (pc' := 16) rfl ?_
    refine g_isub K W d2_16 (pc' := 17) rfl ?_
    rw [own_ps hnn (Nat.mod_lt _ (by omega))]
    refine g_goto K W d2_17 (pt := 22) rfl ?_
    exact g_retI K W d2_22 (by decide) (by decide) ⟨_, rfl, rfl, by unfold pl; rw [if_neg hc8]⟩
def Q_c_addE (Z : State) (n0 : Nat) (h0 : Heap) (o0 : Addr) (x1 : Int32) (o2 : Addr) (o3 : Addr) (o4 : Addr) (o5 : Addr) (fF : Nat → Int32) (fT : Nat → Int32) (fP : Nat → Int32) (fC : Nat → Int64) (nn : Nat) (kk : Nat) (Kc : (Nat → Bool) → Int) (Fs : List Addr) (i : Nat) (ra : Nat) (rb : Nat) (u : Nat) (w : Nat) : Option Value → Heap → Prop := fun v h => v = none ∧ Sm h0 h Fs ∧ MC Z n0 h o0 nn (kk + 1) (fun S => Kc S + if S u = true ∧ S w = false then min (fC i).toInt 2305843009213693951 else 0) Fs
abbrev rm_c_addE : Room := { frames := 2, cells := 0, slots := 0, locals := 34 }
set_option maxHeartbeats 40000000 in
theorem c_addE (l : Launch) (Z : State) (a0 : Array Value) (hw : ∀ d ∈ tables_1, d.before a0 Z = true) (n0 : Nat) (h0 : Heap) (hn : n0 ≤ h0.size) (o0 : Addr) (x1 : Int32) (o2 : Addr) (o3 : Addr) (o4 : Addr) (o5 : Addr) (fF : Nat → Int32) (fT : Nat → Int32) (fP : Nat → Int32) (fC : Nat → Int64) (nn : Nat) (kk : Nat) (Kc : (Nat → Bool) → Int) (Fs : List Addr) (i : Nat) (ra : Nat) (rb : Nat) (u : Nat) (w : Nat) (A_o2 : AyI Z h0 o2 .int 6 fF) (A_o3 : AyI Z h0 o3 .int 6 fT) (A_o4 : AyI Z h0 o4 .int 5 fP) (A_o5 : AyJ Z h0 o5 6 fC) (P : MC Z n0 h0 o0 nn kk Kc Fs) (ex1 : x1 = Int32.ofNat i) (hi : i < 6) (hfF : fF i = Int32.ofNat ra) (hra : ra < 5) (hfT : fT i = Int32.ofNat rb) (hrb : rb < 5) (hu0 : fP ra = Int32.ofNat u) (hu : u < nn) (hw0 : fP rb = Int32.ofNat w) (hw2 : w < nn) (hnn5 : nn ≤ 5) (hk5 : kk ≤ 5) (hy : 0 ≤ (fC i).toInt) :
    Mt l Z (⟨"com/example/ichnos/ichnos/planning/ils/MinCutSourceSidePinLaw", "addEdge", "(Lcom/example/ichnos/ichnos/planning/ils/MinCut;I[I[I[I[J)V"⟩ : MethodName) method_5_code 6 none rm_c_addE n0 #[(.ref o0), (.int x1), (.ref o2), (.ref o3), (.ref o4), (.ref o5)] h0 (Q_c_addE Z n0 h0 o0 x1 o2 o3 o4 o5 fF fT fP fC nn kk Kc Fs i ra rb u w) := by
  refine met_of (plainFor_of_name pn_2) (Ls := #[.val (.ref o0), .val (.int x1), .val (.ref o2), .val (.ref o3), .val (.ref o4), .val (.ref o5)]) (fun m => by first | (simp [entryFrame, mkF, argsToLocals, Value.category]; done) | rfl) hn ?_
  intro p e s m below meth c T K W
  replace K : Cx p s m meth c Z "com/example/ichnos/ichnos/planning/ils/MinCutSourceSidePinLaw" "addEdge" method_5_code 6 none := K
  generalize eA : (#[(.ref o0), (.int x1), (.ref o2), (.ref o3), (.ref o4), (.ref o5)] : Array Value) = args at W
  show Go p e below s n0 (Q_c_addE Z n0 h0 o0 x1 o2 o3 o4 o5 fF fT fP fC nn kk Kc Fs i ra rb u w) 0 0 T (mkF m 0 #[.val (.ref o0), .val (.int x1), .val (.ref o2), .val (.ref o3), .val (.ref o4), .val (.ref o5)] [])
  subst ex1
  show Go p e below s n0 (Q_c_addE Z n0 h0 o0 (Int32.ofNat i) o2 o3 o4 o5 fF fT fP fC nn kk Kc Fs i ra rb u w) 0 0 T (mkF m 0 #[.val (.ref o0), .val (.int (Int32.ofNat i)), .val (.ref o2), .val (.ref o3), .val (.ref o4), .val (.ref o5)] [])
  have X_o0 := P.1
  refine g_aloadN K W d6_0 rfl rfl (pc' := 1) rfl ?_
  refine g_aload K W d6_1 rfl rfl (pc' := 3) rfl ?_
  refine g_aloadN K W d6_3 rfl rfl (pc' := 4) rfl ?_
  refine g_iloadN K W d6_4 rfl (pc' := 5) rfl ?_
  refine g_iaload K W A_o2 (k := i) (own_ofNat (by omega)) hi (v := (Int32.ofNat ra)) hfF d6_5 (pc' := 6) rfl ?_
  refine g_iaload K W A_o4 (k := ra) (own_ofNat (by omega)) hra (v := (Int32.ofNat u)) hu0 d6_6 (pc' := 7) rfl ?_
  refine g_aload K W d6_7 rfl rfl (pc' := 9) rfl ?_
  refine g_aloadN K W d6_9 rfl rfl (pc' := 10) rfl ?_
  refine g_iloadN K W d6_10 rfl (pc' := 11) rfl ?_
  refine g_iaload K W A_o3 (k := i) (own_ofNat (by omega)) hi (v := (Int32.ofNat rb)) hfT d6_11 (pc' := 12) rfl ?_
  refine g_iaload K W A_o4 (k := rb) (own_ofNat (by omega)) hrb (v := (Int32.ofNat w)) hw0 d6_12 (pc' := 13) rfl ?_
  refine g_aload K W d6_13 rfl rfl (pc' := 15) rfl ?_
  refine g_iloadN K W d6_15 rfl (pc' := 16) rfl ?_
  refine g_laload K W A_o5 (k := i) (own_ofNat (by omega)) hi (v := (fC i)) rfl d6_16 (pc' := 17) rfl ?_
  refine g_callV (c_add l Z a0 hw n0 _ W.sz o0 (Int32.ofNat u) (Int32.ofNat w) (fC i) nn kk Kc Fs u w P rfl hu rfl hw2 (by omega) hy) K W X_o0 (hw _ (List.mem_of_getElem? (i := 35) rfl)) (hw _ (List.mem_of_getElem? (i := 36) rfl)) (hw _ (List.mem_of_getElem? (i := 38) rfl)) (hw _ (List.mem_of_getElem? (i := 38) rfl)) (hw _ (List.mem_of_getElem? (i := 37) rfl)) (hw _ (List.mem_of_getElem? (i := 11) rfl)) (hw _ (List.mem_of_getElem? (i := 39) rfl)) (by decide) (lenOf pd_5 rfl) d6_17 (pc' := 20) rfl (argsL := [(.int (Int32.ofNat u)), (.int (Int32.ofNat w)), (.long (fC i))]) (rest := []) rfl rfl (by decide) (wt := 0) rfl (by decide) (by decide) (by decide) ?_
  rintro T h _ W ⟨rfl, sm, P⟩
  show Go p e below s n0 (Q_c_addE Z n0 h0 o0 (Int32.ofNat i) o2 o3 o4 o5 fF fT fP fC nn kk Kc Fs i ra rb u w) 0 0 T (mkF m 20 #[.val (.ref o0), .val (.int (Int32.ofNat i)), .val (.ref o2), .val (.ref o3), .val (.ref o4), .val (.ref o5)] [])
  exact g_ret0 K W d6_20 (by decide) (by decide) ⟨rfl, sm, P⟩
def Q_c0 (Z : State) (n0 : Nat) (h0 : Heap) (x0 : Int32) (x1 : Int32) (x2 : Int32) (x3 : Int32) : Option Value → Heap → Prop := fun v h => v = some (.int 1)
set_option maxHeartbeats 40000000 in
theorem c0 (l : Launch) (Z : State) (a0 : Array Value) (hw : ∀ d ∈ tables_1, d.before a0 Z = true) (n0 : Nat) (h0 : Heap) (hn : n0 ≤ h0.size) (x0 : Int32) (x1 : Int32) (x2 : Int32) (x3 : Int32) :
    Mt l Z x code maxLocals ret room_1 n0 #[(.int x0), (.int x1), (.int x2), (.int x3)] h0 (Q_c0 Z n0 h0 x0 x1 x2 x3) := by
  refine met_of (plainFor_of_name pn_2) (Ls := #[.val (.int x0), .val (.int x1), .val (.int x2), .val (.int x3), .unset, .unset, .unset, .unset, .unset, .unset, .unset, .unset, .unset, .unset, .unset, .unset, .unset, .unset, .unset, .unset, .unset, .unset, .unset, .unset, .unset, .unset, .unset, .unset, .unset, .unset, .unset, .unset, .unset, .unset, .unset, .unset, .unset, .unset]) (fun m => by first | (simp [entryFrame, mkF, argsToLocals, Value.category, maxLocals]; done) | rfl) hn ?_
  intro p e s m below meth c T K W
  replace K : Cx p s m meth c Z "com/example/ichnos/ichnos/planning/ils/MinCutSourceSidePinLaw" "law" code 38 (some .boolean) := K
  generalize eA : (#[(.int x0), (.int x1), (.int x2), (.int x3)] : Array Value) = args at W
  show Go p e below s n0 (Q_c0 Z n0 h0 x0 x1 x2 x3) 40 320 T (mkF m 0 #[.val (.int x0), .val (.int x1), .val (.int x2), .val (.int x3), .unset, .unset, .unset, .unset, .unset, .unset, .unset, .unset, .unset, .unset, .unset, .unset, .unset, .unset, .unset, .unset, .unset, .unset, .unset, .unset, .unset, .unset, .unset, .unset, .unset, .unset, .unset, .unset, .unset, .unset, .unset, .unset, .unset, .unset] [])
  refine g_bipush K W (v := (6 : Int32)) at_0 rfl (pc' := 2) rfl ?_
  refine g_newJ K W (n := 6) (cap := 6) (hw _ (List.mem_of_getElem? (i := 0) rfl)) rfl (Nat.le_refl _) at_2 (pc' := 4) rfl (by decide) (by decide) (by decide) (fun T h a2 W E ha_a2 ge_a2 A_a2 => ?_)
  refine g_astore K W at_4 rfl (Ls' := #[.val (.int x0), .val (.int x1), .val (.int x2), .val (.int x3), .val (.ref a2), .unset, .unset, .unset, .unset, .unset, .unset, .unset, .unset, .unset, .unset, .unset, .unset, .unset, .unset, .unset, .unset, .unset, .unset, .unset, .unset, .unset, .unset, .unset, .unset, .unset, .unset, .unset, .unset, .unset, .unset, .unset, .unset, .unset]) rfl (pc' := 6) rfl ?_
  refine g_aload K W at_6 rfl rfl (pc' := 8) rfl ?_
  refine g_iconst K W (v := (0 : Int32)) at_8 rfl (pc' := 9) rfl ?_
  refine g_iloadN K W at_9 rfl (pc' := 10) rfl ?_
  refine g_callS (c_given l Z a0 hw n0 _ W.sz x0) K W (hw _ (List.mem_of_getElem? (i := 1) rfl)) (hw _ (List.mem_of_getElem? (i := 2) rfl)) (hw _ (List.mem_of_getElem? (i := 3) rfl)) (hw _ (List.mem_of_getElem? (i := 4) rfl)) (by decide) (lenOf pd_6 rfl) at_10 (pc' := 13) rfl (argsL := [(.int x0)]) (rest := [(.int (0 : Int32)), (.ref a2)]) rfl rfl (by decide) (wt := 2) rfl (by decide) (by decide) (by decide) ?_
  rintro T _ _ W ⟨y0, rfl, rfl, hy0⟩
  show Go p e below s n0 (Q_c0 Z n0 h0 x0 x1 x2 x3) 40 320 T (mkF m 13 #[.val (.int x0), .val (.int x1), .val (.int x2), .val (.int x3), .val (.ref a2), .unset, .unset, .unset, .unset, .unset, .unset, .unset, .unset, .unset, .unset, .unset, .unset, .unset, .unset, .unset, .unset, .unset, .unset, .unset, .unset, .unset, .unset, .unset, .unset, .unset, .unset, .unset, .unset, .unset, .unset, .unset, .unset, .unset] [(.long y0), (.int (0 : Int32)), (.ref a2)])
  refine g_lastore K W A_a2 (k := 0) rfl (by decide) ge_a2 at_13 (pc' := 14) rfl (fun T h W w A_a2 => ?_)
  refine g_aload K W at_14 rfl rfl (pc' := 16) rfl ?_
  refine g_iconst K W (v := (1 : Int32)) at_16 rfl (pc' := 17) rfl ?_
  refine g_iloadN K W at_17 rfl (pc' := 18) rfl ?_
  refine g_bipush K W (v := (11 : Int32)) at_18 rfl (pc' := 20) rfl ?_
  refine g_iushr K W at_20 (pc' := 21) rfl ?_
  refine g_callS (c_given l Z a0 hw n0 _ W.sz ((x0.toUInt32 >>> ((11 : Int32) &&& 31).toUInt32).toInt32)) K W (hw _ (List.mem_of_getElem? (i := 1) rfl)) (hw _ (List.mem_of_getElem? (i := 2) rfl)) (hw _ (List.mem_of_getElem? (i := 3) rfl)) (hw _ (List.mem_of_getElem? (i := 4) rfl)) (by decide) (lenOf pd_6 rfl) at_21 (pc' := 24) rfl (argsL := [(.int ((x0.toUInt32 >>> ((11 : Int32) &&& 31).toUInt32).toInt32))]) (rest := [(.int (1 : Int32)), (.ref a2)]) rfl rfl (by decide) (wt := 2) rfl (by decide) (by decide) (by decide) ?_
  rintro T _ _ W ⟨y1, rfl, rfl, hy1⟩
  show Go p e below s n0 (Q_c0 Z n0 h0 x0 x1 x2 x3) 40 320 T (mkF m 24 #[.val (.int x0), .val (.int x1), .val (.int x2), .val (.int x3), .val (.ref a2), .unset, .unset, .unset, .unset, .unset, .unset, .unset, .unset, .unset, .unset, .unset, .unset, .unset, .unset, .unset, .unset, .unset, .unset, .unset, .unset, .unset, .unset, .unset, .unset, .unset, .unset, .unset, .unset, .unset, .unset, .unset, .unset, .unset] [(.long y1), (.int (1 : Int32)), (.ref a2)])
  refine g_lastore K W A_a2 (k := 1) rfl (by decide) ge_a2 at_24 (pc' := 25) rfl (fun T h W w A_a2 => ?_)
  refine g_aload K W at_25 rfl rfl (pc' := 27) rfl ?_
  refine g_iconst K W (v := (2 : Int32)) at_27 rfl (pc' := 28) rfl ?_
  refine g_iloadN K W at_28 rfl (pc' := 29) rfl ?_
  refine g_callS (c_given l Z a0 hw n0 _ W.sz x1) K W (hw _ (List.mem_of_getElem? (i := 1) rfl)) (hw _ (List.mem_of_getElem? (i := 2) rfl)) (hw _ (List.mem_of_getElem? (i := 3) rfl)) (hw _ (List.mem_of_getElem? (i := 4) rfl)) (by decide) (lenOf pd_6 rfl) at_29 (pc' := 32) rfl (argsL := [(.int x1)]) (rest := [(.int (2 : Int32)), (.ref a2)]) rfl rfl (by decide) (wt := 2) rfl (by decide) (by decide) (by decide) ?_
  rintro T _ _ W ⟨y2, rfl, rfl, hy2⟩
  show Go p e below s n0 (Q_c0 Z n0 h0 x0 x1 x2 x3) 40 320 T (mkF m 32 #[.val (.int x0), .val (.int x1), .val (.int x2), .val (.int x3), .val (.ref a2), .unset, .unset, .unset, .unset, .unset, .unset, .unset, .unset, .unset, .unset, .unset, .unset, .unset, .unset, .unset, .unset, .unset, .unset, .unset, .unset, .unset, .unset, .unset, .unset, .unset, .unset, .unset, .unset, .unset, .unset, .unset, .unset, .unset] [(.long y2), (.int (2 : Int32)), (.ref a2)])
  refine g_lastore K W A_a2 (k := 2) rfl (by decide) ge_a2 at_32 (pc' := 33) rfl (fun T h W w A_a2 => ?_)
  refine g_aload K W at_33 rfl rfl (pc' := 35) rfl ?_
  refine g_iconst K W (v := (3 : Int32)) at_35 rfl (pc' := 36) rfl ?_
  refine g_iloadN K W at_36 rfl (pc' := 37) rfl ?_
  refine g_bipush K W (v := (11 : Int32)) at_37 rfl (pc' := 39) rfl ?_
  refine g_iushr K W at_39 (pc' := 40) rfl ?_
  refine g_callS (c_given l Z a0 hw n0 _ W.sz ((x1.toUInt32 >>> ((11 : Int32) &&& 31).toUInt32).toInt32)) K W (hw _ (List.mem_of_getElem? (i := 1) rfl)) (hw _ (List.mem_of_getElem? (i := 2) rfl)) (hw _ (List.mem_of_getElem? (i := 3) rfl)) (hw _ (List.mem_of_getElem? (i := 4) rfl)) (by decide) (lenOf pd_6 rfl) at_40 (pc' := 43) rfl (argsL := [(.int ((x1.toUInt32 >>> ((11 : Int32) &&& 31).toUInt32).toInt32))]) (rest := [(.int (3 : Int32)), (.ref a2)]) rfl rfl (by decide) (wt := 2) rfl (by decide) (by decide) (by decide) ?_
  rintro T _ _ W ⟨y3, rfl, rfl, hy3⟩
  show Go p e below s n0 (Q_c0 Z n0 h0 x0 x1 x2 x3) 40 320 T (mkF m 43 #[.val (.int x0), .val (.int x1), .val (.int x2), .val (.int x3), .val (.ref a2), .unset, .unset, .unset, .unset, .unset, .unset, .unset, .unset, .unset, .unset, .unset, .unset, .unset, .unset, .unset, .unset, .unset, .unset, .unset, .unset, .unset, .unset, .unset, .unset, .unset, .unset, .unset, .unset, .unset, .unset, .unset, .unset, .unset] [(.long y3), (.int (3 : Int32)), (.ref a2)])
  refine g_lastore K W A_a2 (k := 3) rfl (by decide) ge_a2 at_43 (pc' := 44) rfl (fun T h W w A_a2 => ?_)
  refine g_aload K W at_44 rfl rfl (pc' := 46) rfl ?_
  refine g_iconst K W (v := (4 : Int32)) at_46 rfl (pc' := 47) rfl ?_
  refine g_iloadN K W at_47 rfl (pc' := 48) rfl ?_
  refine g_callS (c_given l Z a0 hw n0 _ W.sz x2) K W (hw _ (List.mem_of_getElem? (i := 1) rfl)) (hw _ (List.mem_of_getElem? (i := 2) rfl)) (hw _ (List.mem_of_getElem? (i := 3) rfl)) (hw _ (List.mem_of_getElem? (i := 4) rfl)) (by decide) (lenOf pd_6 rfl) at_48 (pc' := 51) rfl (argsL := [(.int x2)]) (rest := [(.int (4 : Int32)), (.ref a2)]) rfl rfl (by decide) (wt := 2) rfl (by decide) (by decide) (by decide) ?_
  rintro T _ _ W ⟨y4, rfl, rfl, hy4⟩
  show Go p e below s n0 (Q_c0 Z n0 h0 x0 x1 x2 x3) 40 320 T (mkF m 51 #[.val (.int x0), .val (.int x1), .val (.int x2), .val (.int x3), .val (.ref a2), .unset, .unset, .unset, .unset, .unset, .unset, .unset, .unset, .unset, .unset, .unset, .unset, .unset, .unset, .unset, .unset, .unset, .unset, .unset, .unset, .unset, .unset, .unset, .unset, .unset, .unset, .unset, .unset, .unset, .unset, .unset, .unset, .unset] [(.long y4), (.int (4 : Int32)), (.ref a2)])
  refine g_lastore K W A_a2 (k := 4) rfl (by decide) ge_a2 at_51 (pc' := 52) rfl (fun T h W w A_a2 => ?_)
  refine g_aload K W at_52 rfl rfl (pc' := 54) rfl ?_
  refine g_iconst K W (v := (5 : Int32)) at_54 rfl (pc' := 55) rfl ?_
  refine g_iloadN K W at_55 rfl (pc' := 56) rfl ?_
  refine g_bipush K W (v := (11 : Int32)) at_56 rfl (pc' := 58) rfl ?_
  refine g_iushr K W at_58 (pc' := 59) rfl ?_
  refine g_callS (c_given l Z a0 hw n0 _ W.sz ((x2.toUInt32 >>> ((11 : Int32) &&& 31).toUInt32).toInt32)) K W (hw _ (List.mem_of_getElem? (i := 1) rfl)) (hw _ (List.mem_of_getElem? (i := 2) rfl)) (hw _ (List.mem_of_getElem? (i := 3) rfl)) (hw _ (List.mem_of_getElem? (i := 4) rfl)) (by decide) (lenOf pd_6 rfl) at_59 (pc' := 62) rfl (argsL := [(.int ((x2.toUInt32 >>> ((11 : Int32) &&& 31).toUInt32).toInt32))]) (rest := [(.int (5 : Int32)), (.ref a2)]) rfl rfl (by decide) (wt := 2) rfl (by decide) (by decide) (by decide) ?_
  rintro T _ _ W ⟨y5, rfl, rfl, hy5⟩
  show Go p e below s n0 (Q_c0 Z n0 h0 x0 x1 x2 x3) 40 320 T (mkF m 62 #[.val (.int x0), .val (.int x1), .val (.int x2), .val (.int x3), .val (.ref a2), .unset, .unset, .unset, .unset, .unset, .unset, .unset, .unset, .unset, .unset, .unset, .unset, .unset, .unset, .unset, .unset, .unset, .unset, .unset, .unset, .unset, .unset, .unset, .unset, .unset, .unset, .unset, .unset, .unset, .unset, .unset, .unset, .unset] [(.long y5), (.int (5 : Int32)), (.ref a2)])
  refine g_lastore K W A_a2 (k := 5) rfl (by decide) ge_a2 at_62 (pc' := 63) rfl (fun T h W w A_a2 => ?_)
  refine g_iconst K W (v := (4 : Int32)) at_63 rfl (pc' := 64) rfl ?_
  refine g_iloadN K W at_64 rfl (pc' := 65) rfl ?_
  refine g_iconst K W (v := (3 : Int32)) at_65 rfl (pc' := 66) rfl ?_
  refine g_iushr K W at_66 (pc' := 67) rfl ?_
  refine g_iconst K W (v := (1 : Int32)) at_67 rfl (pc' := 68) rfl ?_
  refine g_iand K W at_68 (pc' := 69) rfl ?_
  refine g_iadd K W at_69 (pc' := 70) rfl ?_
  obtain ⟨nn, hnn, enn⟩ := own_n2 x3
  rw [enn]
  have hnn5 : nn ≤ 5 := by omega
  refine g_istore K W at_70 (Ls' := #[.val (.int x0), .val (.int x1), .val (.int x2), .val (.int x3), .val (.ref a2), .val (.int (Int32.ofNat nn)), .unset, .unset, .unset, .unset, .unset, .unset, .unset, .unset, .unset, .unset, .unset, .unset, .unset, .unset, .unset, .unset, .unset, .unset, .unset, .unset, .unset, .unset, .unset, .unset, .unset, .unset, .unset, .unset, .unset, .unset, .unset, .unset]) rfl (pc' := 72) rfl ?_
  refine g_iloadN K W at_72 rfl (pc' := 73) rfl ?_
  refine g_bipush K W (v := (7 : Int32)) at_73 rfl (pc' := 75) rfl ?_
  refine g_iand K W at_75 (pc' := 76) rfl ?_
  refine g_iload K W at_76 rfl (pc' := 78) rfl ?_
  refine g_irem K W (own_nz hnn) at_78 (pc' := 79) rfl ?_
  obtain ⟨st, hst, est⟩ := own_st x3 hnn
  rw [est]
  refine g_istore K W at_79 (Ls' := #[.val (.int x0), .val (.int x1), .val (.int x2), .val (.int x3), .val (.ref a2), .val (.int (Int32.ofNat nn)), .val (.int (Int32.ofNat st)), .unset, .unset, .unset, .unset, .unset, .unset, .unset, .unset, .unset, .unset, .unset, .unset, .unset, .unset, .unset, .unset, .unset, .unset, .unset, .unset, .unset, .unset, .unset, .unset, .unset, .unset, .unset, .unset, .unset, .unset, .unset]) rfl (pc' := 81) rfl ?_
  refine g_iloadN K W at_81 rfl (pc' := 82) rfl ?_
  refine g_iconst K W (v := (4 : Int32)) at_82 rfl (pc' := 83) rfl ?_
  refine g_iushr K W at_83 (pc' := 84) rfl ?_
  refine g_iconst K W (v := (1 : Int32)) at_84 rfl (pc' := 85) rfl ?_
  refine g_iand K W at_85 (pc' := 86) rfl ?_
  have hJa : ∀ mi : Int32, mi = 0 ∨ mi = 1 → Go p e below s n0 (Q_c0 Z n0 h0 x0 x1 x2 x3) 40 320 T (mkF m 94 #[.val (.int x0), .val (.int x1), .val (.int x2), .val (.int x3), .val (.ref a2), .val (.int (Int32.ofNat nn)), .val (.int (Int32.ofNat st)), .unset, .unset, .unset, .unset, .unset, .unset, .unset, .unset, .unset, .unset, .unset, .unset, .unset, .unset, .unset, .unset, .unset, .unset, .unset, .unset, .unset, .unset, .unset, .unset, .unset, .unset, .unset, .unset, .unset, .unset, .unset] [(.int mi)]) := by
    intro mi hJa_mi
    refine g_istore K W at_94 (Ls' := #[.val (.int x0), .val (.int x1), .val (.int x2), .val (.int x3), .val (.ref a2), .val (.int (Int32.ofNat nn)), .val (.int (Int32.ofNat st)), .val (.int mi), .unset, .unset, .unset, .unset, .unset, .unset, .unset, .unset, .unset, .unset, .unset, .unset, .unset, .unset, .unset, .unset, .unset, .unset, .unset, .unset, .unset, .unset, .unset, .unset, .unset, .unset, .unset, .unset, .unset, .unset]) rfl (pc' := 96) rfl ?_
    refine g_iloadN K W at_96 rfl (pc' := 97) rfl ?_
    refine g_iconst K W (v := (5 : Int32)) at_97 rfl (pc' := 98) rfl ?_
    refine g_iushr K W at_98 (pc' := 99) rfl ?_
    refine g_iconst K W (v := (1 : Int32)) at_99 rfl (pc' := 100) rfl ?_
    refine g_iand K W at_100 (pc' := 101) rfl ?_
    have hJb : ∀ bw : Int32, bw = 0 ∨ bw = 1 → Go p e below s n0 (Q_c0 Z n0 h0 x0 x1 x2 x3) 40 320 T (mkF m 109 #[.val (.int x0), .val (.int x1), .val (.int x2), .val (.int x3), .val (.ref a2), .val (.int (Int32.ofNat nn)), .val (.int (Int32.ofNat st)), .val (.int mi), .unset, .unset, .unset, .unset, .unset, .unset, .unset, .unset, .unset, .unset, .unset, .unset, .unset, .unset, .unset, .unset, .unset, .unset, .unset, .unset, .unset, .unset, .unset, .unset, .unset, .unset, .unset, .unset, .unset, .unset] [(.int bw)]) := by
      intro bw hJb_bw
      refine g_istore K W at_109 (Ls' := #[.val (.int x0), .val (.int x1), .val (.int x2), .val (.int x3), .val (.ref a2), .val (.int (Int32.ofNat nn)), .val (.int (Int32.ofNat st)), .val (.int mi), .val (.int bw), .unset, .unset, .unset, .unset, .unset, .unset, .unset, .unset, .unset, .unset, .unset, .unset, .unset, .unset, .unset, .unset, .unset, .unset, .unset, .unset, .unset, .unset, .unset, .unset, .unset, .unset, .unset, .unset, .unset]) rfl (pc' := 111) rfl ?_
      refine g_iconst K W (v := (5 : Int32)) at_111 rfl (pc' := 112) rfl ?_
      refine g_newI K W (ty := .int) (n := 5) (cap := 5) (hw _ (List.mem_of_getElem? (i := 5) rfl)) rfl rfl rfl (Nat.le_refl _) at_112 (pc' := 114) rfl (by decide) (by decide) (by decide) (fun T h a112 W E ha_a112 ge_a112 A_a112 => ?_)
      have ne_a2_a112 : a2 ≠ a112 := fun q => by have r := A_a2.lt; rw [q, ha_a112] at r; exact Nat.lt_irrefl _ r
      have ne_a112_a2 : a112 ≠ a2 := Ne.symm ne_a2_a112
      have A_a2 := A_a2.ext E
      refine g_astore K W at_114 rfl (Ls' := #[.val (.int x0), .val (.int x1), .val (.int x2), .val (.int x3), .val (.ref a2), .val (.int (Int32.ofNat nn)), .val (.int (Int32.ofNat st)), .val (.int mi), .val (.int bw), .val (.ref a112), .unset, .unset, .unset, .unset, .unset, .unset, .unset, .unset, .unset, .unset, .unset, .unset, .unset, .unset, .unset, .unset, .unset, .unset, .unset, .unset, .unset, .unset, .unset, .unset, .unset, .unset, .unset, .unset]) rfl (pc' := 116) rfl ?_
      refine g_aload K W at_116 rfl rfl (pc' := 118) rfl ?_
      refine g_iconst K W (v := (0 : Int32)) at_118 rfl (pc' := 119) rfl ?_
      refine g_iconst K W (v := (0 : Int32)) at_119 rfl (pc' := 120) rfl ?_
      refine g_iload K W at_120 rfl (pc' := 122) rfl ?_
      refine g_iload K W at_122 rfl (pc' := 124) rfl ?_
      refine g_iload K W at_124 rfl (pc' := 126) rfl ?_
      refine g_callS (c_place l Z a0 hw n0 _ W.sz (0 : Int32) (Int32.ofNat st) (Int32.ofNat nn) mi 0 st nn rfl (by decide) rfl hst rfl hnn) K W (hw _ (List.mem_of_getElem? (i := 6) rfl)) (hw _ (List.mem_of_getElem? (i := 7) rfl)) (hw _ (List.mem_of_getElem? (i := 3) rfl)) (hw _ (List.mem_of_getElem? (i := 8) rfl)) (by decide) (lenOf pd_7 rfl) at_126 (pc' := 129) rfl (argsL := [(.int (0 : Int32)), (.int (Int32.ofNat st)), (.int (Int32.ofNat nn)), (.int mi)]) (rest := [(.int (0 : Int32)), (.ref a112)]) rfl rfl (by decide) (wt := 2) rfl (by decide) (by decide) (by decide) ?_
      rintro T _ _ W ⟨p0, rfl, rfl, ep0⟩
      show Go p e below s n0 (Q_c0 Z n0 h0 x0 x1 x2 x3) 40 320 T (mkF m 129 #[.val (.int x0), .val (.int x1), .val (.int x2), .val (.int x3), .val (.ref a2), .val (.int (Int32.ofNat nn)), .val (.int (Int32.ofNat st)), .val (.int mi), .val (.int bw), .val (.ref a112), .unset, .unset, .unset, .unset, .unset, .unset, .unset, .unset, .unset, .unset, .unset, .unset, .unset, .unset, .unset, .unset, .unset, .unset, .unset, .unset, .unset, .unset, .unset, .unset, .unset, .unset, .unset, .unset] [(.int (Int32.ofNat p0)), (.int (0 : Int32)), (.ref a112)])
      refine g_iastore K W A_a112 (k := 0) rfl (by decide) ge_a112 at_129 (pc' := 130) rfl (fun T h W w A_a112 => ?_)
      have A_a2 := A_a2.other w ne_a2_a112
      refine g_aload K W at_130 rfl rfl (pc' := 132) rfl ?_
      refine g_iconst K W (v := (1 : Int32)) at_132 rfl (pc' := 133) rfl ?_
      refine g_iconst K W (v := (1 : Int32)) at_133 rfl (pc' := 134) rfl ?_
      refine g_iload K W at_134 rfl (pc' := 136) rfl ?_
      refine g_iload K W at_136 rfl (pc' := 138) rfl ?_
      refine g_iload K W at_138 rfl (pc' := 140) rfl ?_
      refine g_callS (c_place l Z a0 hw n0 _ W.sz (1 : Int32) (Int32.ofNat st) (Int32.ofNat nn) mi 1 st nn rfl (by decide) rfl hst rfl hnn) K W (hw _ (List.mem_of_getElem? (i := 6) rfl)) (hw _ (List.mem_of_getElem? (i := 7) rfl)) (hw _ (List.mem_of_getElem? (i := 3) rfl)) (hw _ (List.mem_of_getElem? (i := 8) rfl)) (by decide) (lenOf pd_7 rfl) at_140 (pc' := 143) rfl (argsL := [(.int (1 : Int32)), (.int (Int32.ofNat st)), (.int (Int32.ofNat nn)), (.int mi)]) (rest := [(.int (1 : Int32)), (.ref a112)]) rfl rfl (by decide) (wt := 2) rfl (by decide) (by decide) (by decide) ?_
      rintro T _ _ W ⟨p1, rfl, rfl, ep1⟩
      show Go p e below s n0 (Q_c0 Z n0 h0 x0 x1 x2 x3) 40 320 T (mkF m 143 #[.val (.int x0), .val (.int x1), .val (.int x2), .val (.int x3), .val (.ref a2), .val (.int (Int32.ofNat nn)), .val (.int (Int32.ofNat st)), .val (.int mi), .val (.int bw), .val (.ref a112), .unset, .unset, .unset, .unset, .unset, .unset, .unset, .unset, .unset, .unset, .unset, .unset, .unset, .unset, .unset, .unset, .unset, .unset, .unset, .unset, .unset, .unset, .unset, .unset, .unset, .unset, .unset, .unset] [(.int (Int32.ofNat p1)), (.int (1 : Int32)), (.ref a112)])
      refine g_iastore K W A_a112 (k := 1) rfl (by decide) ge_a112 at_143 (pc' := 144) rfl (fun T h W w A_a112 => ?_)
      have A_a2 := A_a2.other w ne_a2_a112
      refine g_aload K W at_144 rfl rfl (pc' := 146) rfl ?_
      refine g_iconst K W (v := (2 : Int32)) at_146 rfl (pc' := 147) rfl ?_
      refine g_iconst K W (v := (2 : Int32)) at_147 rfl (pc' := 148) rfl ?_
      refine g_iload K W at_148 rfl (pc' := 150) rfl ?_
      refine g_iload K W at_150 rfl (pc' := 152) rfl ?_
      refine g_iload K W at_152 rfl (pc' := 154) rfl ?_
      refine g_callS (c_place l Z a0 hw n0 _ W.sz (2 : Int32) (Int32.ofNat st) (Int32.ofNat nn) mi 2 st nn rfl (by decide) rfl hst rfl hnn) K W (hw _ (List.mem_of_getElem? (i := 6) rfl)) (hw _ (List.mem_of_getElem? (i := 7) rfl)) (hw _ (List.mem_of_getElem? (i := 3) rfl)) (hw _ (List.mem_of_getElem? (i := 8) rfl)) (by decide) (lenOf pd_7 rfl) at_154 (pc' := 157) rfl (argsL := [(.int (2 : Int32)), (.int (Int32.ofNat st)), (.int (Int32.ofNat nn)), (.int mi)]) (rest := [(.int (2 : Int32)), (.ref a112)]) rfl rfl (by decide) (wt := 2) rfl (by decide) (by decide) (by decide) ?_
      rintro T _ _ W ⟨p2, rfl, rfl, ep2⟩
      show Go p e below s n0 (Q_c0 Z n0 h0 x0 x1 x2 x3) 40 320 T (mkF m 157 #[.val (.int x0), .val (.int x1), .val (.int x2), .val (.int x3), .val (.ref a2), .val (.int (Int32.ofNat nn)), .val (.int (Int32.ofNat st)), .val (.int mi), .val (.int bw), .val (.ref a112), .unset, .unset, .unset, .unset, .unset, .unset, .unset, .unset, .unset, .unset, .unset, .unset, .unset, .unset, .unset, .unset, .unset, .unset, .unset, .unset, .unset, .unset, .unset, .unset, .unset, .unset, .unset, .unset] [(.int (Int32.ofNat p2)), (.int (2 : Int32)), (.ref a112)])
      refine g_iastore K W A_a112 (k := 2) rfl (by decide) ge_a112 at_157 (pc' := 158) rfl (fun T h W w A_a112 => ?_)
      have A_a2 := A_a2.other w ne_a2_a112
      refine g_aload K W at_158 rfl rfl (pc' := 160) rfl ?_
      refine g_iconst K W (v := (3 : Int32)) at_160 rfl (pc' := 161) rfl ?_
      refine g_iconst K W (v := (3 : Int32)) at_161 rfl (pc' := 162) rfl ?_
      refine g_iload K W at_162 rfl (pc' := 164) rfl ?_
      refine g_iload K W at_164 rfl (pc' := 166) rfl ?_
      refine g_iload K W at_166 rfl (pc' := 168) rfl ?_
      refine g_callS (c_place l Z a0 hw n0 _ W.sz (3 : Int32) (Int32.ofNat st) (Int32.ofNat nn) mi 3 st nn rfl (by decide) rfl hst rfl hnn) K W (hw _ (List.mem_of_getElem? (i := 6) rfl)) (hw _ (List.mem_of_getElem? (i := 7) rfl)) (hw _ (List.mem_of_getElem? (i := 3) rfl)) (hw _ (List.mem_of_getElem? (i := 8) rfl)) (by decide) (lenOf pd_7 rfl) at_168 (pc' := 171) rfl (argsL := [(.int (3 : Int32)), (.int (Int32.ofNat st)), (.int (Int32.ofNat nn)), (.int mi)]) (rest := [(.int (3 : Int32)), (.ref a112)]) rfl rfl (by decide) (wt := 2) rfl (by decide) (by decide) (by decide) ?_
      rintro T _ _ W ⟨p3, rfl, rfl, ep3⟩
      show Go p e below s n0 (Q_c0 Z n0 h0 x0 x1 x2 x3) 40 320 T (mkF m 171 #[.val (.int x0), .val (.int x1), .val (.int x2), .val (.int x3), .val (.ref a2), .val (.int (Int32.ofNat nn)), .val (.int (Int32.ofNat st)), .val (.int mi), .val (.int bw), .val (.ref a112), .unset, .unset, .unset, .unset, .unset, .unset, .unset, .unset, .unset, .unset, .unset, .unset, .unset, .unset, .unset, .unset, .unset, .unset, .unset, .unset, .unset, .unset, .unset, .unset, .unset, .unset, .unset, .unset] [(.int (Int32.ofNat p3)), (.int (3 : Int32)), (.ref a112)])
      refine g_iastore K W A_a112 (k := 3) rfl (by decide) ge_a112 at_171 (pc' := 172) rfl (fun T h W w A_a112 => ?_)
      have A_a2 := A_a2.other w ne_a2_a112
      refine g_aload K W at_172 rfl rfl (pc' := 174) rfl ?_
      refine g_iconst K W (v := (4 : Int32)) at_174 rfl (pc' := 175) rfl ?_
      refine g_iconst K W (v := (4 : Int32)) at_175 rfl (pc' := 176) rfl ?_
      refine g_iload K W at_176 rfl (pc' := 178) rfl ?_
      refine g_iload K W at_178 rfl (pc' := 180) rfl ?_
      refine g_iload K W at_180 rfl (pc' := 182) rfl ?_
      refine g_callS (c_place l Z a0 hw n0 _ W.sz (4 : Int32) (Int32.ofNat st) (Int32.ofNat nn) mi 4 st nn rfl (by decide) rfl hst rfl hnn) K W (hw _ (List.mem_of_getElem? (i := 6) rfl)) (hw _ (List.mem_of_getElem? (i := 7) rfl)) (hw _ (List.mem_of_getElem? (i := 3) rfl)) (hw _ (List.mem_of_getElem? (i := 8) rfl)) (by decide) (lenOf pd_7 rfl) at_182 (pc' := 185) rfl (argsL := [(.int (4 : Int32)), (.int (Int32.ofNat st)), (.int (Int32.ofNat nn)), (.int mi)]) (rest := [(.int (4 : Int32)), (.ref a112)]) rfl rfl (by decide) (wt := 2) rfl (by decide) (by decide) (by decide) ?_
      rintro T _ _ W ⟨p4, rfl, rfl, ep4⟩
      show Go p e below s n0 (Q_c0 Z n0 h0 x0 x1 x2 x3) 40 320 T (mkF m 185 #[.val (.int x0), .val (.int x1), .val (.int x2), .val (.int x3), .val (.ref a2), .val (.int (Int32.ofNat nn)), .val (.int (Int32.ofNat st)), .val (.int mi), .val (.int bw), .val (.ref a112), .unset, .unset, .unset, .unset, .unset, .unset, .unset, .unset, .unset, .unset, .unset, .unset, .unset, .unset, .unset, .unset, .unset, .unset, .unset, .unset, .unset, .unset, .unset, .unset, .unset, .unset, .unset, .unset] [(.int (Int32.ofNat p4)), (.int (4 : Int32)), (.ref a112)])
      refine g_iastore K W A_a112 (k := 4) rfl (by decide) ge_a112 at_185 (pc' := 186) rfl (fun T h W w A_a112 => ?_)
      have A_a2 := A_a2.other w ne_a2_a112
      refine g_bipush K W (v := (6 : Int32)) at_186 rfl (pc' := 188) rfl ?_
      refine g_newI K W (ty := .int) (n := 6) (cap := 6) (hw _ (List.mem_of_getElem? (i := 5) rfl)) rfl rfl rfl (Nat.le_refl _) at_188 (pc' := 190) rfl (by decide) (by decide) (by decide) (fun T h a188 W E ha_a188 ge_a188 A_a188 => ?_)
      have ne_a2_a188 : a2 ≠ a188 := fun q => by have r := A_a2.lt; rw [q, ha_a188] at r; exact Nat.lt_irrefl _ r
      have ne_a188_a2 : a188 ≠ a2 := Ne.symm ne_a2_a188
      have ne_a112_a188 : a112 ≠ a188 := fun q => by have r := A_a112.lt; rw [q, ha_a188] at r; exact Nat.lt_irrefl _ r
      have ne_a188_a112 : a188 ≠ a112 := Ne.symm ne_a112_a188
      have A_a2 := A_a2.ext E
      have A_a112 := A_a112.ext E
      refine g_dup K W at_190 rfl (pc' := 191) rfl ?_
      refine g_iconst K W (v := (0 : Int32)) at_191 rfl (pc' := 192) rfl ?_
      refine g_iconst K W (v := (0 : Int32)) at_192 rfl (pc' := 193) rfl ?_
      refine g_iastore K W A_a188 (k := 0) rfl (by decide) ge_a188 at_193 (pc' := 194) rfl (fun T h W w A_a188 => ?_)
      have A_a2 := A_a2.other w ne_a2_a188
      have A_a112 := A_a112.other w ne_a112_a188
      refine g_dup K W at_194 rfl (pc' := 195) rfl ?_
      refine g_iconst K W (v := (1 : Int32)) at_195 rfl (pc' := 196) rfl ?_
      refine g_iconst K W (v := (0 : Int32)) at_196 rfl (pc' := 197) rfl ?_
      refine g_iastore K W A_a188 (k := 1) rfl (by decide) ge_a188 at_197 (pc' := 198) rfl (fun T h W w A_a188 => ?_)
      have A_a2 := A_a2.other w ne_a2_a188
      have A_a112 := A_a112.other w ne_a112_a188
      refine g_dup K W at_198 rfl (pc' := 199) rfl ?_
      refine g_iconst K W (v := (2 : Int32)) at_199 rfl (pc' := 200) rfl ?_
      refine g_iconst K W (v := (1 : Int32)) at_200 rfl (pc' := 201) rfl ?_
      refine g_iastore K W A_a188 (k := 2) rfl (by decide) ge_a188 at_201 (pc' := 202) rfl (fun T h W w A_a188 => ?_)
      have A_a2 := A_a2.other w ne_a2_a188
      have A_a112 := A_a112.other w ne_a112_a188
      refine g_dup K W at_202 rfl (pc' := 203) rfl ?_
      refine g_iconst K W (v := (3 : Int32)) at_203 rfl (pc' := 204) rfl ?_
      refine g_iconst K W (v := (2 : Int32)) at_204 rfl (pc' := 205) rfl ?_
      refine g_iastore K W A_a188 (k := 3) rfl (by decide) ge_a188 at_205 (pc' := 206) rfl (fun T h W w A_a188 => ?_)
      have A_a2 := A_a2.other w ne_a2_a188
      have A_a112 := A_a112.other w ne_a112_a188
      refine g_dup K W at_206 rfl (pc' := 207) rfl ?_
      refine g_iconst K W (v := (4 : Int32)) at_207 rfl (pc' := 208) rfl ?_
      refine g_iconst K W (v := (1 : Int32)) at_208 rfl (pc' := 209) rfl ?_
      refine g_iastore K W A_a188 (k := 4) rfl (by decide) ge_a188 at_209 (pc' := 210) rfl (fun T h W w A_a188 => ?_)
      have A_a2 := A_a2.other w ne_a2_a188
      have A_a112 := A_a112.other w ne_a112_a188
      refine g_dup K W at_210 rfl (pc' := 211) rfl ?_
      refine g_iconst K W (v := (5 : Int32)) at_211 rfl (pc' := 212) rfl ?_
      refine g_iconst K W (v := (2 : Int32)) at_212 rfl (pc' := 213) rfl ?_
      refine g_iastore K W A_a188 (k := 5) rfl (by decide) ge_a188 at_213 (pc' := 214) rfl (fun T h W w A_a188 => ?_)
      have A_a2 := A_a2.other w ne_a2_a188
      have A_a112 := A_a112.other w ne_a112_a188
      refine g_astore K W at_214 rfl (Ls' := #[.val (.int x0), .val (.int x1), .val (.int x2), .val (.int x3), .val (.ref a2), .val (.int (Int32.ofNat nn)), .val (.int (Int32.ofNat st)), .val (.int mi), .val (.int bw), .val (.ref a112), .val (.ref a188), .unset, .unset, .unset, .unset, .unset, .unset, .unset, .unset, .unset, .unset, .unset, .unset, .unset, .unset, .unset, .unset, .unset, .unset, .unset, .unset, .unset, .unset, .unset, .unset, .unset, .unset, .unset]) rfl (pc' := 216) rfl ?_
      refine g_bipush K W (v := (6 : Int32)) at_216 rfl (pc' := 218) rfl ?_
      refine g_newI K W (ty := .int) (n := 6) (cap := 6) (hw _ (List.mem_of_getElem? (i := 5) rfl)) rfl rfl rfl (Nat.le_refl _) at_218 (pc' := 220) rfl (by decide) (by decide) (by decide) (fun T h a218 W E ha_a218 ge_a218 A_a218 => ?_)
      have ne_a2_a218 : a2 ≠ a218 := fun q => by have r := A_a2.lt; rw [q, ha_a218] at r; exact Nat.lt_irrefl _ r
      have ne_a218_a2 : a218 ≠ a2 := Ne.symm ne_a2_a218
      have ne_a112_a218 : a112 ≠ a218 := fun q => by have r := A_a112.lt; rw [q, ha_a218] at r; exact Nat.lt_irrefl _ r
      have ne_a218_a112 : a218 ≠ a112 := Ne.symm ne_a112_a218
      have ne_a188_a218 : a188 ≠ a218 := fun q => by have r := A_a188.lt; rw [q, ha_a218] at r; exact Nat.lt_irrefl _ r
      have ne_a218_a188 : a218 ≠ a188 := Ne.symm ne_a188_a218
      have A_a2 := A_a2.ext E
      have A_a112 := A_a112.ext E
      have A_a188 := A_a188.ext E
      refine g_dup K W at_220 rfl (pc' := 221) rfl ?_
      refine g_iconst K W (v := (0 : Int32)) at_221 rfl (pc' := 222) rfl ?_
      refine g_iconst K W (v := (1 : Int32)) at_222 rfl (pc' := 223) rfl ?_
      refine g_iastore K W A_a218 (k := 0) rfl (by decide) ge_a218 at_223 (pc' := 224) rfl (fun T h W w A_a218 => ?_)
      have A_a2 := A_a2.other w ne_a2_a218
      have A_a112 := A_a112.other w ne_a112_a218
      have A_a188 := A_a188.other w ne_a188_a218
      refine g_dup K W at_224 rfl (pc' := 225) rfl ?_
      refine g_iconst K W (v := (1 : Int32)) at_225 rfl (pc' := 226) rfl ?_
      refine g_iconst K W (v := (2 : Int32)) at_226 rfl (pc' := 227) rfl ?_
      refine g_iastore K W A_a218 (k := 1) rfl (by decide) ge_a218 at_227 (pc' := 228) rfl (fun T h W w A_a218 => ?_)
      have A_a2 := A_a2.other w ne_a2_a218
      have A_a112 := A_a112.other w ne_a112_a218
      have A_a188 := A_a188.other w ne_a188_a218
      refine g_dup K W at_228 rfl (pc' := 229) rfl ?_
      refine g_iconst K W (v := (2 : Int32)) at_229 rfl (pc' := 230) rfl ?_
      refine g_iconst K W (v := (2 : Int32)) at_230 rfl (pc' := 231) rfl ?_
      refine g_iastore K W A_a218 (k := 2) rfl (by decide) ge_a218 at_231 (pc' := 232) rfl (fun T h W w A_a218 => ?_)
      have A_a2 := A_a2.other w ne_a2_a218
      have A_a112 := A_a112.other w ne_a112_a218
      have A_a188 := A_a188.other w ne_a188_a218
      refine g_dup K W at_232 rfl (pc' := 233) rfl ?_
      refine g_iconst K W (v := (3 : Int32)) at_233 rfl (pc' := 234) rfl ?_
      refine g_iconst K W (v := (1 : Int32)) at_234 rfl (pc' := 235) rfl ?_
      refine g_iastore K W A_a218 (k := 3) rfl (by decide) ge_a218 at_235 (pc' := 236) rfl (fun T h W w A_a218 => ?_)
      have A_a2 := A_a2.other w ne_a2_a218
      have A_a112 := A_a112.other w ne_a112_a218
      have A_a188 := A_a188.other w ne_a188_a218
      refine g_dup K W at_236 rfl (pc' := 237) rfl ?_
      refine g_iconst K W (v := (4 : Int32)) at_237 rfl (pc' := 238) rfl ?_
      refine g_iconst K W (v := (3 : Int32)) at_238 rfl (pc' := 239) rfl ?_
      refine g_iastore K W A_a218 (k := 4) rfl (by decide) ge_a218 at_239 (pc' := 240) rfl (fun T h W w A_a218 => ?_)
      have A_a2 := A_a2.other w ne_a2_a218
      have A_a112 := A_a112.other w ne_a112_a218
      have A_a188 := A_a188.other w ne_a188_a218
      refine g_dup K W at_240 rfl (pc' := 241) rfl ?_
      refine g_iconst K W (v := (5 : Int32)) at_241 rfl (pc' := 242) rfl ?_
      refine g_iconst K W (v := (3 : Int32)) at_242 rfl (pc' := 243) rfl ?_
      refine g_iastore K W A_a218 (k := 5) rfl (by decide) ge_a218 at_243 (pc' := 244) rfl (fun T h W w A_a218 => ?_)
      have A_a2 := A_a2.other w ne_a2_a218
      have A_a112 := A_a112.other w ne_a112_a218
      have A_a188 := A_a188.other w ne_a188_a218
      refine g_astore K W at_244 rfl (Ls' := #[.val (.int x0), .val (.int x1), .val (.int x2), .val (.int x3), .val (.ref a2), .val (.int (Int32.ofNat nn)), .val (.int (Int32.ofNat st)), .val (.int mi), .val (.int bw), .val (.ref a112), .val (.ref a188), .val (.ref a218), .unset, .unset, .unset, .unset, .unset, .unset, .unset, .unset, .unset, .unset, .unset, .unset, .unset, .unset, .unset, .unset, .unset, .unset, .unset, .unset, .unset, .unset, .unset, .unset, .unset, .unset]) rfl (pc' := 246) rfl ?_
      have pls := own_pls (mi := mi) hnn hst
      rw [← ep0, ← ep1, ← ep2, ← ep3, ← ep4] at pls
      obtain ⟨⟨l0, l1, l2, l3, l4⟩, ⟨d01, d02, d03, d12, d13, d23⟩, d4⟩ := pls
      generalize ef_a2 : (upd (upd (upd (upd (upd (upd (fun _ => 0) 0 y0) 1 y1) 2 y2) 3 y3) 4 y4) 5 y5) = f_a2 at A_a2
      generalize ef_a112 : (upd (upd (upd (upd (upd (fun _ => 0) 0 (Int32.ofNat p0)) 1 (Int32.ofNat p1)) 2 (Int32.ofNat p2)) 3 (Int32.ofNat p3)) 4 (Int32.ofNat p4)) = f_a112 at A_a112
      generalize ef_a188 : (upd (upd (upd (upd (upd (upd (fun _ => 0) 0 (0 : Int32)) 1 (0 : Int32)) 2 (1 : Int32)) 3 (2 : Int32)) 4 (1 : Int32)) 5 (2 : Int32)) = f_a188 at A_a188
      generalize ef_a218 : (upd (upd (upd (upd (upd (upd (fun _ => 0) 0 (1 : Int32)) 1 (2 : Int32)) 2 (2 : Int32)) 3 (1 : Int32)) 4 (3 : Int32)) 5 (3 : Int32)) = f_a218 at A_a218
      have eF0 : f_a188 0 = Int32.ofNat 0 := by rw [← ef_a188]; rfl
      have eT0 : f_a218 0 = Int32.ofNat 1 := by rw [← ef_a218]; rfl
      have eC0 : f_a2 0 = y0 := by rw [← ef_a2]; rfl
      have eF1 : f_a188 1 = Int32.ofNat 0 := by rw [← ef_a188]; rfl
      have eT1 : f_a218 1 = Int32.ofNat 2 := by rw [← ef_a218]; rfl
      have eC1 : f_a2 1 = y1 := by rw [← ef_a2]; rfl
      have eF2 : f_a188 2 = Int32.ofNat 1 := by rw [← ef_a188]; rfl
      have eT2 : f_a218 2 = Int32.ofNat 2 := by rw [← ef_a218]; rfl
      have eC2 : f_a2 2 = y2 := by rw [← ef_a2]; rfl
      have eF3 : f_a188 3 = Int32.ofNat 2 := by rw [← ef_a188]; rfl
      have eT3 : f_a218 3 = Int32.ofNat 1 := by rw [← ef_a218]; rfl
      have eC3 : f_a2 3 = y3 := by rw [← ef_a2]; rfl
      have eF4 : f_a188 4 = Int32.ofNat 1 := by rw [← ef_a188]; rfl
      have eT4 : f_a218 4 = Int32.ofNat 3 := by rw [← ef_a218]; rfl
      have eC4 : f_a2 4 = y4 := by rw [← ef_a2]; rfl
      have eF5 : f_a188 5 = Int32.ofNat 2 := by rw [← ef_a188]; rfl
      have eT5 : f_a218 5 = Int32.ofNat 3 := by rw [← ef_a218]; rfl
      have eC5 : f_a2 5 = y5 := by rw [← ef_a2]; rfl
      have eP0 : f_a112 0 = Int32.ofNat p0 := by rw [← ef_a112]; rfl
      have eP1 : f_a112 1 = Int32.ofNat p1 := by rw [← ef_a112]; rfl
      have eP2 : f_a112 2 = Int32.ofNat p2 := by rw [← ef_a112]; rfl
      have eP3 : f_a112 3 = Int32.ofNat p3 := by rw [← ef_a112]; rfl
      have eP4 : f_a112 4 = Int32.ofNat p4 := by rw [← ef_a112]; rfl
      have hC0 : 0 ≤ (f_a2 0).toInt := by rw [eC0]; exact hy0
      have hC1 : 0 ≤ (f_a2 1).toInt := by rw [eC1]; exact hy1
      have hC2 : 0 ≤ (f_a2 2).toInt := by rw [eC2]; exact hy2
      have hC3 : 0 ≤ (f_a2 3).toInt := by rw [eC3]; exact hy3
      have hC4 : 0 ≤ (f_a2 4).toInt := by rw [eC4]; exact hy4
      have hC5 : 0 ≤ (f_a2 5).toInt := by rw [eC5]; exact hy5
      refine g_new K W (hw _ (List.mem_of_getElem? (i := 9) rfl)) (hw _ (List.mem_of_getElem? (i := 10) rfl)) (hw _ (List.mem_of_getElem? (i := 11) rfl)) at_246 (pc' := 249) rfl (by decide) (by decide) (fun T h a246 W E ha_a246 ge_a246 X_a246 Dn => ?_)
      have ne_a2_a246 : a2 ≠ a246 := fun q => by have r := A_a2.lt; rw [q, ha_a246] at r; exact Nat.lt_irrefl _ r
      have ne_a246_a2 : a246 ≠ a2 := Ne.symm ne_a2_a246
      have ne_a112_a246 : a112 ≠ a246 := fun q => by have r := A_a112.lt; rw [q, ha_a246] at r; exact Nat.lt_irrefl _ r
      have ne_a246_a112 : a246 ≠ a112 := Ne.symm ne_a112_a246
      have ne_a188_a246 : a188 ≠ a246 := fun q => by have r := A_a188.lt; rw [q, ha_a246] at r; exact Nat.lt_irrefl _ r
      have ne_a246_a188 : a246 ≠ a188 := Ne.symm ne_a188_a246
      have ne_a218_a246 : a218 ≠ a246 := fun q => by have r := A_a218.lt; rw [q, ha_a246] at r; exact Nat.lt_irrefl _ r
      have ne_a246_a218 : a246 ≠ a218 := Ne.symm ne_a218_a246
      have A_a2 := A_a2.ext E
      have A_a112 := A_a112.ext E
      have A_a188 := A_a188.ext E
      have A_a218 := A_a218.ext E
      have F_a246_heads : Fld Z h a246 "com/example/ichnos/ichnos/planning/ils/MinCut" "heads" "[I" .null := Dn (Or.inl (hw _ (List.mem_of_getElem? (i := 19) rfl))) (ty := (.array .int)) (by decide)
      have F_a246_capacities : Fld Z h a246 "com/example/ichnos/ichnos/planning/ils/MinCut" "capacities" "[J" .null := Dn (Or.inl (hw _ (List.mem_of_getElem? (i := 21) rfl))) (ty := (.array .long)) (by decide)
      have F_a246_nextOut : Fld Z h a246 "com/example/ichnos/ichnos/planning/ils/MinCut" "nextOut" "[I" .null := Dn (Or.inl (hw _ (List.mem_of_getElem? (i := 23) rfl))) (ty := (.array .int)) (by decide)
      have F_a246_nodes : Fld Z h a246 "com/example/ichnos/ichnos/planning/ils/MinCut" "nodes" "I" (.int (0 : Int32)) := Dn (Or.inr (hw _ (List.mem_of_getElem? (i := 25) rfl))) (ty := .int) (by decide)
      have F_a246_firstOut : Fld Z h a246 "com/example/ichnos/ichnos/planning/ils/MinCut" "firstOut" "[I" .null := Dn (Or.inr (hw _ (List.mem_of_getElem? (i := 27) rfl))) (ty := (.array .int)) (by decide)
      have F_a246_edges : Fld Z h a246 "com/example/ichnos/ichnos/planning/ils/MinCut" "edges" "I" (.int (0 : Int32)) := Dn (Or.inl (hw _ (List.mem_of_getElem? (i := 41) rfl))) (ty := .int) (by decide)
      refine g_dup K W at_249 rfl (pc' := 250) rfl ?_
      refine g_iload K W at_250 rfl (pc' := 252) rfl ?_
      refine g_callN (c_init l Z a0 hw n0 _ W.sz a246 (Int32.ofNat nn) nn [a2, a112, a188, a218] X_a246 F_a246_heads F_a246_capacities F_a246_nextOut F_a246_firstOut F_a246_nodes F_a246_edges ge_a246 rfl hnn5 (allS ⟨A_a2.lt, ne_a2_a246⟩ (allS ⟨A_a112.lt, ne_a112_a246⟩ (allS ⟨A_a188.lt, ne_a188_a246⟩ (allS ⟨A_a218.lt, ne_a218_a246⟩ all0))))) K W rfl (hw _ (List.mem_of_getElem? (i := 12) rfl)) (hw _ (List.mem_of_getElem? (i := 13) rfl)) (hw _ (List.mem_of_getElem? (i := 11) rfl)) (hw _ (List.mem_of_getElem? (i := 14) rfl)) (by decide) (lenOf pd_8 rfl) at_252 (pc' := 255) rfl (argsL := [(.int (Int32.ofNat nn))]) (rest := [(.ref a246)]) rfl rfl (by decide) (wt := 1) rfl (by decide) (by decide) (by decide) ?_
      rintro T h _ W ⟨rfl, sm, P⟩
      show Go p e below s n0 (Q_c0 Z n0 h0 x0 x1 x2 x3) 40 320 T (mkF m 255 #[.val (.int x0), .val (.int x1), .val (.int x2), .val (.int x3), .val (.ref a2), .val (.int (Int32.ofNat nn)), .val (.int (Int32.ofNat st)), .val (.int mi), .val (.int bw), .val (.ref a112), .val (.ref a188), .val (.ref a218), .unset, .unset, .unset, .unset, .unset, .unset, .unset, .unset, .unset, .unset, .unset, .unset, .unset, .unset, .unset, .unset, .unset, .unset, .unset, .unset, .unset, .unset, .unset, .unset, .unset, .unset] [(.ref a246)])
      have A_a2 := A_a2.sm sm (by simp)
      have A_a112 := A_a112.sm sm (by simp)
      have A_a188 := A_a188.sm sm (by simp)
      have A_a218 := A_a218.sm sm (by simp)
      have X_a246 := P.1
      refine g_astore K W at_255 rfl (Ls' := #[.val (.int x0), .val (.int x1), .val (.int x2), .val (.int x3), .val (.ref a2), .val (.int (Int32.ofNat nn)), .val (.int (Int32.ofNat st)), .val (.int mi), .val (.int bw), .val (.ref a112), .val (.ref a188), .val (.ref a218), .val (.ref a246), .unset, .unset, .unset, .unset, .unset, .unset, .unset, .unset, .unset, .unset, .unset, .unset, .unset, .unset, .unset, .unset, .unset, .unset, .unset, .unset, .unset, .unset, .unset, .unset, .unset]) rfl (pc' := 257) rfl ?_
      have hJz : ∀ (Kc : (Nat → Bool) → Int) (T : State) (h : Heap), MC Z n0 h a246 nn 6 Kc [a2, a112, a188, a218] → (∀ S, Kc S = K6 p0 p1 p2 p3 (min y0.toInt 2305843009213693951) (min y1.toInt 2305843009213693951) (min y2.toInt 2305843009213693951) (min y3.toInt 2305843009213693951) (min y4.toInt 2305843009213693951) (min y5.toInt 2305843009213693951) S) → AyJ Z h a2 6 f_a2 → AyI Z h a112 .int 5 f_a112 → AyI Z h a188 .int 6 f_a188 → AyI Z h a218 .int 6 f_a218 → Exa Z h a246 "com/example/ichnos/ichnos/planning/ils/MinCut" → Wd p l e room_1 s m args below meth c n0 T h 9 82 → Go p e below s n0 (Q_c0 Z n0 h0 x0 x1 x2 x3) 40 320 T (mkF m 395 #[.val (.int x0), .val (.int x1), .val (.int x2), .val (.int x3), .val (.ref a2), .val (.int (Int32.ofNat nn)), .val (.int (Int32.ofNat st)), .val (.int mi), .val (.int bw), .val (.ref a112), .val (.ref a188), .val (.ref a218), .val (.ref a246), .unset, .unset, .unset, .unset, .unset, .unset, .unset, .unset, .unset, .unset, .unset, .unset, .unset, .unset, .unset, .unset, .unset, .unset, .unset, .unset, .unset, .unset, .unset, .unset, .unset] []) := by
        intro Kc T h P hKs A_a2 A_a112 A_a188 A_a218 X_a246 W
        refine g_aload K W at_395 rfl rfl (pc' := 397) rfl ?_
        refine g_aload K W at_397 rfl rfl (pc' := 399) rfl ?_
        refine g_iconst K W (v := (0 : Int32)) at_399 rfl (pc' := 400) rfl ?_
        refine g_iaload K W A_a112 (k := 0) rfl (by decide) (v := (Int32.ofNat p0)) eP0 at_400 (pc' := 401) rfl ?_
        refine g_aload K W at_401 rfl rfl (pc' := 403) rfl ?_
        refine g_iconst K W (v := (3 : Int32)) at_403 rfl (pc' := 404) rfl ?_
        refine g_iaload K W A_a112 (k := 3) rfl (by decide) (v := (Int32.ofNat p3)) eP3 at_404 (pc' := 405) rfl ?_
        refine g_callV (c_side l Z a0 hw n0 _ W.sz a246 (Int32.ofNat p0) (Int32.ofNat p3) nn 6 p0 p3 Kc [a2, a112, a188, a218] P rfl rfl l0 l3 d03.symm) K W X_a246 (hw _ (List.mem_of_getElem? (i := 51) rfl)) (hw _ (List.mem_of_getElem? (i := 52) rfl)) (hw _ (List.mem_of_getElem? (i := 54) rfl)) (hw _ (List.mem_of_getElem? (i := 54) rfl)) (hw _ (List.mem_of_getElem? (i := 53) rfl)) (hw _ (List.mem_of_getElem? (i := 11) rfl)) (hw _ (List.mem_of_getElem? (i := 55) rfl)) (by decide) (lenOf pd_9 rfl) at_405 (pc' := 408) rfl (argsL := [(.int (Int32.ofNat p0)), (.int (Int32.ofNat p3))]) (rest := []) rfl rfl (by decide) (wt := 0) rfl (by decide) (by decide) (by decide) ?_
        rintro T h _ W (⟨rfl, sm, hnull⟩ | ⟨av, gv, S, F, rfl, sm, A_av, hF, sd, hgv⟩)
        · show Go p e below s n0 (Q_c0 Z n0 h0 x0 x1 x2 x3) 40 320 T (mkF m 408 #[.val (.int x0), .val (.int x1), .val (.int x2), .val (.int x3), .val (.ref a2), .val (.int (Int32.ofNat nn)), .val (.int (Int32.ofNat st)), .val (.int mi), .val (.int bw), .val (.ref a112), .val (.ref a188), .val (.ref a218), .val (.ref a246), .unset, .unset, .unset, .unset, .unset, .unset, .unset, .unset, .unset, .unset, .unset, .unset, .unset, .unset, .unset, .unset, .unset, .unset, .unset, .unset, .unset, .unset, .unset, .unset, .unset] [.null])
          have A_a2 := A_a2.sm sm (by simp)
          have A_a112 := A_a112.sm sm (by simp)
          have A_a188 := A_a188.sm sm (by simp)
          have A_a218 := A_a218.sm sm (by simp)
          refine g_astore K W at_408 rfl (Ls' := #[.val (.int x0), .val (.int x1), .val (.int x2), .val (.int x3), .val (.ref a2), .val (.int (Int32.ofNat nn)), .val (.int (Int32.ofNat st)), .val (.int mi), .val (.int bw), .val (.ref a112), .val (.ref a188), .val (.ref a218), .val (.ref a246), .val .null, .unset, .unset, .unset, .unset, .unset, .unset, .unset, .unset, .unset, .unset, .unset, .unset, .unset, .unset, .unset, .unset, .unset, .unset, .unset, .unset, .unset, .unset, .unset, .unset]) rfl (pc' := 410) rfl ?_
          refine g_aload K W at_410 rfl rfl (pc' := 412) rfl ?_
          refine g_iconst K W (v := (0 : Int32)) at_412 rfl (pc' := 413) rfl ?_
          refine g_laload K W A_a2 (k := 0) rfl (by decide) (v := y0) eC0 at_413 (pc' := 414) rfl ?_
          refine g_callS (c_held l Z a0 hw n0 _ W.sz y0) K W (hw _ (List.mem_of_getElem? (i := 61) rfl)) (hw _ (List.mem_of_getElem? (i := 62) rfl)) (hw _ (List.mem_of_getElem? (i := 3) rfl)) (hw _ (List.mem_of_getElem? (i := 63) rfl)) (by decide) (lenOf pd_10 rfl) at_414 (pc' := 417) rfl (argsL := [(.long y0)]) (rest := []) rfl rfl (by decide) (wt := 0) rfl (by decide) (by decide) (by decide) ?_
          rintro T _ _ W ⟨rfl, rfl⟩
          show Go p e below s n0 (Q_c0 Z n0 h0 x0 x1 x2 x3) 40 320 T (mkF m 417 #[.val (.int x0), .val (.int x1), .val (.int x2), .val (.int x3), .val (.ref a2), .val (.int (Int32.ofNat nn)), .val (.int (Int32.ofNat st)), .val (.int mi), .val (.int bw), .val (.ref a112), .val (.ref a188), .val (.ref a218), .val (.ref a246), .val .null, .unset, .unset, .unset, .unset, .unset, .unset, .unset, .unset, .unset, .unset, .unset, .unset, .unset, .unset, .unset, .unset, .unset, .unset, .unset, .unset, .unset, .unset, .unset, .unset] [(.long (own_minL y0 2305843009213693951))])
          generalize e_v417 : (own_minL y0 2305843009213693951) = v417
          refine g_lstore K W at_417 (Ls' := #[.val (.int x0), .val (.int x1), .val (.int x2), .val (.int x3), .val (.ref a2), .val (.int (Int32.ofNat nn)), .val (.int (Int32.ofNat st)), .val (.int mi), .val (.int bw), .val (.ref a112), .val (.ref a188), .val (.ref a218), .val (.ref a246), .val .null, .val (.long v417), .second, .unset, .unset, .unset, .unset, .unset, .unset, .unset, .unset, .unset, .unset, .unset, .unset, .unset, .unset, .unset, .unset, .unset, .unset, .unset, .unset, .unset, .unset]) rfl (pc' := 419) rfl ?_
          refine g_aload K W at_419 rfl rfl (pc' := 421) rfl ?_
          refine g_iconst K W (v := (1 : Int32)) at_421 rfl (pc' := 422) rfl ?_
          refine g_laload K W A_a2 (k := 1) rfl (by decide) (v := y1) eC1 at_422 (pc' := 423) rfl ?_
          refine g_callS (c_held l Z a0 hw n0 _ W.sz y1) K W (hw _ (List.mem_of_getElem? (i := 61) rfl)) (hw _ (List.mem_of_getElem? (i := 62) rfl)) (hw _ (List.mem_of_getElem? (i := 3) rfl)) (hw _ (List.mem_of_getElem? (i := 63) rfl)) (by decide) (lenOf pd_10 rfl) at_423 (pc' := 426) rfl (argsL := [(.long y1)]) (rest := []) rfl rfl (by decide) (wt := 0) rfl (by decide) (by decide) (by decide) ?_
          rintro T _ _ W ⟨rfl, rfl⟩
          show Go p e below s n0 (Q_c0 Z n0 h0 x0 x1 x2 x3) 40 320 T (mkF m 426 #[.val (.int x0), .val (.int x1), .val (.int x2), .val (.int x3), .val (.ref a2), .val (.int (Int32.ofNat nn)), .val (.int (Int32.ofNat st)), .val (.int mi), .val (.int bw), .val (.ref a112), .val (.ref a188), .val (.ref a218), .val (.ref a246), .val .null, .val (.long v417), .second, .unset, .unset, .unset, .unset, .unset, .unset, .unset, .unset, .unset, .unset, .unset, .unset, .unset, .unset, .unset, .unset, .unset, .unset, .unset, .unset, .unset, .unset] [(.long (own_minL y1 2305843009213693951))])
          generalize e_v426 : (own_minL y1 2305843009213693951) = v426
          refine g_lstore K W at_426 (Ls' := #[.val (.int x0), .val (.int x1), .val (.int x2), .val (.int x3), .val (.ref a2), .val (.int (Int32.ofNat nn)), .val (.int (Int32.ofNat st)), .val (.int mi), .val (.int bw), .val (.ref a112), .val (.ref a188), .val (.ref a218), .val (.ref a246), .val .null, .val (.long v417), .second, .val (.long v426), .second, .unset, .unset, .unset, .unset, .unset, .unset, .unset, .unset, .unset, .unset, .unset, .unset, .unset, .unset, .unset, .unset, .unset, .unset, .unset, .unset]) rfl (pc' := 428) rfl ?_
          refine g_aload K W at_428 rfl rfl (pc' := 430) rfl ?_
          refine g_iconst K W (v := (2 : Int32)) at_430 rfl (pc' := 431) rfl ?_
          refine g_laload K W A_a2 (k := 2) rfl (by decide) (v := y2) eC2 at_431 (pc' := 432) rfl ?_
          refine g_callS (c_held l Z a0 hw n0 _ W.sz y2) K W (hw _ (List.mem_of_getElem? (i := 61) rfl)) (hw _ (List.mem_of_getElem? (i := 62) rfl)) (hw _ (List.mem_of_getElem? (i := 3) rfl)) (hw _ (List.mem_of_getElem? (i := 63) rfl)) (by decide) (lenOf pd_10 rfl) at_432 (pc' := 435) rfl (argsL := [(.long y2)]) (rest := []) rfl rfl (by decide) (wt := 0) rfl (by decide) (by decide) (by decide) ?_
          rintro T _ _ W ⟨rfl, rfl⟩
          show Go p e below s n0 (Q_c0 Z n0 h0 x0 x1 x2 x3) 40 320 T (mkF m 435 #[.val (.int x0), .val (.int x1), .val (.int x2), .val (.int x3), .val (.ref a2), .val (.int (Int32.ofNat nn)), .val (.int (Int32.ofNat st)), .val (.int mi), .val (.int bw), .val (.ref a112), .val (.ref a188), .val (.ref a218), .val (.ref a246), .val .null, .val (.long v417), .second, .val (.long v426), .second, .unset, .unset, .unset, .unset, .unset, .unset, .unset, .unset, .unset, .unset, .unset, .unset, .unset, .unset, .unset, .unset, .unset, .unset, .unset, .unset] [(.long (own_minL y2 2305843009213693951))])
          generalize e_v435 : (own_minL y2 2305843009213693951) = v435
          refine g_lstore K W at_435 (Ls' := #[.val (.int x0), .val (.int x1), .val (.int x2), .val (.int x3), .val (.ref a2), .val (.int (Int32.ofNat nn)), .val (.int (Int32.ofNat st)), .val (.int mi), .val (.int bw), .val (.ref a112), .val (.ref a188), .val (.ref a218), .val (.ref a246), .val .null, .val (.long v417), .second, .val (.long v426), .second, .val (.long v435), .second, .unset, .unset, .unset, .unset, .unset, .unset, .unset, .unset, .unset, .unset, .unset, .unset, .unset, .unset, .unset, .unset, .unset, .unset]) rfl (pc' := 437) rfl ?_
          refine g_aload K W at_437 rfl rfl (pc' := 439) rfl ?_
          refine g_iconst K W (v := (3 : Int32)) at_439 rfl (pc' := 440) rfl ?_
          refine g_laload K W A_a2 (k := 3) rfl (by decide) (v := y3) eC3 at_440 (pc' := 441) rfl ?_
          refine g_callS (c_held l Z a0 hw n0 _ W.sz y3) K W (hw _ (List.mem_of_getElem? (i := 61) rfl)) (hw _ (List.mem_of_getElem? (i := 62) rfl)) (hw _ (List.mem_of_getElem? (i := 3) rfl)) (hw _ (List.mem_of_getElem? (i := 63) rfl)) (by decide) (lenOf pd_10 rfl) at_441 (pc' := 444) rfl (argsL := [(.long y3)]) (rest := []) rfl rfl (by decide) (wt := 0) rfl (by decide) (by decide) (by decide) ?_
          rintro T _ _ W ⟨rfl, rfl⟩
          show Go p e below s n0 (Q_c0 Z n0 h0 x0 x1 x2 x3) 40 320 T (mkF m 444 #[.val (.int x0), .val (.int x1), .val (.int x2), .val (.int x3), .val (.ref a2), .val (.int (Int32.ofNat nn)), .val (.int (Int32.ofNat st)), .val (.int mi), .val (.int bw), .val (.ref a112), .val (.ref a188), .val (.ref a218), .val (.ref a246), .val .null, .val (.long v417), .second, .val (.long v426), .second, .val (.long v435), .second, .unset, .unset, .unset, .unset, .unset, .unset, .unset, .unset, .unset, .unset, .unset, .unset, .unset, .unset, .unset, .unset, .unset, .unset] [(.long (own_minL y3 2305843009213693951))])
          generalize e_v444 : (own_minL y3 2305843009213693951) = v444
          refine g_lstore K W at_444 (Ls' := #[.val (.int x0), .val (.int x1), .val (.int x2), .val (.int x3), .val (.ref a2), .val (.int (Int32.ofNat nn)), .val (.int (Int32.ofNat st)), .val (.int mi), .val (.int bw), .val (.ref a112), .val (.ref a188), .val (.ref a218), .val (.ref a246), .val .null, .val (.long v417), .second, .val (.long v426), .second, .val (.long v435), .second, .val (.long v444), .second, .unset, .unset, .unset, .unset, .unset, .unset, .unset, .unset, .unset, .unset, .unset, .unset, .unset, .unset, .unset, .unset]) rfl (pc' := 446) rfl ?_
          refine g_aload K W at_446 rfl rfl (pc' := 448) rfl ?_
          refine g_iconst K W (v := (4 : Int32)) at_448 rfl (pc' := 449) rfl ?_
          refine g_laload K W A_a2 (k := 4) rfl (by decide) (v := y4) eC4 at_449 (pc' := 450) rfl ?_
          refine g_callS (c_held l Z a0 hw n0 _ W.sz y4) K W (hw _ (List.mem_of_getElem? (i := 61) rfl)) (hw _ (List.mem_of_getElem? (i := 62) rfl)) (hw _ (List.mem_of_getElem? (i := 3) rfl)) (hw _ (List.mem_of_getElem? (i := 63) rfl)) (by decide) (lenOf pd_10 rfl) at_450 (pc' := 453) rfl (argsL := [(.long y4)]) (rest := []) rfl rfl (by decide) (wt := 0) rfl (by decide) (by decide) (by decide) ?_
          rintro T _ _ W ⟨rfl, rfl⟩
          show Go p e below s n0 (Q_c0 Z n0 h0 x0 x1 x2 x3) 40 320 T (mkF m 453 #[.val (.int x0), .val (.int x1), .val (.int x2), .val (.int x3), .val (.ref a2), .val (.int (Int32.ofNat nn)), .val (.int (Int32.ofNat st)), .val (.int mi), .val (.int bw), .val (.ref a112), .val (.ref a188), .val (.ref a218), .val (.ref a246), .val .null, .val (.long v417), .second, .val (.long v426), .second, .val (.long v435), .second, .val (.long v444), .second, .unset, .unset, .unset, .unset, .unset, .unset, .unset, .unset, .unset, .unset, .unset, .unset, .unset, .unset, .unset, .unset] [(.long (own_minL y4 2305843009213693951))])
          generalize e_v453 : (own_minL y4 2305843009213693951) = v453
          refine g_lstore K W at_453 (Ls' := #[.val (.int x0), .val (.int x1), .val (.int x2), .val (.int x3), .val (.ref a2), .val (.int (Int32.ofNat nn)), .val (.int (Int32.ofNat st)), .val (.int mi), .val (.int bw), .val (.ref a112), .val (.ref a188), .val (.ref a218), .val (.ref a246), .val .null, .val (.long v417), .second, .val (.long v426), .second, .val (.long v435), .second, .val (.long v444), .second, .val (.long v453), .second, .unset, .unset, .unset, .unset, .unset, .unset, .unset, .unset, .unset, .unset, .unset, .unset, .unset, .unset]) rfl (pc' := 455) rfl ?_
          refine g_aload K W at_455 rfl rfl (pc' := 457) rfl ?_
          refine g_iconst K W (v := (5 : Int32)) at_457 rfl (pc' := 458) rfl ?_
          refine g_laload K W A_a2 (k := 5) rfl (by decide) (v := y5) eC5 at_458 (pc' := 459) rfl ?_
          refine g_callS (c_held l Z a0 hw n0 _ W.sz y5) K W (hw _ (List.mem_of_getElem? (i := 61) rfl)) (hw _ (List.mem_of_getElem? (i := 62) rfl)) (hw _ (List.mem_of_getElem? (i := 3) rfl)) (hw _ (List.mem_of_getElem? (i := 63) rfl)) (by decide) (lenOf pd_10 rfl) at_459 (pc' := 462) rfl (argsL := [(.long y5)]) (rest := []) rfl rfl (by decide) (wt := 0) rfl (by decide) (by decide) (by decide) ?_
          rintro T _ _ W ⟨rfl, rfl⟩
          show Go p e below s n0 (Q_c0 Z n0 h0 x0 x1 x2 x3) 40 320 T (mkF m 462 #[.val (.int x0), .val (.int x1), .val (.int x2), .val (.int x3), .val (.ref a2), .val (.int (Int32.ofNat nn)), .val (.int (Int32.ofNat st)), .val (.int mi), .val (.int bw), .val (.ref a112), .val (.ref a188), .val (.ref a218), .val (.ref a246), .val .null, .val (.long v417), .second, .val (.long v426), .second, .val (.long v435), .second, .val (.long v444), .second, .val (.long v453), .second, .unset, .unset, .unset, .unset, .unset, .unset, .unset, .unset, .unset, .unset, .unset, .unset, .unset, .unset] [(.long (own_minL y5 2305843009213693951))])
          generalize e_v462 : (own_minL y5 2305843009213693951) = v462
          refine g_lstore K W at_462 (Ls' := #[.val (.int x0), .val (.int x1), .val (.int x2), .val (.int x3), .val (.ref a2), .val (.int (Int32.ofNat nn)), .val (.int (Int32.ofNat st)), .val (.int mi), .val (.int bw), .val (.ref a112), .val (.ref a188), .val (.ref a218), .val (.ref a246), .val .null, .val (.long v417), .second, .val (.long v426), .second, .val (.long v435), .second, .val (.long v444), .second, .val (.long v453), .second, .val (.long v462), .second, .unset, .unset, .unset, .unset, .unset, .unset, .unset, .unset, .unset, .unset, .unset, .unset]) rfl (pc' := 464) rfl ?_
          refine g_lload K W at_464 rfl (pc' := 466) rfl ?_
          refine g_lload K W at_466 rfl (pc' := 468) rfl ?_
          refine g_ladd K W at_468 (pc' := 469) rfl ?_
          generalize e_v469 : (v417 + v426) = v469
          refine g_lstore K W at_469 (Ls' := #[.val (.int x0), .val (.int x1), .val (.int x2), .val (.int x3), .val (.ref a2), .val (.int (Int32.ofNat nn)), .val (.int (Int32.ofNat st)), .val (.int mi), .val (.int bw), .val (.ref a112), .val (.ref a188), .val (.ref a218), .val (.ref a246), .val .null, .val (.long v417), .second, .val (.long v426), .second, .val (.long v435), .second, .val (.long v444), .second, .val (.long v453), .second, .val (.long v462), .second, .val (.long v469), .second, .unset, .unset, .unset, .unset, .unset, .unset, .unset, .unset, .unset, .unset]) rfl (pc' := 471) rfl ?_
          refine g_lload K W at_471 rfl (pc' := 473) rfl ?_
          refine g_lload K W at_473 rfl (pc' := 475) rfl ?_
          refine g_ladd K W at_475 (pc' := 476) rfl ?_
          refine g_lload K W at_476 rfl (pc' := 478) rfl ?_
          refine g_ladd K W at_478 (pc' := 479) rfl ?_
          generalize e_v479 : ((v426 + v435) + v453) = v479
          refine g_lstore K W at_479 (Ls' := #[.val (.int x0), .val (.int x1), .val (.int x2), .val (.int x3), .val (.ref a2), .val (.int (Int32.ofNat nn)), .val (.int (Int32.ofNat st)), .val (.int mi), .val (.int bw), .val (.ref a112), .val (.ref a188), .val (.ref a218), .val (.ref a246), .val .null, .val (.long v417), .second, .val (.long v426), .second, .val (.long v435), .second, .val (.long v444), .second, .val (.long v453), .second, .val (.long v462), .second, .val (.long v469), .second, .val (.long v479), .second, .unset, .unset, .unset, .unset, .unset, .unset, .unset, .unset]) rfl (pc' := 481) rfl ?_
          refine g_lload K W at_481 rfl (pc' := 483) rfl ?_
          refine g_lload K W at_483 rfl (pc' := 485) rfl ?_
          refine g_ladd K W at_485 (pc' := 486) rfl ?_
          refine g_lload K W at_486 rfl (pc' := 488) rfl ?_
          refine g_ladd K W at_488 (pc' := 489) rfl ?_
          generalize e_v489 : ((v417 + v444) + v462) = v489
          refine g_lstore K W at_489 (Ls' := #[.val (.int x0), .val (.int x1), .val (.int x2), .val (.int x3), .val (.ref a2), .val (.int (Int32.ofNat nn)), .val (.int (Int32.ofNat st)), .val (.int mi), .val (.int bw), .val (.ref a112), .val (.ref a188), .val (.ref a218), .val (.ref a246), .val .null, .val (.long v417), .second, .val (.long v426), .second, .val (.long v435), .second, .val (.long v444), .second, .val (.long v453), .second, .val (.long v462), .second, .val (.long v469), .second, .val (.long v479), .second, .val (.long v489), .second, .unset, .unset, .unset, .unset, .unset, .unset]) rfl (pc' := 491) rfl ?_
          refine g_lload K W at_491 rfl (pc' := 493) rfl ?_
          refine g_lload K W at_493 rfl (pc' := 495) rfl ?_
          refine g_ladd K W at_495 (pc' := 496) rfl ?_
          generalize e_v496 : (v453 + v462) = v496
          refine g_lstore K W at_496 (Ls' := #[.val (.int x0), .val (.int x1), .val (.int x2), .val (.int x3), .val (.ref a2), .val (.int (Int32.ofNat nn)), .val (.int (Int32.ofNat st)), .val (.int mi), .val (.int bw), .val (.ref a112), .val (.ref a188), .val (.ref a218), .val (.ref a246), .val .null, .val (.long v417), .second, .val (.long v426), .second, .val (.long v435), .second, .val (.long v444), .second, .val (.long v453), .second, .val (.long v462), .second, .val (.long v469), .second, .val (.long v479), .second, .val (.long v489), .second, .val (.long v496), .second, .unset, .unset, .unset, .unset]) rfl (pc' := 498) rfl ?_
          refine g_lload K W at_498 rfl (pc' := 500) rfl ?_
          refine g_lload K W at_500 rfl (pc' := 502) rfl ?_
          refine g_callS (c_min l Z a0 hw n0 _ W.sz v469 v479) K W (hw _ (List.mem_of_getElem? (i := 65) rfl)) (hw _ (List.mem_of_getElem? (i := 44) rfl)) (hw _ (List.mem_of_getElem? (i := 45) rfl)) (hw _ (List.mem_of_getElem? (i := 46) rfl)) (by decide) (lenOf pd_1 rfl) at_502 (pc' := 505) rfl (argsL := [(.long v469), (.long v479)]) (rest := []) rfl rfl (by decide) (wt := 0) rfl (by decide) (by decide) (by decide) ?_
          rintro T _ _ W ⟨rfl, rfl⟩
          show Go p e below s n0 (Q_c0 Z n0 h0 x0 x1 x2 x3) 40 320 T (mkF m 505 #[.val (.int x0), .val (.int x1), .val (.int x2), .val (.int x3), .val (.ref a2), .val (.int (Int32.ofNat nn)), .val (.int (Int32.ofNat st)), .val (.int mi), .val (.int bw), .val (.ref a112), .val (.ref a188), .val (.ref a218), .val (.ref a246), .val .null, .val (.long v417), .second, .val (.long v426), .second, .val (.long v435), .second, .val (.long v444), .second, .val (.long v453), .second, .val (.long v462), .second, .val (.long v469), .second, .val (.long v479), .second, .val (.long v489), .second, .val (.long v496), .second, .unset, .unset, .unset, .unset] [(.long (own_minL v469 v479))])
          refine g_lload K W at_505 rfl (pc' := 507) rfl ?_
          refine g_lload K W at_507 rfl (pc' := 509) rfl ?_
          refine g_callS (c_min l Z a0 hw n0 _ W.sz v489 v496) K W (hw _ (List.mem_of_getElem? (i := 65) rfl)) (hw _ (List.mem_of_getElem? (i := 44) rfl)) (hw _ (List.mem_of_getElem? (i := 45) rfl)) (hw _ (List.mem_of_getElem? (i := 46) rfl)) (by decide) (lenOf pd_1 rfl) at_509 (pc' := 512) rfl (argsL := [(.long v489), (.long v496)]) (rest := [(.long (own_minL v469 v479))]) rfl rfl (by decide) (wt := 2) rfl (by decide) (by decide) (by decide) ?_
          rintro T _ _ W ⟨rfl, rfl⟩
          show Go p e below s n0 (Q_c0 Z n0 h0 x0 x1 x2 x3) 40 320 T (mkF m 512 #[.val (.int x0), .val (.int x1), .val (.int x2), .val (.int x3), .val (.ref a2), .val (.int (Int32.ofNat nn)), .val (.int (Int32.ofNat st)), .val (.int mi), .val (.int bw), .val (.ref a112), .val (.ref a188), .val (.ref a218), .val (.ref a246), .val .null, .val (.long v417), .second, .val (.long v426), .second, .val (.long v435), .second, .val (.long v444), .second, .val (.long v453), .second, .val (.long v462), .second, .val (.long v469), .second, .val (.long v479), .second, .val (.long v489), .second, .val (.long v496), .second, .unset, .unset, .unset, .unset] [(.long (own_minL v489 v496)), (.long (own_minL v469 v479))])
          refine g_callS (c_min l Z a0 hw n0 _ W.sz (own_minL v469 v479) (own_minL v489 v496)) K W (hw _ (List.mem_of_getElem? (i := 65) rfl)) (hw _ (List.mem_of_getElem? (i := 44) rfl)) (hw _ (List.mem_of_getElem? (i := 45) rfl)) (hw _ (List.mem_of_getElem? (i := 46) rfl)) (by decide) (lenOf pd_1 rfl) at_512 (pc' := 515) rfl (argsL := [(.long (own_minL v469 v479)), (.long (own_minL v489 v496))]) (rest := []) rfl rfl (by decide) (wt := 0) rfl (by decide) (by decide) (by decide) ?_
          rintro T _ _ W ⟨rfl, rfl⟩
          show Go p e below s n0 (Q_c0 Z n0 h0 x0 x1 x2 x3) 40 320 T (mkF m 515 #[.val (.int x0), .val (.int x1), .val (.int x2), .val (.int x3), .val (.ref a2), .val (.int (Int32.ofNat nn)), .val (.int (Int32.ofNat st)), .val (.int mi), .val (.int bw), .val (.ref a112), .val (.ref a188), .val (.ref a218), .val (.ref a246), .val .null, .val (.long v417), .second, .val (.long v426), .second, .val (.long v435), .second, .val (.long v444), .second, .val (.long v453), .second, .val (.long v462), .second, .val (.long v469), .second, .val (.long v479), .second, .val (.long v489), .second, .val (.long v496), .second, .unset, .unset, .unset, .unset] [(.long (own_minL (own_minL v469 v479) (own_minL v489 v496)))])
          generalize e_v515 : (own_minL (own_minL v469 v479) (own_minL v489 v496)) = v515
          refine g_lstore K W at_515 (Ls' := #[.val (.int x0), .val (.int x1), .val (.int x2), .val (.int x3), .val (.ref a2), .val (.int (Int32.ofNat nn)), .val (.int (Int32.ofNat st)), .val (.int mi), .val (.int bw), .val (.ref a112), .val (.ref a188), .val (.ref a218), .val (.ref a246), .val .null, .val (.long v417), .second, .val (.long v426), .second, .val (.long v435), .second, .val (.long v444), .second, .val (.long v453), .second, .val (.long v462), .second, .val (.long v469), .second, .val (.long v479), .second, .val (.long v489), .second, .val (.long v496), .second, .val (.long v515), .second, .unset, .unset]) rfl (pc' := 517) rfl ?_
          have r6 := own_r6 hy0 hy1 hy2 hy3 hy4 hy5 e_v417 e_v426 e_v435 e_v444 e_v453 e_v462
          rw [e_v469, e_v479, e_v489, e_v496] at r6
          obtain ⟨k0, k1, k2, k3⟩ := r6
          have kb : v515.toInt = min (min v469.toInt v479.toInt) (min v489.toInt v496.toInt) := by rw [← e_v515, own_minL_toInt, own_minL_toInt, own_minL_toInt]
          have nl := own_null d01 d02 d03 d12 d13 d23 hKs hnull
          have hbest : ¬ v515.toInt < 2305843009213693951 := by omega
          refine g_lload K W at_517 rfl (pc' := 519) rfl ?_
          refine g_ldc2 K W (v := (2305843009213693951 : Int64)) (hw _ (List.mem_of_getElem? (i := 64) rfl)) at_519 (pc' := 522) rfl ?_
          refine g_lcmp_lt K W at_522 (pc1 := 523) rfl at_523 (pt := 537) rfl (pf := 526) rfl (fun hc522 => absurd hc522 (fun z => hbest (Int64.lt_iff_toInt_lt.mp z))) (fun hc522 => ?_)
          refine g_aload K W at_526 rfl rfl (pc' := 528) rfl ?_
          refine g_ifnonnull_f K W at_528 (pf := 531) rfl ?_
          refine g_iconst K W (v := (1 : Int32)) at_531 rfl (pc' := 532) rfl ?_
          refine g_goto K W at_532 (pt := 536) rfl ?_
          exact g_retN K W (by simp) at_536 (by decide) (by decide) (v := (1 : Int32)) rfl rfl
        · show Go p e below s n0 (Q_c0 Z n0 h0 x0 x1 x2 x3) 40 320 T (mkF m 408 #[.val (.int x0), .val (.int x1), .val (.int x2), .val (.int x3), .val (.ref a2), .val (.int (Int32.ofNat nn)), .val (.int (Int32.ofNat st)), .val (.int mi), .val (.int bw), .val (.ref a112), .val (.ref a188), .val (.ref a218), .val (.ref a246), .unset, .unset, .unset, .unset, .unset, .unset, .unset, .unset, .unset, .unset, .unset, .unset, .unset, .unset, .unset, .unset, .unset, .unset, .unset, .unset, .unset, .unset, .unset, .unset, .unset] [(.ref av)])
          have A_a2 := A_a2.sm sm (by simp)
          have A_a112 := A_a112.sm sm (by simp)
          have A_a188 := A_a188.sm sm (by simp)
          have A_a218 := A_a218.sm sm (by simp)
          refine g_astore K W at_408 rfl (Ls' := #[.val (.int x0), .val (.int x1), .val (.int x2), .val (.int x3), .val (.ref a2), .val (.int (Int32.ofNat nn)), .val (.int (Int32.ofNat st)), .val (.int mi), .val (.int bw), .val (.ref a112), .val (.ref a188), .val (.ref a218), .val (.ref a246), .val (.ref av), .unset, .unset, .unset, .unset, .unset, .unset, .unset, .unset, .unset, .unset, .unset, .unset, .unset, .unset, .unset, .unset, .unset, .unset, .unset, .unset, .unset, .unset, .unset, .unset]) rfl (pc' := 410) rfl ?_
          refine g_aload K W at_410 rfl rfl (pc' := 412) rfl ?_
          refine g_iconst K W (v := (0 : Int32)) at_412 rfl (pc' := 413) rfl ?_
          refine g_laload K W A_a2 (k := 0) rfl (by decide) (v := y0) eC0 at_413 (pc' := 414) rfl ?_
          refine g_callS (c_held l Z a0 hw n0 _ W.sz y0) K W (hw _ (List.mem_of_getElem? (i := 61) rfl)) (hw _ (List.mem_of_getElem? (i := 62) rfl)) (hw _ (List.mem_of_getElem? (i := 3) rfl)) (hw _ (List.mem_of_getElem? (i := 63) rfl)) (by decide) (lenOf pd_10 rfl) at_414 (pc' := 417) rfl (argsL := [(.long y0)]) (rest := []) rfl rfl (by decide) (wt := 0) rfl (by decide) (by decide) (by decide) ?_
          rintro T _ _ W ⟨rfl, rfl⟩
          show Go p e below s n0 (Q_c0 Z n0 h0 x0 x1 x2 x3) 40 320 T (mkF m 417 #[.val (.int x0), .val (.int x1), .val (.int x2), .val (.int x3), .val (.ref a2), .val (.int (Int32.ofNat nn)), .val (.int (Int32.ofNat st)), .val (.int mi), .val (.int bw), .val (.ref a112), .val (.ref a188), .val (.ref a218), .val (.ref a246), .val (.ref av), .unset, .unset, .unset, .unset, .unset, .unset, .unset, .unset, .unset, .unset, .unset, .unset, .unset, .unset, .unset, .unset, .unset, .unset, .unset, .unset, .unset, .unset, .unset, .unset] [(.long (own_minL y0 2305843009213693951))])
          generalize e_v417 : (own_minL y0 2305843009213693951) = v417
          refine g_lstore K W at_417 (Ls' := #[.val (.int x0), .val (.int x1), .val (.int x2), .val (.int x3), .val (.ref a2), .val (.int (Int32.ofNat nn)), .val (.int (Int32.ofNat st)), .val (.int mi), .val (.int bw), .val (.ref a112), .val (.ref a188), .val (.ref a218), .val (.ref a246), .val (.ref av), .val (.long v417), .second, .unset, .unset, .unset, .unset, .unset, .unset, .unset, .unset, .unset, .unset, .unset, .unset, .unset, .unset, .unset, .unset, .unset, .unset, .unset, .unset, .unset, .unset]) rfl (pc' := 419) rfl ?_
          refine g_aload K W at_419 rfl rfl (pc' := 421) rfl ?_
          refine g_iconst K W (v := (1 : Int32)) at_421 rfl (pc' := 422) rfl ?_
          refine g_laload K W A_a2 (k := 1) rfl (by decide) (v := y1) eC1 at_422 (pc' := 423) rfl ?_
          refine g_callS (c_held l Z a0 hw n0 _ W.sz y1) K W (hw _ (List.mem_of_getElem? (i := 61) rfl)) (hw _ (List.mem_of_getElem? (i := 62) rfl)) (hw _ (List.mem_of_getElem? (i := 3) rfl)) (hw _ (List.mem_of_getElem? (i := 63) rfl)) (by decide) (lenOf pd_10 rfl) at_423 (pc' := 426) rfl (argsL := [(.long y1)]) (rest := []) rfl rfl (by decide) (wt := 0) rfl (by decide) (by decide) (by decide) ?_
          rintro T _ _ W ⟨rfl, rfl⟩
          show Go p e below s n0 (Q_c0 Z n0 h0 x0 x1 x2 x3) 40 320 T (mkF m 426 #[.val (.int x0), .val (.int x1), .val (.int x2), .val (.int x3), .val (.ref a2), .val (.int (Int32.ofNat nn)), .val (.int (Int32.ofNat st)), .val (.int mi), .val (.int bw), .val (.ref a112), .val (.ref a188), .val (.ref a218), .val (.ref a246), .val (.ref av), .val (.long v417), .second, .unset, .unset, .unset, .unset, .unset, .unset, .unset, .unset, .unset, .unset, .unset, .unset, .unset, .unset, .unset, .unset, .unset, .unset, .unset, .unset, .unset, .unset] [(.long (own_minL y1 2305843009213693951))])
          generalize e_v426 : (own_minL y1 2305843009213693951) = v426
          refine g_lstore K W at_426 (Ls' := #[.val (.int x0), .val (.int x1), .val (.int x2), .val (.int x3), .val (.ref a2), .val (.int (Int32.ofNat nn)), .val (.int (Int32.ofNat st)), .val (.int mi), .val (.int bw), .val (.ref a112), .val (.ref a188), .val (.ref a218), .val (.ref a246), .val (.ref av), .val (.long v417), .second, .val (.long v426), .second, .unset, .unset, .unset, .unset, .unset, .unset, .unset, .unset, .unset, .unset, .unset, .unset, .unset, .unset, .unset, .unset, .unset, .unset, .unset, .unset]) rfl (pc' := 428) rfl ?_
          refine g_aload K W at_428 rfl rfl (pc' := 430) rfl ?_
          refine g_iconst K W (v := (2 : Int32)) at_430 rfl (pc' := 431) rfl ?_
          refine g_laload K W A_a2 (k := 2) rfl (by decide) (v := y2) eC2 at_431 (pc' := 432) rfl ?_
          refine g_callS (c_held l Z a0 hw n0 _ W.sz y2) K W (hw _ (List.mem_of_getElem? (i := 61) rfl)) (hw _ (List.mem_of_getElem? (i := 62) rfl)) (hw _ (List.mem_of_getElem? (i := 3) rfl)) (hw _ (List.mem_of_getElem? (i := 63) rfl)) (by decide) (lenOf pd_10 rfl) at_432 (pc' := 435) rfl (argsL := [(.long y2)]) (rest := []) rfl rfl (by decide) (wt := 0) rfl (by decide) (by decide) (by decide) ?_
          rintro T _ _ W ⟨rfl, rfl⟩
          show Go p e below s n0 (Q_c0 Z n0 h0 x0 x1 x2 x3) 40 320 T (mkF m 435 #[.val (.int x0), .val (.int x1), .val (.int x2), .val (.int x3), .val (.ref a2), .val (.int (Int32.ofNat nn)), .val (.int (Int32.ofNat st)), .val (.int mi), .val (.int bw), .val (.ref a112), .val (.ref a188), .val (.ref a218), .val (.ref a246), .val (.ref av), .val (.long v417), .second, .val (.long v426), .second, .unset, .unset, .unset, .unset, .unset, .unset, .unset, .unset, .unset, .unset, .unset, .unset, .unset, .unset, .unset, .unset, .unset, .unset, .unset, .unset] [(.long (own_minL y2 2305843009213693951))])
          generalize e_v435 : (own_minL y2 2305843009213693951) = v435
          refine g_lstore K W at_435 (Ls' := #[.val (.int x0), .val (.int x1), .val (.int x2), .val (.int x3), .val (.ref a2), .val (.int (Int32.ofNat nn)), .val (.int (Int32.ofNat st)), .val (.int mi), .val (.int bw), .val (.ref a112), .val (.ref a188), .val (.ref a218), .val (.ref a246), .val (.ref av), .val (.long v417), .second, .val (.long v426), .second, .val (.long v435), .second, .unset, .unset, .unset, .unset, .unset, .unset, .unset, .unset, .unset, .unset, .unset, .unset, .unset, .unset, .unset, .unset, .unset, .unset]) rfl (pc' := 437) rfl ?_
          refine g_aload K W at_437 rfl rfl (pc' := 439) rfl ?_
          refine g_iconst K W (v := (3 : Int32)) at_439 rfl (pc' := 440) rfl ?_
          refine g_laload K W A_a2 (k := 3) rfl (by decide) (v := y3) eC3 at_440 (pc' := 441) rfl ?_
          refine g_callS (c_held l Z a0 hw n0 _ W.sz y3) K W (hw _ (List.mem_of_getElem? (i := 61) rfl)) (hw _ (List.mem_of_getElem? (i := 62) rfl)) (hw _ (List.mem_of_getElem? (i := 3) rfl)) (hw _ (List.mem_of_getElem? (i := 63) rfl)) (by decide) (lenOf pd_10 rfl) at_441 (pc' := 444) rfl (argsL := [(.long y3)]) (rest := []) rfl rfl (by decide) (wt := 0) rfl (by decide) (by decide) (by decide) ?_
          rintro T _ _ W ⟨rfl, rfl⟩
          show Go p e below s n0 (Q_c0 Z n0 h0 x0 x1 x2 x3) 40 320 T (mkF m 444 #[.val (.int x0), .val (.int x1), .val (.int x2), .val (.int x3), .val (.ref a2), .val (.int (Int32.ofNat nn)), .val (.int (Int32.ofNat st)), .val (.int mi), .val (.int bw), .val (.ref a112), .val (.ref a188), .val (.ref a218), .val (.ref a246), .val (.ref av), .val (.long v417), .second, .val (.long v426), .second, .val (.long v435), .second, .unset, .unset, .unset, .unset, .unset, .unset, .unset, .unset, .unset, .unset, .unset, .unset, .unset, .unset, .unset, .unset, .unset, .unset] [(.long (own_minL y3 2305843009213693951))])
          generalize e_v444 : (own_minL y3 2305843009213693951) = v444
          refine g_lstore K W at_444 (Ls' := #[.val (.int x0), .val (.int x1), .val (.int x2), .val (.int x3), .val (.ref a2), .val (.int (Int32.ofNat nn)), .val (.int (Int32.ofNat st)), .val (.int mi), .val (.int bw), .val (.ref a112), .val (.ref a188), .val (.ref a218), .val (.ref a246), .val (.ref av), .val (.long v417), .second, .val (.long v426), .second, .val (.long v435), .second, .val (.long v444), .second, .unset, .unset, .unset, .unset, .unset, .unset, .unset, .unset, .unset, .unset, .unset, .unset, .unset, .unset, .unset, .unset]) rfl (pc' := 446) rfl ?_
          refine g_aload K W at_446 rfl rfl (pc' := 448) rfl ?_
          refine g_iconst K W (v := (4 : Int32)) at_448 rfl (pc' := 449) rfl ?_
          refine g_laload K W A_a2 (k := 4) rfl (by decide) (v := y4) eC4 at_449 (pc' := 450) rfl ?_
          refine g_callS (c_held l Z a0 hw n0 _ W.sz y4) K W (hw _ (List.mem_of_getElem? (i := 61) rfl)) (hw _ (List.mem_of_getElem? (i := 62) rfl)) (hw _ (List.mem_of_getElem? (i := 3) rfl)) (hw _ (List.mem_of_getElem? (i := 63) rfl)) (by decide) (lenOf pd_10 rfl) at_450 (pc' := 453) rfl (argsL := [(.long y4)]) (rest := []) rfl rfl (by decide) (wt := 0) rfl (by decide) (by decide) (by decide) ?_
          rintro T _ _ W ⟨rfl, rfl⟩
          show Go p e below s n0 (Q_c0 Z n0 h0 x0 x1 x2 x3) 40 320 T (mkF m 453 #[.val (.int x0), .val (.int x1), .val (.int x2), .val (.int x3), .val (.ref a2), .val (.int (Int32.ofNat nn)), .val (.int (Int32.ofNat st)), .val (.int mi), .val (.int bw), .val (.ref a112), .val (.ref a188), .val (.ref a218), .val (.ref a246), .val (.ref av), .val (.long v417), .second, .val (.long v426), .second, .val (.long v435), .second, .val (.long v444), .second, .unset, .unset, .unset, .unset, .unset, .unset, .unset, .unset, .unset, .unset, .unset, .unset, .unset, .unset, .unset, .unset] [(.long (own_minL y4 2305843009213693951))])
          generalize e_v453 : (own_minL y4 2305843009213693951) = v453
          refine g_lstore K W at_453 (Ls' := #[.val (.int x0), .val (.int x1), .val (.int x2), .val (.int x3), .val (.ref a2), .val (.int (Int32.ofNat nn)), .val (.int (Int32.ofNat st)), .val (.int mi), .val (.int bw), .val (.ref a112), .val (.ref a188), .val (.ref a218), .val (.ref a246), .val (.ref av), .val (.long v417), .second, .val (.long v426), .second, .val (.long v435), .second, .val (.long v444), .second, .val (.long v453), .second, .unset, .unset, .unset, .unset, .unset, .unset, .unset, .unset, .unset, .unset, .unset, .unset, .unset, .unset]) rfl (pc' := 455) rfl ?_
          refine g_aload K W at_455 rfl rfl (pc' := 457) rfl ?_
          refine g_iconst K W (v := (5 : Int32)) at_457 rfl (pc' := 458) rfl ?_
          refine g_laload K W A_a2 (k := 5) rfl (by decide) (v := y5) eC5 at_458 (pc' := 459) rfl ?_
          refine g_callS (c_held l Z a0 hw n0 _ W.sz y5) K W (hw _ (List.mem_of_getElem? (i := 61) rfl)) (hw _ (List.mem_of_getElem? (i := 62) rfl)) (hw _ (List.mem_of_getElem? (i := 3) rfl)) (hw _ (List.mem_of_getElem? (i := 63) rfl)) (by decide) (lenOf pd_10 rfl) at_459 (pc' := 462) rfl (argsL := [(.long y5)]) (rest := []) rfl rfl (by decide) (wt := 0) rfl (by decide) (by decide) (by decide) ?_
          rintro T _ _ W ⟨rfl, rfl⟩
          show Go p e below s n0 (Q_c0 Z n0 h0 x0 x1 x2 x3) 40 320 T (mkF m 462 #[.val (.int x0), .val (.int x1), .val (.int x2), .val (.int x3), .val (.ref a2), .val (.int (Int32.ofNat nn)), .val (.int (Int32.ofNat st)), .val (.int mi), .val (.int bw), .val (.ref a112), .val (.ref a188), .val (.ref a218), .val (.ref a246), .val (.ref av), .val (.long v417), .second, .val (.long v426), .second, .val (.long v435), .second, .val (.long v444), .second, .val (.long v453), .second, .unset, .unset, .unset, .unset, .unset, .unset, .unset, .unset, .unset, .unset, .unset, .unset, .unset, .unset] [(.long (own_minL y5 2305843009213693951))])
          generalize e_v462 : (own_minL y5 2305843009213693951) = v462
          refine g_lstore K W at_462 (Ls' := #[.val (.int x0), .val (.int x1), .val (.int x2), .val (.int x3), .val (.ref a2), .val (.int (Int32.ofNat nn)), .val (.int (Int32.ofNat st)), .val (.int mi), .val (.int bw), .val (.ref a112), .val (.ref a188), .val (.ref a218), .val (.ref a246), .val (.ref av), .val (.long v417), .second, .val (.long v426), .second, .val (.long v435), .second, .val (.long v444), .second, .val (.long v453), .second, .val (.long v462), .second, .unset, .unset, .unset, .unset, .unset, .unset, .unset, .unset, .unset, .unset, .unset, .unset]) rfl (pc' := 464) rfl ?_
          refine g_lload K W at_464 rfl (pc' := 466) rfl ?_
          refine g_lload K W at_466 rfl (pc' := 468) rfl ?_
          refine g_ladd K W at_468 (pc' := 469) rfl ?_
          generalize e_v469 : (v417 + v426) = v469
          refine g_lstore K W at_469 (Ls' := #[.val (.int x0), .val (.int x1), .val (.int x2), .val (.int x3), .val (.ref a2), .val (.int (Int32.ofNat nn)), .val (.int (Int32.ofNat st)), .val (.int mi), .val (.int bw), .val (.ref a112), .val (.ref a188), .val (.ref a218), .val (.ref a246), .val (.ref av), .val (.long v417), .second, .val (.long v426), .second, .val (.long v435), .second, .val (.long v444), .second, .val (.long v453), .second, .val (.long v462), .second, .val (.long v469), .second, .unset, .unset, .unset, .unset, .unset, .unset, .unset, .unset, .unset, .unset]) rfl (pc' := 471) rfl ?_
          refine g_lload K W at_471 rfl (pc' := 473) rfl ?_
          refine g_lload K W at_473 rfl (pc' := 475) rfl ?_
          refine g_ladd K W at_475 (pc' := 476) rfl ?_
          refine g_lload K W at_476 rfl (pc' := 478) rfl ?_
          refine g_ladd K W at_478 (pc' := 479) rfl ?_
          generalize e_v479 : ((v426 + v435) + v453) = v479
          refine g_lstore K W at_479 (Ls' := #[.val (.int x0), .val (.int x1), .val (.int x2), .val (.int x3), .val (.ref a2), .val (.int (Int32.ofNat nn)), .val (.int (Int32.ofNat st)), .val (.int mi), .val (.int bw), .val (.ref a112), .val (.ref a188), .val (.ref a218), .val (.ref a246), .val (.ref av), .val (.long v417), .second, .val (.long v426), .second, .val (.long v435), .second, .val (.long v444), .second, .val (.long v453), .second, .val (.long v462), .second, .val (.long v469), .second, .val (.long v479), .second, .unset, .unset, .unset, .unset, .unset, .unset, .unset, .unset]) rfl (pc' := 481) rfl ?_
          refine g_lload K W at_481 rfl (pc' := 483) rfl ?_
          refine g_lload K W at_483 rfl (pc' := 485) rfl ?_
          refine g_ladd K W at_485 (pc' := 486) rfl ?_
          refine g_lload K W at_486 rfl (pc' := 488) rfl ?_
          refine g_ladd K W at_488 (pc' := 489) rfl ?_
          generalize e_v489 : ((v417 + v444) + v462) = v489
          refine g_lstore K W at_489 (Ls' := #[.val (.int x0), .val (.int x1), .val (.int x2), .val (.int x3), .val (.ref a2), .val (.int (Int32.ofNat nn)), .val (.int (Int32.ofNat st)), .val (.int mi), .val (.int bw), .val (.ref a112), .val (.ref a188), .val (.ref a218), .val (.ref a246), .val (.ref av), .val (.long v417), .second, .val (.long v426), .second, .val (.long v435), .second, .val (.long v444), .second, .val (.long v453), .second, .val (.long v462), .second, .val (.long v469), .second, .val (.long v479), .second, .val (.long v489), .second, .unset, .unset, .unset, .unset, .unset, .unset]) rfl (pc' := 491) rfl ?_
          refine g_lload K W at_491 rfl (pc' := 493) rfl ?_
          refine g_lload K W at_493 rfl (pc' := 495) rfl ?_
          refine g_ladd K W at_495 (pc' := 496) rfl ?_
          generalize e_v496 : (v453 + v462) = v496
          refine g_lstore K W at_496 (Ls' := #[.val (.int x0), .val (.int x1), .val (.int x2), .val (.int x3), .val (.ref a2), .val (.int (Int32.ofNat nn)), .val (.int (Int32.ofNat st)), .val (.int mi), .val (.int bw), .val (.ref a112), .val (.ref a188), .val (.ref a218), .val (.ref a246), .val (.ref av), .val (.long v417), .second, .val (.long v426), .second, .val (.long v435), .second, .val (.long v444), .second, .val (.long v453), .second, .val (.long v462), .second, .val (.long v469), .second, .val (.long v479), .second, .val (.long v489), .second, .val (.long v496), .second, .unset, .unset, .unset, .unset]) rfl (pc' := 498) rfl ?_
          refine g_lload K W at_498 rfl (pc' := 500) rfl ?_
          refine g_lload K W at_500 rfl (pc' := 502) rfl ?_
          refine g_callS (c_min l Z a0 hw n0 _ W.sz v469 v479) K W (hw _ (List.mem_of_getElem? (i := 65) rfl)) (hw _ (List.mem_of_getElem? (i := 44) rfl)) (hw _ (List.mem_of_getElem? (i := 45) rfl)) (hw _ (List.mem_of_getElem? (i := 46) rfl)) (by decide) (lenOf pd_1 rfl) at_502 (pc' := 505) rfl (argsL := [(.long v469), (.long v479)]) (rest := []) rfl rfl (by decide) (wt := 0) rfl (by decide) (by decide) (by decide) ?_
          rintro T _ _ W ⟨rfl, rfl⟩
          show Go p e below s n0 (Q_c0 Z n0 h0 x0 x1 x2 x3) 40 320 T (mkF m 505 #[.val (.int x0), .val (.int x1), .val (.int x2), .val (.int x3), .val (.ref a2), .val (.int (Int32.ofNat nn)), .val (.int (Int32.ofNat st)), .val (.int mi), .val (.int bw), .val (.ref a112), .val (.ref a188), .val (.ref a218), .val (.ref a246), .val (.ref av), .val (.long v417), .second, .val (.long v426), .second, .val (.long v435), .second, .val (.long v444), .second, .val (.long v453), .second, .val (.long v462), .second, .val (.long v469), .second, .val (.long v479), .second, .val (.long v489), .second, .val (.long v496), .second, .unset, .unset, .unset, .unset] [(.long (own_minL v469 v479))])
          refine g_lload K W at_505 rfl (pc' := 507) rfl ?_
          refine g_lload K W at_507 rfl (pc' := 509) rfl ?_
          refine g_callS (c_min l Z a0 hw n0 _ W.sz v489 v496) K W (hw _ (List.mem_of_getElem? (i := 65) rfl)) (hw _ (List.mem_of_getElem? (i := 44) rfl)) (hw _ (List.mem_of_getElem? (i := 45) rfl)) (hw _ (List.mem_of_getElem? (i := 46) rfl)) (by decide) (lenOf pd_1 rfl) at_509 (pc' := 512) rfl (argsL := [(.long v489), (.long v496)]) (rest := [(.long (own_minL v469 v479))]) rfl rfl (by decide) (wt := 2) rfl (by decide) (by decide) (by decide) ?_
          rintro T _ _ W ⟨rfl, rfl⟩
          show Go p e below s n0 (Q_c0 Z n0 h0 x0 x1 x2 x3) 40 320 T (mkF m 512 #[.val (.int x0), .val (.int x1), .val (.int x2), .val (.int x3), .val (.ref a2), .val (.int (Int32.ofNat nn)), .val (.int (Int32.ofNat st)), .val (.int mi), .val (.int bw), .val (.ref a112), .val (.ref a188), .val (.ref a218), .val (.ref a246), .val (.ref av), .val (.long v417), .second, .val (.long v426), .second, .val (.long v435), .second, .val (.long v444), .second, .val (.long v453), .second, .val (.long v462), .second, .val (.long v469), .second, .val (.long v479), .second, .val (.long v489), .second, .val (.long v496), .second, .unset, .unset, .unset, .unset] [(.long (own_minL v489 v496)), (.long (own_minL v469 v479))])
          refine g_callS (c_min l Z a0 hw n0 _ W.sz (own_minL v469 v479) (own_minL v489 v496)) K W (hw _ (List.mem_of_getElem? (i := 65) rfl)) (hw _ (List.mem_of_getElem? (i := 44) rfl)) (hw _ (List.mem_of_getElem? (i := 45) rfl)) (hw _ (List.mem_of_getElem? (i := 46) rfl)) (by decide) (lenOf pd_1 rfl) at_512 (pc' := 515) rfl (argsL := [(.long (own_minL v469 v479)), (.long (own_minL v489 v496))]) (rest := []) rfl rfl (by decide) (wt := 0) rfl (by decide) (by decide) (by decide) ?_
          rintro T _ _ W ⟨rfl, rfl⟩
          show Go p e below s n0 (Q_c0 Z n0 h0 x0 x1 x2 x3) 40 320 T (mkF m 515 #[.val (.int x0), .val (.int x1), .val (.int x2), .val (.int x3), .val (.ref a2), .val (.int (Int32.ofNat nn)), .val (.int (Int32.ofNat st)), .val (.int mi), .val (.int bw), .val (.ref a112), .val (.ref a188), .val (.ref a218), .val (.ref a246), .val (.ref av), .val (.long v417), .second, .val (.long v426), .second, .val (.long v435), .second, .val (.long v444), .second, .val (.long v453), .second, .val (.long v462), .second, .val (.long v469), .second, .val (.long v479), .second, .val (.long v489), .second, .val (.long v496), .second, .unset, .unset, .unset, .unset] [(.long (own_minL (own_minL v469 v479) (own_minL v489 v496)))])
          generalize e_v515 : (own_minL (own_minL v469 v479) (own_minL v489 v496)) = v515
          refine g_lstore K W at_515 (Ls' := #[.val (.int x0), .val (.int x1), .val (.int x2), .val (.int x3), .val (.ref a2), .val (.int (Int32.ofNat nn)), .val (.int (Int32.ofNat st)), .val (.int mi), .val (.int bw), .val (.ref a112), .val (.ref a188), .val (.ref a218), .val (.ref a246), .val (.ref av), .val (.long v417), .second, .val (.long v426), .second, .val (.long v435), .second, .val (.long v444), .second, .val (.long v453), .second, .val (.long v462), .second, .val (.long v469), .second, .val (.long v479), .second, .val (.long v489), .second, .val (.long v496), .second, .val (.long v515), .second, .unset, .unset]) rfl (pc' := 517) rfl ?_
          have r6 := own_r6 hy0 hy1 hy2 hy3 hy4 hy5 e_v417 e_v426 e_v435 e_v444 e_v453 e_v462
          rw [e_v469, e_v479, e_v489, e_v496] at r6
          obtain ⟨k0, k1, k2, k3⟩ := r6
          have kb : v515.toInt = min (min v469.toInt v479.toInt) (min v489.toInt v496.toInt) := by rw [← e_v515, own_minL_toInt, own_minL_toInt, own_minL_toInt]
          obtain ⟨n1, n2, n3, n4⟩ := own_side d01 d02 d03 d12 d13 d23 l1 l2 hKs sd
          rw [← k0, ← k1, ← k2, ← k3] at n1 n2
          rw [← k0, ← k2] at n3
          rw [← k0, ← k1] at n4
          have eF : v515.toInt = F := by omega
          rw [← eF] at n3 n4
          have ii : ∀ {x y : Int64}, x.toInt ≠ y.toInt ↔ x ≠ y := fun {x y} => not_congr Int64.toInt_inj
          rw [ii, ii] at n3 n4
          refine g_lload K W at_517 rfl (pc' := 519) rfl ?_
          refine g_ldc2 K W (v := (2305843009213693951 : Int64)) (hw _ (List.mem_of_getElem? (i := 64) rfl)) at_519 (pc' := 522) rfl ?_
          refine g_lcmp_lt K W at_522 (pc1 := 523) rfl at_523 (pt := 537) rfl (pf := 526) rfl (fun hc522 => ?_) (fun hc522 => absurd (Int64.lt_iff_toInt_lt.mpr (show v515.toInt < 2305843009213693951 by omega)) hc522)
          refine g_aload K W at_537 rfl rfl (pc' := 539) rfl ?_
          refine g_ifnull_f K W at_539 (pf := 542) rfl ?_
          refine g_aload K W at_542 rfl rfl (pc' := 544) rfl ?_
          refine g_alenI K W A_av (v := (Int32.ofNat nn)) rfl at_544 (pc' := 545) rfl ?_
          refine g_iload K W at_545 rfl (pc' := 547) rfl ?_
          refine g_icmp_eq K W at_547 (pt := 552) rfl (pf := 550) rfl (fun hc547 => ?_) (fun hc547 => absurd rfl hc547)
          refine g_lload K W at_552 rfl (pc' := 554) rfl ?_
          refine g_lload K W at_554 rfl (pc' := 556) rfl ?_
          have hJin1 : ∀ in1 : Int32, in1 = (if S p1 = true then 1 else 0) → Go p e below s n0 (Q_c0 Z n0 h0 x0 x1 x2 x3) 40 320 T (mkF m 573 #[.val (.int x0), .val (.int x1), .val (.int x2), .val (.int x3), .val (.ref a2), .val (.int (Int32.ofNat nn)), .val (.int (Int32.ofNat st)), .val (.int mi), .val (.int bw), .val (.ref a112), .val (.ref a188), .val (.ref a218), .val (.ref a246), .val (.ref av), .val (.long v417), .second, .val (.long v426), .second, .val (.long v435), .second, .val (.long v444), .second, .val (.long v453), .second, .val (.long v462), .second, .val (.long v469), .second, .val (.long v479), .second, .val (.long v489), .second, .val (.long v496), .second, .val (.long v515), .second, .unset, .unset] [(.int in1)]) := by
            intro in1 hJin1_in1
            refine g_istore K W at_573 (Ls' := #[.val (.int x0), .val (.int x1), .val (.int x2), .val (.int x3), .val (.ref a2), .val (.int (Int32.ofNat nn)), .val (.int (Int32.ofNat st)), .val (.int mi), .val (.int bw), .val (.ref a112), .val (.ref a188), .val (.ref a218), .val (.ref a246), .val (.ref av), .val (.long v417), .second, .val (.long v426), .second, .val (.long v435), .second, .val (.long v444), .second, .val (.long v453), .second, .val (.long v462), .second, .val (.long v469), .second, .val (.long v479), .second, .val (.long v489), .second, .val (.long v496), .second, .val (.long v515), .second, .val (.int in1), .unset]) rfl (pc' := 575) rfl ?_
            refine g_lload K W at_575 rfl (pc' := 577) rfl ?_
            refine g_lload K W at_577 rfl (pc' := 579) rfl ?_
            have hJin2 : ∀ in2 : Int32, in2 = (if S p2 = true then 1 else 0) → Go p e below s n0 (Q_c0 Z n0 h0 x0 x1 x2 x3) 40 320 T (mkF m 596 #[.val (.int x0), .val (.int x1), .val (.int x2), .val (.int x3), .val (.ref a2), .val (.int (Int32.ofNat nn)), .val (.int (Int32.ofNat st)), .val (.int mi), .val (.int bw), .val (.ref a112), .val (.ref a188), .val (.ref a218), .val (.ref a246), .val (.ref av), .val (.long v417), .second, .val (.long v426), .second, .val (.long v435), .second, .val (.long v444), .second, .val (.long v453), .second, .val (.long v462), .second, .val (.long v469), .second, .val (.long v479), .second, .val (.long v489), .second, .val (.long v496), .second, .val (.long v515), .second, .val (.int in1), .unset] [(.int in2)]) := by
              intro in2 hJin2_in2
              refine g_istore K W at_596 (Ls' := #[.val (.int x0), .val (.int x1), .val (.int x2), .val (.int x3), .val (.ref a2), .val (.int (Int32.ofNat nn)), .val (.int (Int32.ofNat st)), .val (.int mi), .val (.int bw), .val (.ref a112), .val (.ref a188), .val (.ref a218), .val (.ref a246), .val (.ref av), .val (.long v417), .second, .val (.long v426), .second, .val (.long v435), .second, .val (.long v444), .second, .val (.long v453), .second, .val (.long v462), .second, .val (.long v469), .second, .val (.long v479), .second, .val (.long v489), .second, .val (.long v496), .second, .val (.long v515), .second, .val (.int in1), .val (.int in2)]) rfl (pc' := 598) rfl ?_
              refine g_aload K W at_598 rfl rfl (pc' := 600) rfl ?_
              refine g_aload K W at_600 rfl rfl (pc' := 602) rfl ?_
              refine g_iconst K W (v := (0 : Int32)) at_602 rfl (pc' := 603) rfl ?_
              refine g_iaload K W A_a112 (k := 0) rfl (by decide) (v := (Int32.ofNat p0)) eP0 at_603 (pc' := 604) rfl ?_
              refine g_zaload K W A_av (k := p0) (own_ofNat (by omega)) l0 (v := (1 : Int32)) (by rw [hgv p0 l0, sd.1]; rfl) at_604 (pc' := 605) rfl ?_
              refine g_if_eq K W at_605 (pt := 662) rfl (pf := 608) rfl (fun hc605 => absurd hc605 (by decide)) (fun hc605 => ?_)
              refine g_aload K W at_608 rfl rfl (pc' := 610) rfl ?_
              refine g_aload K W at_610 rfl rfl (pc' := 612) rfl ?_
              refine g_iconst K W (v := (3 : Int32)) at_612 rfl (pc' := 613) rfl ?_
              refine g_iaload K W A_a112 (k := 3) rfl (by decide) (v := (Int32.ofNat p3)) eP3 at_613 (pc' := 614) rfl ?_
              refine g_zaload K W A_av (k := p3) (own_ofNat (by omega)) l3 (v := (0 : Int32)) (by rw [hgv p3 l3, sd.2.1]; rfl) at_614 (pc' := 615) rfl ?_
              refine g_if_ne K W at_615 (pt := 662) rfl (pf := 618) rfl (fun hc615 => ?_) (fun hc615 => absurd rfl hc615)
              refine g_aload K W at_618 rfl rfl (pc' := 620) rfl ?_
              refine g_aload K W at_620 rfl rfl (pc' := 622) rfl ?_
              refine g_iconst K W (v := (1 : Int32)) at_622 rfl (pc' := 623) rfl ?_
              refine g_iaload K W A_a112 (k := 1) rfl (by decide) (v := (Int32.ofNat p1)) eP1 at_623 (pc' := 624) rfl ?_
              refine g_zaload K W A_av (k := p1) (own_ofNat (by omega)) l1 (v := in1) (by rw [hgv p1 l1, hJin1_in1]) at_624 (pc' := 625) rfl ?_
              refine g_iload K W at_625 rfl (pc' := 627) rfl ?_
              refine g_icmp_ne K W at_627 (pt := 662) rfl (pf := 630) rfl (fun hc627 => ?_) (fun hc627 => absurd rfl hc627)
              refine g_aload K W at_630 rfl rfl (pc' := 632) rfl ?_
              refine g_aload K W at_632 rfl rfl (pc' := 634) rfl ?_
              refine g_iconst K W (v := (2 : Int32)) at_634 rfl (pc' := 635) rfl ?_
              refine g_iaload K W A_a112 (k := 2) rfl (by decide) (v := (Int32.ofNat p2)) eP2 at_635 (pc' := 636) rfl ?_
              refine g_zaload K W A_av (k := p2) (own_ofNat (by omega)) l2 (v := in2) (by rw [hgv p2 l2, hJin2_in2]) at_636 (pc' := 637) rfl ?_
              refine g_iload K W at_637 rfl (pc' := 639) rfl ?_
              refine g_icmp_ne K W at_639 (pt := 662) rfl (pf := 642) rfl (fun hc639 => ?_) (fun hc639 => absurd rfl hc639)
              refine g_iload K W at_642 rfl (pc' := 644) rfl ?_
              refine g_iconst K W (v := (4 : Int32)) at_644 rfl (pc' := 645) rfl ?_
              refine g_icmp_eq K W at_645 (pt := 658) rfl (pf := 648) rfl (fun hc645 => ?_) (fun hc645 => ?_)
              · refine g_iconst K W (v := (1 : Int32)) at_658 rfl (pc' := 659) rfl ?_
                refine g_goto K W at_659 (pt := 663) rfl ?_
                exact g_retN K W (by simp) at_663 (by decide) (by decide) (v := (1 : Int32)) rfl rfl
              · have d4' := d4 (hnn.resolve_left (fun z => hc645 (by rw [z]; rfl)))
                refine g_aload K W at_648 rfl rfl (pc' := 650) rfl ?_
                refine g_aload K W at_650 rfl rfl (pc' := 652) rfl ?_
                refine g_iconst K W (v := (4 : Int32)) at_652 rfl (pc' := 653) rfl ?_
                refine g_iaload K W A_a112 (k := 4) rfl (by decide) (v := (Int32.ofNat p4)) eP4 at_653 (pc' := 654) rfl ?_
                refine g_zaload K W A_av (k := p4) (own_ofNat (by omega)) l4 (v := (0 : Int32)) (by rw [hgv p4 l4, own_iso d4'.1 d4'.2.1 d4'.2.2.1 d4'.2.2.2 l4 hKs sd]; rfl) at_654 (pc' := 655) rfl ?_
                refine g_if_ne K W at_655 (pt := 662) rfl (pf := 658) rfl (fun hc655 => ?_) (fun hc655 => absurd rfl hc655)
                refine g_iconst K W (v := (1 : Int32)) at_658 rfl (pc' := 659) rfl ?_
                refine g_goto K W at_659 (pt := 663) rfl ?_
                exact g_retN K W (by simp) at_663 (by decide) (by decide) (v := (1 : Int32)) rfl rfl
            refine g_lcmp_eq K W at_579 (pc1 := 580) rfl at_580 (pt := 595) rfl (pf := 583) rfl (fun hc579 => ?_) (fun hc579 => ?_)
            · refine g_iconst K W (v := (0 : Int32)) at_595 rfl (pc' := 596) rfl ?_
              exact hJin2 _ (by rw [if_neg (fun z => (n4.mp z).1 hc579)])
            · refine g_lload K W at_583 rfl (pc' := 585) rfl ?_
              refine g_lload K W at_585 rfl (pc' := 587) rfl ?_
              refine g_lcmp_eq K W at_587 (pc1 := 588) rfl at_588 (pt := 595) rfl (pf := 591) rfl (fun hc587 => ?_) (fun hc587 => ?_)
              · refine g_iconst K W (v := (0 : Int32)) at_595 rfl (pc' := 596) rfl ?_
                exact hJin2 _ (by rw [if_neg (fun z => (n4.mp z).2 hc587)])
              · refine g_iconst K W (v := (1 : Int32)) at_591 rfl (pc' := 592) rfl ?_
                refine g_goto K W at_592 (pt := 596) rfl ?_
                exact hJin2 _ (by rw [if_pos (n4.mpr ⟨hc579, hc587⟩)])
          refine g_lcmp_eq K W at_556 (pc1 := 557) rfl at_557 (pt := 572) rfl (pf := 560) rfl (fun hc556 => ?_) (fun hc556 => ?_)
          · refine g_iconst K W (v := (0 : Int32)) at_572 rfl (pc' := 573) rfl ?_
            exact hJin1 _ (by rw [if_neg (fun z => (n3.mp z).1 hc556)])
          · refine g_lload K W at_560 rfl (pc' := 562) rfl ?_
            refine g_lload K W at_562 rfl (pc' := 564) rfl ?_
            refine g_lcmp_eq K W at_564 (pc1 := 565) rfl at_565 (pt := 572) rfl (pf := 568) rfl (fun hc564 => ?_) (fun hc564 => ?_)
            · refine g_iconst K W (v := (0 : Int32)) at_572 rfl (pc' := 573) rfl ?_
              exact hJin1 _ (by rw [if_neg (fun z => (n3.mp z).2 hc564)])
            · refine g_iconst K W (v := (1 : Int32)) at_568 rfl (pc' := 569) rfl ?_
              refine g_goto K W at_569 (pt := 573) rfl ?_
              exact hJin1 _ (by rw [if_pos (n3.mpr ⟨hc556, hc564⟩)])
      rcases hJb_bw with rfl | rfl
      · show Go p e below s n0 (Q_c0 Z n0 h0 x0 x1 x2 x3) 40 320 T (mkF m 257 #[.val (.int x0), .val (.int x1), .val (.int x2), .val (.int x3), .val (.ref a2), .val (.int (Int32.ofNat nn)), .val (.int (Int32.ofNat st)), .val (.int mi), .val (.int (0 : Int32)), .val (.ref a112), .val (.ref a188), .val (.ref a218), .val (.ref a246), .unset, .unset, .unset, .unset, .unset, .unset, .unset, .unset, .unset, .unset, .unset, .unset, .unset, .unset, .unset, .unset, .unset, .unset, .unset, .unset, .unset, .unset, .unset, .unset, .unset] [])
        refine g_aload K W at_257 rfl rfl (pc' := 259) rfl ?_
        refine g_iload K W at_259 rfl (pc' := 261) rfl ?_
        refine g_if_eq K W at_261 (pt := 268) rfl (pf := 264) rfl (fun hc261 => ?_) (fun hc261 => absurd rfl hc261)
        refine g_iconst K W (v := (0 : Int32)) at_268 rfl (pc' := 269) rfl ?_
        refine g_aload K W at_269 rfl rfl (pc' := 271) rfl ?_
        refine g_aload K W at_271 rfl rfl (pc' := 273) rfl ?_
        refine g_aload K W at_273 rfl rfl (pc' := 275) rfl ?_
        refine g_aload K W at_275 rfl rfl (pc' := 277) rfl ?_
        refine g_callS (c_addE l Z a0 hw n0 _ W.sz a246 (0 : Int32) a188 a218 a112 a2 f_a188 f_a218 f_a112 f_a2 nn 0 (fun _ => 0) [a2, a112, a188, a218] 0 0 1 p0 p1 A_a188 A_a218 A_a112 A_a2 P rfl (by decide) eF0 (by decide) eT0 (by decide) eP0 l0 eP1 l1 hnn5 (by decide) hC0) K W (hw _ (List.mem_of_getElem? (i := 32) rfl)) (hw _ (List.mem_of_getElem? (i := 33) rfl)) (hw _ (List.mem_of_getElem? (i := 3) rfl)) (hw _ (List.mem_of_getElem? (i := 34) rfl)) (by decide) (lenOf pd_11 rfl) at_277 (pc' := 280) rfl (argsL := [(.ref a246), (.int (0 : Int32)), (.ref a188), (.ref a218), (.ref a112), (.ref a2)]) (rest := []) rfl rfl (by decide) (wt := 0) rfl (by decide) (by decide) (by decide) ?_
        rintro T h _ W ⟨rfl, sm, P⟩
        show Go p e below s n0 (Q_c0 Z n0 h0 x0 x1 x2 x3) 40 320 T (mkF m 280 #[.val (.int x0), .val (.int x1), .val (.int x2), .val (.int x3), .val (.ref a2), .val (.int (Int32.ofNat nn)), .val (.int (Int32.ofNat st)), .val (.int mi), .val (.int (0 : Int32)), .val (.ref a112), .val (.ref a188), .val (.ref a218), .val (.ref a246), .unset, .unset, .unset, .unset, .unset, .unset, .unset, .unset, .unset, .unset, .unset, .unset, .unset, .unset, .unset, .unset, .unset, .unset, .unset, .unset, .unset, .unset, .unset, .unset, .unset] [])
        have A_a2 := A_a2.sm sm (by simp)
        have A_a112 := A_a112.sm sm (by simp)
        have A_a188 := A_a188.sm sm (by simp)
        have A_a218 := A_a218.sm sm (by simp)
        have X_a246 := P.1
        refine g_aload K W at_280 rfl rfl (pc' := 282) rfl ?_
        refine g_iload K W at_282 rfl (pc' := 284) rfl ?_
        refine g_if_eq K W at_284 (pt := 291) rfl (pf := 287) rfl (fun hc284 => ?_) (fun hc284 => absurd rfl hc284)
        refine g_iconst K W (v := (1 : Int32)) at_291 rfl (pc' := 292) rfl ?_
        refine g_aload K W at_292 rfl rfl (pc' := 294) rfl ?_
        refine g_aload K W at_294 rfl rfl (pc' := 296) rfl ?_
        refine g_aload K W at_296 rfl rfl (pc' := 298) rfl ?_
        refine g_aload K W at_298 rfl rfl (pc' := 300) rfl ?_
        refine g_callS (c_addE l Z a0 hw n0 _ W.sz a246 (1 : Int32) a188 a218 a112 a2 f_a188 f_a218 f_a112 f_a2 nn 1 (fun S => (fun _ => 0) S + if S p0 = true ∧ S p1 = false then min (f_a2 0).toInt 2305843009213693951 else 0) [a2, a112, a188, a218] 1 0 2 p0 p2 A_a188 A_a218 A_a112 A_a2 P rfl (by decide) eF1 (by decide) eT1 (by decide) eP0 l0 eP2 l2 hnn5 (by decide) hC1) K W (hw _ (List.mem_of_getElem? (i := 32) rfl)) (hw _ (List.mem_of_getElem? (i := 33) rfl)) (hw _ (List.mem_of_getElem? (i := 3) rfl)) (hw _ (List.mem_of_getElem? (i := 34) rfl)) (by decide) (lenOf pd_11 rfl) at_300 (pc' := 303) rfl (argsL := [(.ref a246), (.int (1 : Int32)), (.ref a188), (.ref a218), (.ref a112), (.ref a2)]) (rest := []) rfl rfl (by decide) (wt := 0) rfl (by decide) (by decide) (by decide) ?_
        rintro T h _ W ⟨rfl, sm, P⟩
        show Go p e below s n0 (Q_c0 Z n0 h0 x0 x1 x2 x3) 40 320 T (mkF m 303 #[.val (.int x0), .val (.int x1), .val (.int x2), .val (.int x3), .val (.ref a2), .val (.int (Int32.ofNat nn)), .val (.int (Int32.ofNat st)), .val (.int mi), .val (.int (0 : Int32)), .val (.ref a112), .val (.ref a188), .val (.ref a218), .val (.ref a246), .unset, .unset, .unset, .unset, .unset, .unset, .unset, .unset, .unset, .unset, .unset, .unset, .unset, .unset, .unset, .unset, .unset, .unset, .unset, .unset, .unset, .unset, .unset, .unset, .unset] [])
        have A_a2 := A_a2.sm sm (by simp)
        have A_a112 := A_a112.sm sm (by simp)
        have A_a188 := A_a188.sm sm (by simp)
        have A_a218 := A_a218.sm sm (by simp)
        have X_a246 := P.1
        refine g_aload K W at_303 rfl rfl (pc' := 305) rfl ?_
        refine g_iload K W at_305 rfl (pc' := 307) rfl ?_
        refine g_if_eq K W at_307 (pt := 314) rfl (pf := 310) rfl (fun hc307 => ?_) (fun hc307 => absurd rfl hc307)
        refine g_iconst K W (v := (2 : Int32)) at_314 rfl (pc' := 315) rfl ?_
        refine g_aload K W at_315 rfl rfl (pc' := 317) rfl ?_
        refine g_aload K W at_317 rfl rfl (pc' := 319) rfl ?_
        refine g_aload K W at_319 rfl rfl (pc' := 321) rfl ?_
        refine g_aload K W at_321 rfl rfl (pc' := 323) rfl ?_
        refine g_callS (c_addE l Z a0 hw n0 _ W.sz a246 (2 : Int32) a188 a218 a112 a2 f_a188 f_a218 f_a112 f_a2 nn 2 (fun S => (fun S => (fun _ => 0) S + if S p0 = true ∧ S p1 = false then min (f_a2 0).toInt 2305843009213693951 else 0) S + if S p0 = true ∧ S p2 = false then min (f_a2 1).toInt 2305843009213693951 else 0) [a2, a112, a188, a218] 2 1 2 p1 p2 A_a188 A_a218 A_a112 A_a2 P rfl (by decide) eF2 (by decide) eT2 (by decide) eP1 l1 eP2 l2 hnn5 (by decide) hC2) K W (hw _ (List.mem_of_getElem? (i := 32) rfl)) (hw _ (List.mem_of_getElem? (i := 33) rfl)) (hw _ (List.mem_of_getElem? (i := 3) rfl)) (hw _ (List.mem_of_getElem? (i := 34) rfl)) (by decide) (lenOf pd_11 rfl) at_323 (pc' := 326) rfl (argsL := [(.ref a246), (.int (2 : Int32)), (.ref a188), (.ref a218), (.ref a112), (.ref a2)]) (rest := []) rfl rfl (by decide) (wt := 0) rfl (by decide) (by decide) (by decide) ?_
        rintro T h _ W ⟨rfl, sm, P⟩
        show Go p e below s n0 (Q_c0 Z n0 h0 x0 x1 x2 x3) 40 320 T (mkF m 326 #[.val (.int x0), .val (.int x1), .val (.int x2), .val (.int x3), .val (.ref a2), .val (.int (Int32.ofNat nn)), .val (.int (Int32.ofNat st)), .val (.int mi), .val (.int (0 : Int32)), .val (.ref a112), .val (.ref a188), .val (.ref a218), .val (.ref a246), .unset, .unset, .unset, .unset, .unset, .unset, .unset, .unset, .unset, .unset, .unset, .unset, .unset, .unset, .unset, .unset, .unset, .unset, .unset, .unset, .unset, .unset, .unset, .unset, .unset] [])
        have A_a2 := A_a2.sm sm (by simp)
        have A_a112 := A_a112.sm sm (by simp)
        have A_a188 := A_a188.sm sm (by simp)
        have A_a218 := A_a218.sm sm (by simp)
        have X_a246 := P.1
        refine g_aload K W at_326 rfl rfl (pc' := 328) rfl ?_
        refine g_iload K W at_328 rfl (pc' := 330) rfl ?_
        refine g_if_eq K W at_330 (pt := 337) rfl (pf := 333) rfl (fun hc330 => ?_) (fun hc330 => absurd rfl hc330)
        refine g_iconst K W (v := (3 : Int32)) at_337 rfl (pc' := 338) rfl ?_
        refine g_aload K W at_338 rfl rfl (pc' := 340) rfl ?_
        refine g_aload K W at_340 rfl rfl (pc' := 342) rfl ?_
        refine g_aload K W at_342 rfl rfl (pc' := 344) rfl ?_
        refine g_aload K W at_344 rfl rfl (pc' := 346) rfl ?_
        refine g_callS (c_addE l Z a0 hw n0 _ W.sz a246 (3 : Int32) a188 a218 a112 a2 f_a188 f_a218 f_a112 f_a2 nn 3 (fun S => (fun S => (fun S => (fun _ => 0) S + if S p0 = true ∧ S p1 = false then min (f_a2 0).toInt 2305843009213693951 else 0) S + if S p0 = true ∧ S p2 = false then min (f_a2 1).toInt 2305843009213693951 else 0) S + if S p1 = true ∧ S p2 = false then min (f_a2 2).toInt 2305843009213693951 else 0) [a2, a112, a188, a218] 3 2 1 p2 p1 A_a188 A_a218 A_a112 A_a2 P rfl (by decide) eF3 (by decide) eT3 (by decide) eP2 l2 eP1 l1 hnn5 (by decide) hC3) K W (hw _ (List.mem_of_getElem? (i := 32) rfl)) (hw _ (List.mem_of_getElem? (i := 33) rfl)) (hw _ (List.mem_of_getElem? (i := 3) rfl)) (hw _ (List.mem_of_getElem? (i := 34) rfl)) (by decide) (lenOf pd_11 rfl) at_346 (pc' := 349) rfl (argsL := [(.ref a246), (.int (3 : Int32)), (.ref a188), (.ref a218), (.ref a112), (.ref a2)]) (rest := []) rfl rfl (by decide) (wt := 0) rfl (by decide) (by decide) (by decide) ?_
        rintro T h _ W ⟨rfl, sm, P⟩
        show Go p e below s n0 (Q_c0 Z n0 h0 x0 x1 x2 x3) 40 320 T (mkF m 349 #[.val (.int x0), .val (.int x1), .val (.int x2), .val (.int x3), .val (.ref a2), .val (.int (Int32.ofNat nn)), .val (.int (Int32.ofNat st)), .val (.int mi), .val (.int (0 : Int32)), .val (.ref a112), .val (.ref a188), .val (.ref a218), .val (.ref a246), .unset, .unset, .unset, .unset, .unset, .unset, .unset, .unset, .unset, .unset, .unset, .unset, .unset, .unset, .unset, .unset, .unset, .unset, .unset, .unset, .unset, .unset, .unset, .unset, .unset] [])
        have A_a2 := A_a2.sm sm (by simp)
        have A_a112 := A_a112.sm sm (by simp)
        have A_a188 := A_a188.sm sm (by simp)
        have A_a218 := A_a218.sm sm (by simp)
        have X_a246 := P.1
        refine g_aload K W at_349 rfl rfl (pc' := 351) rfl ?_
        refine g_iload K W at_351 rfl (pc' := 353) rfl ?_
        refine g_if_eq K W at_353 (pt := 360) rfl (pf := 356) rfl (fun hc353 => ?_) (fun hc353 => absurd rfl hc353)
        refine g_iconst K W (v := (4 : Int32)) at_360 rfl (pc' := 361) rfl ?_
        refine g_aload K W at_361 rfl rfl (pc' := 363) rfl ?_
        refine g_aload K W at_363 rfl rfl (pc' := 365) rfl ?_
        refine g_aload K W at_365 rfl rfl (pc' := 367) rfl ?_
        refine g_aload K W at_367 rfl rfl (pc' := 369) rfl ?_
        refine g_callS (c_addE l Z a0 hw n0 _ W.sz a246 (4 : Int32) a188 a218 a112 a2 f_a188 f_a218 f_a112 f_a2 nn 4 (fun S => (fun S => (fun S => (fun S => (fun _ => 0) S + if S p0 = true ∧ S p1 = false then min (f_a2 0).toInt 2305843009213693951 else 0) S + if S p0 = true ∧ S p2 = false then min (f_a2 1).toInt 2305843009213693951 else 0) S + if S p1 = true ∧ S p2 = false then min (f_a2 2).toInt 2305843009213693951 else 0) S + if S p2 = true ∧ S p1 = false then min (f_a2 3).toInt 2305843009213693951 else 0) [a2, a112, a188, a218] 4 1 3 p1 p3 A_a188 A_a218 A_a112 A_a2 P rfl (by decide) eF4 (by decide) eT4 (by decide) eP1 l1 eP3 l3 hnn5 (by decide) hC4) K W (hw _ (List.mem_of_getElem? (i := 32) rfl)) (hw _ (List.mem_of_getElem? (i := 33) rfl)) (hw _ (List.mem_of_getElem? (i := 3) rfl)) (hw _ (List.mem_of_getElem? (i := 34) rfl)) (by decide) (lenOf pd_11 rfl) at_369 (pc' := 372) rfl (argsL := [(.ref a246), (.int (4 : Int32)), (.ref a188), (.ref a218), (.ref a112), (.ref a2)]) (rest := []) rfl rfl (by decide) (wt := 0) rfl (by decide) (by decide) (by decide) ?_
        rintro T h _ W ⟨rfl, sm, P⟩
        show Go p e below s n0 (Q_c0 Z n0 h0 x0 x1 x2 x3) 40 320 T (mkF m 372 #[.val (.int x0), .val (.int x1), .val (.int x2), .val (.int x3), .val (.ref a2), .val (.int (Int32.ofNat nn)), .val (.int (Int32.ofNat st)), .val (.int mi), .val (.int (0 : Int32)), .val (.ref a112), .val (.ref a188), .val (.ref a218), .val (.ref a246), .unset, .unset, .unset, .unset, .unset, .unset, .unset, .unset, .unset, .unset, .unset, .unset, .unset, .unset, .unset, .unset, .unset, .unset, .unset, .unset, .unset, .unset, .unset, .unset, .unset] [])
        have A_a2 := A_a2.sm sm (by simp)
        have A_a112 := A_a112.sm sm (by simp)
        have A_a188 := A_a188.sm sm (by simp)
        have A_a218 := A_a218.sm sm (by simp)
        have X_a246 := P.1
        refine g_aload K W at_372 rfl rfl (pc' := 374) rfl ?_
        refine g_iload K W at_374 rfl (pc' := 376) rfl ?_
        refine g_if_eq K W at_376 (pt := 383) rfl (pf := 379) rfl (fun hc376 => ?_) (fun hc376 => absurd rfl hc376)
        refine g_iconst K W (v := (5 : Int32)) at_383 rfl (pc' := 384) rfl ?_
        refine g_aload K W at_384 rfl rfl (pc' := 386) rfl ?_
        refine g_aload K W at_386 rfl rfl (pc' := 388) rfl ?_
        refine g_aload K W at_388 rfl rfl (pc' := 390) rfl ?_
        refine g_aload K W at_390 rfl rfl (pc' := 392) rfl ?_
        refine g_callS (c_addE l Z a0 hw n0 _ W.sz a246 (5 : Int32) a188 a218 a112 a2 f_a188 f_a218 f_a112 f_a2 nn 5 (fun S => (fun S => (fun S => (fun S => (fun S => (fun _ => 0) S + if S p0 = true ∧ S p1 = false then min (f_a2 0).toInt 2305843009213693951 else 0) S + if S p0 = true ∧ S p2 = false then min (f_a2 1).toInt 2305843009213693951 else 0) S + if S p1 = true ∧ S p2 = false then min (f_a2 2).toInt 2305843009213693951 else 0) S + if S p2 = true ∧ S p1 = false then min (f_a2 3).toInt 2305843009213693951 else 0) S + if S p1 = true ∧ S p3 = false then min (f_a2 4).toInt 2305843009213693951 else 0) [a2, a112, a188, a218] 5 2 3 p2 p3 A_a188 A_a218 A_a112 A_a2 P rfl (by decide) eF5 (by decide) eT5 (by decide) eP2 l2 eP3 l3 hnn5 (by decide) hC5) K W (hw _ (List.mem_of_getElem? (i := 32) rfl)) (hw _ (List.mem_of_getElem? (i := 33) rfl)) (hw _ (List.mem_of_getElem? (i := 3) rfl)) (hw _ (List.mem_of_getElem? (i := 34) rfl)) (by decide) (lenOf pd_11 rfl) at_392 (pc' := 395) rfl (argsL := [(.ref a246), (.int (5 : Int32)), (.ref a188), (.ref a218), (.ref a112), (.ref a2)]) (rest := []) rfl rfl (by decide) (wt := 0) rfl (by decide) (by decide) (by decide) ?_
        rintro T h _ W ⟨rfl, sm, P⟩
        show Go p e below s n0 (Q_c0 Z n0 h0 x0 x1 x2 x3) 40 320 T (mkF m 395 #[.val (.int x0), .val (.int x1), .val (.int x2), .val (.int x3), .val (.ref a2), .val (.int (Int32.ofNat nn)), .val (.int (Int32.ofNat st)), .val (.int mi), .val (.int (0 : Int32)), .val (.ref a112), .val (.ref a188), .val (.ref a218), .val (.ref a246), .unset, .unset, .unset, .unset, .unset, .unset, .unset, .unset, .unset, .unset, .unset, .unset, .unset, .unset, .unset, .unset, .unset, .unset, .unset, .unset, .unset, .unset, .unset, .unset, .unset] [])
        have A_a2 := A_a2.sm sm (by simp)
        have A_a112 := A_a112.sm sm (by simp)
        have A_a188 := A_a188.sm sm (by simp)
        have A_a218 := A_a218.sm sm (by simp)
        have X_a246 := P.1
        exact hJz _ _ _ P (fun S => by unfold K6; rw [eC0, eC1, eC2, eC3, eC4, eC5]; dsimp only; omega) A_a2 A_a112 A_a188 A_a218 X_a246 (W.mono (by decide) (by decide))
      · show Go p e below s n0 (Q_c0 Z n0 h0 x0 x1 x2 x3) 40 320 T (mkF m 257 #[.val (.int x0), .val (.int x1), .val (.int x2), .val (.int x3), .val (.ref a2), .val (.int (Int32.ofNat nn)), .val (.int (Int32.ofNat st)), .val (.int mi), .val (.int (1 : Int32)), .val (.ref a112), .val (.ref a188), .val (.ref a218), .val (.ref a246), .unset, .unset, .unset, .unset, .unset, .unset, .unset, .unset, .unset, .unset, .unset, .unset, .unset, .unset, .unset, .unset, .unset, .unset, .unset, .unset, .unset, .unset, .unset, .unset, .unset] [])
        refine g_aload K W at_257 rfl rfl (pc' := 259) rfl ?_
        refine g_iload K W at_259 rfl (pc' := 261) rfl ?_
        refine g_if_eq K W at_261 (pt := 268) rfl (pf := 264) rfl (fun hc261 => absurd hc261 (by decide)) (fun hc261 => ?_)
        refine g_iconst K W (v := (5 : Int32)) at_264 rfl (pc' := 265) rfl ?_
        refine g_goto K W at_265 (pt := 269) rfl ?_
        refine g_aload K W at_269 rfl rfl (pc' := 271) rfl ?_
        refine g_aload K W at_271 rfl rfl (pc' := 273) rfl ?_
        refine g_aload K W at_273 rfl rfl (pc' := 275) rfl ?_
        refine g_aload K W at_275 rfl rfl (pc' := 277) rfl ?_
        refine g_callS (c_addE l Z a0 hw n0 _ W.sz a246 (5 : Int32) a188 a218 a112 a2 f_a188 f_a218 f_a112 f_a2 nn 0 (fun _ => 0) [a2, a112, a188, a218] 5 2 3 p2 p3 A_a188 A_a218 A_a112 A_a2 P rfl (by decide) eF5 (by decide) eT5 (by decide) eP2 l2 eP3 l3 hnn5 (by decide) hC5) K W (hw _ (List.mem_of_getElem? (i := 32) rfl)) (hw _ (List.mem_of_getElem? (i := 33) rfl)) (hw _ (List.mem_of_getElem? (i := 3) rfl)) (hw _ (List.mem_of_getElem? (i := 34) rfl)) (by decide) (lenOf pd_11 rfl) at_277 (pc' := 280) rfl (argsL := [(.ref a246), (.int (5 : Int32)), (.ref a188), (.ref a218), (.ref a112), (.ref a2)]) (rest := []) rfl rfl (by decide) (wt := 0) rfl (by decide) (by decide) (by decide) ?_
        rintro T h _ W ⟨rfl, sm, P⟩
        show Go p e below s n0 (Q_c0 Z n0 h0 x0 x1 x2 x3) 40 320 T (mkF m 280 #[.val (.int x0), .val (.int x1), .val (.int x2), .val (.int x3), .val (.ref a2), .val (.int (Int32.ofNat nn)), .val (.int (Int32.ofNat st)), .val (.int mi), .val (.int (1 : Int32)), .val (.ref a112), .val (.ref a188), .val (.ref a218), .val (.ref a246), .unset, .unset, .unset, .unset, .unset, .unset, .unset, .unset, .unset, .unset, .unset, .unset, .unset, .unset, .unset, .unset, .unset, .unset, .unset, .unset, .unset, .unset, .unset, .unset, .unset] [])
        have A_a2 := A_a2.sm sm (by simp)
        have A_a112 := A_a112.sm sm (by simp)
        have A_a188 := A_a188.sm sm (by simp)
        have A_a218 := A_a218.sm sm (by simp)
        have X_a246 := P.1
        refine g_aload K W at_280 rfl rfl (pc' := 282) rfl ?_
        refine g_iload K W at_282 rfl (pc' := 284) rfl ?_
        refine g_if_eq K W at_284 (pt := 291) rfl (pf := 287) rfl (fun hc284 => absurd hc284 (by decide)) (fun hc284 => ?_)
        refine g_iconst K W (v := (4 : Int32)) at_287 rfl (pc' := 288) rfl ?_
        refine g_goto K W at_288 (pt := 292) rfl ?_
        refine g_aload K W at_292 rfl rfl (pc' := 294) rfl ?_
        refine g_aload K W at_294 rfl rfl (pc' := 296) rfl ?_
        refine g_aload K W at_296 rfl rfl (pc' := 298) rfl ?_
        refine g_aload K W at_298 rfl rfl (pc' := 300) rfl ?_
        refine g_callS (c_addE l Z a0 hw n0 _ W.sz a246 (4 : Int32) a188 a218 a112 a2 f_a188 f_a218 f_a112 f_a2 nn 1 (fun S => (fun _ => 0) S + if S p2 = true ∧ S p3 = false then min (f_a2 5).toInt 2305843009213693951 else 0) [a2, a112, a188, a218] 4 1 3 p1 p3 A_a188 A_a218 A_a112 A_a2 P rfl (by decide) eF4 (by decide) eT4 (by decide) eP1 l1 eP3 l3 hnn5 (by decide) hC4) K W (hw _ (List.mem_of_getElem? (i := 32) rfl)) (hw _ (List.mem_of_getElem? (i := 33) rfl)) (hw _ (List.mem_of_getElem? (i := 3) rfl)) (hw _ (List.mem_of_getElem? (i := 34) rfl)) (by decide) (lenOf pd_11 rfl) at_300 (pc' := 303) rfl (argsL := [(.ref a246), (.int (4 : Int32)), (.ref a188), (.ref a218), (.ref a112), (.ref a2)]) (rest := []) rfl rfl (by decide) (wt := 0) rfl (by decide) (by decide) (by decide) ?_
        rintro T h _ W ⟨rfl, sm, P⟩
        show Go p e below s n0 (Q_c0 Z n0 h0 x0 x1 x2 x3) 40 320 T (mkF m 303 #[.val (.int x0), .val (.int x1), .val (.int x2), .val (.int x3), .val (.ref a2), .val (.int (Int32.ofNat nn)), .val (.int (Int32.ofNat st)), .val (.int mi), .val (.int (1 : Int32)), .val (.ref a112), .val (.ref a188), .val (.ref a218), .val (.ref a246), .unset, .unset, .unset, .unset, .unset, .unset, .unset, .unset, .unset, .unset, .unset, .unset, .unset, .unset, .unset, .unset, .unset, .unset, .unset, .unset, .unset, .unset, .unset, .unset, .unset] [])
        have A_a2 := A_a2.sm sm (by simp)
        have A_a112 := A_a112.sm sm (by simp)
        have A_a188 := A_a188.sm sm (by simp)
        have A_a218 := A_a218.sm sm (by simp)
        have X_a246 := P.1
        refine g_aload K W at_303 rfl rfl (pc' := 305) rfl ?_
        refine g_iload K W at_305 rfl (pc' := 307) rfl ?_
        refine g_if_eq K W at_307 (pt := 314) rfl (pf := 310) rfl (fun hc307 => absurd hc307 (by decide)) (fun hc307 => ?_)
        refine g_iconst K W (v := (3 : Int32)) at_310 rfl (pc' := 311) rfl ?_
        refine g_goto K W at_311 (pt := 315) rfl ?_
        refine g_aload K W at_315 rfl rfl (pc' := 317) rfl ?_
        refine g_aload K W at_317 rfl rfl (pc' := 319) rfl ?_
        refine g_aload K W at_319 rfl rfl (pc' := 321) rfl ?_
        refine g_aload K W at_321 rfl rfl (pc' := 323) rfl ?_
        refine g_callS (c_addE l Z a0 hw n0 _ W.sz a246 (3 : Int32) a188 a218 a112 a2 f_a188 f_a218 f_a112 f_a2 nn 2 (fun S => (fun S => (fun _ => 0) S + if S p2 = true ∧ S p3 = false then min (f_a2 5).toInt 2305843009213693951 else 0) S + if S p1 = true ∧ S p3 = false then min (f_a2 4).toInt 2305843009213693951 else 0) [a2, a112, a188, a218] 3 2 1 p2 p1 A_a188 A_a218 A_a112 A_a2 P rfl (by decide) eF3 (by decide) eT3 (by decide) eP2 l2 eP1 l1 hnn5 (by decide) hC3) K W (hw _ (List.mem_of_getElem? (i := 32) rfl)) (hw _ (List.mem_of_getElem? (i := 33) rfl)) (hw _ (List.mem_of_getElem? (i := 3) rfl)) (hw _ (List.mem_of_getElem? (i := 34) rfl)) (by decide) (lenOf pd_11 rfl) at_323 (pc' := 326) rfl (argsL := [(.ref a246), (.int (3 : Int32)), (.ref a188), (.ref a218), (.ref a112), (.ref a2)]) (rest := []) rfl rfl (by decide) (wt := 0) rfl (by decide) (by decide) (by decide) ?_
        rintro T h _ W ⟨rfl, sm, P⟩
        show Go p e below s n0 (Q_c0 Z n0 h0 x0 x1 x2 x3) 40 320 T (mkF m 326 #[.val (.int x0), .val (.int x1), .val (.int x2), .val (.int x3), .val (.ref a2), .val (.int (Int32.ofNat nn)), .val (.int (Int32.ofNat st)), .val (.int mi), .val (.int (1 : Int32)), .val (.ref a112), .val (.ref a188), .val (.ref a218), .val (.ref a246), .unset, .unset, .unset, .unset, .unset, .unset, .unset, .unset, .unset, .unset, .unset, .unset, .unset, .unset, .unset, .unset, .unset, .unset, .unset, .unset, .unset, .unset, .unset, .unset, .unset] [])
        have A_a2 := A_a2.sm sm (by simp)
        have A_a112 := A_a112.sm sm (by simp)
        have A_a188 := A_a188.sm sm (by simp)
        have A_a218 := A_a218.sm sm (by simp)
        have X_a246 := P.1
        refine g_aload K W at_326 rfl rfl (pc' := 328) rfl ?_
        refine g_iload K W at_328 rfl (pc' := 330) rfl ?_
        refine g_if_eq K W at_330 (pt := 337) rfl (pf := 333) rfl (fun hc330 => absurd hc330 (by decide)) (fun hc330 => ?_)
        refine g_iconst K W (v := (2 : Int32)) at_333 rfl (pc' := 334) rfl ?_
        refine g_goto K W at_334 (pt := 338) rfl ?_
        refine g_aload K W at_338 rfl rfl (pc' := 340) rfl ?_
        refine g_aload K W at_340 rfl rfl (pc' := 342) rfl ?_
        refine g_aload K W at_342 rfl rfl (pc' := 344) rfl ?_
        refine g_aload K W at_344 rfl rfl (pc' := 346) rfl ?_
        refine g_callS (c_addE l Z a0 hw n0 _ W.sz a246 (2 : Int32) a188 a218 a112 a2 f_a188 f_a218 f_a112 f_a2 nn 3 (fun S => (fun S => (fun S => (fun _ => 0) S + if S p2 = true ∧ S p3 = false then min (f_a2 5).toInt 2305843009213693951 else 0) S + if S p1 = true ∧ S p3 = false then min (f_a2 4).toInt 2305843009213693951 else 0) S + if S p2 = true ∧ S p1 = false then min (f_a2 3).toInt 2305843009213693951 else 0) [a2, a112, a188, a218] 2 1 2 p1 p2 A_a188 A_a218 A_a112 A_a2 P rfl (by decide) eF2 (by decide) eT2 (by decide) eP1 l1 eP2 l2 hnn5 (by decide) hC2) K W (hw _ (List.mem_of_getElem? (i := 32) rfl)) (hw _ (List.mem_of_getElem? (i := 33) rfl)) (hw _ (List.mem_of_getElem? (i := 3) rfl)) (hw _ (List.mem_of_getElem? (i := 34) rfl)) (by decide) (lenOf pd_11 rfl) at_346 (pc' := 349) rfl (argsL := [(.ref a246), (.int (2 : Int32)), (.ref a188), (.ref a218), (.ref a112), (.ref a2)]) (rest := []) rfl rfl (by decide) (wt := 0) rfl (by decide) (by decide) (by decide) ?_
        rintro T h _ W ⟨rfl, sm, P⟩
        show Go p e below s n0 (Q_c0 Z n0 h0 x0 x1 x2 x3) 40 320 T (mkF m 349 #[.val (.int x0), .val (.int x1), .val (.int x2), .val (.int x3), .val (.ref a2), .val (.int (Int32.ofNat nn)), .val (.int (Int32.ofNat st)), .val (.int mi), .val (.int (1 : Int32)), .val (.ref a112), .val (.ref a188), .val (.ref a218), .val (.ref a246), .unset, .unset, .unset, .unset, .unset, .unset, .unset, .unset, .unset, .unset, .unset, .unset, .unset, .unset, .unset, .unset, .unset, .unset, .unset, .unset, .unset, .unset, .unset, .unset, .unset] [])
        have A_a2 := A_a2.sm sm (by simp)
        have A_a112 := A_a112.sm sm (by simp)
        have A_a188 := A_a188.sm sm (by simp)
        have A_a218 := A_a218.sm sm (by simp)
        have X_a246 := P.1
        refine g_aload K W at_349 rfl rfl (pc' := 351) rfl ?_
        refine g_iload K W at_351 rfl (pc' := 353) rfl ?_
        refine g_if_eq K W at_353 (pt := 360) rfl (pf := 356) rfl (fun hc353 => absurd hc353 (by decide)) (fun hc353 => ?_)
        refine g_iconst K W (v := (1 : Int32)) at_356 rfl (pc' := 357) rfl ?_
        refine g_goto K W at_357 (pt := 361) rfl ?_
        refine g_aload K W at_361 rfl rfl (pc' := 363) rfl ?_
        refine g_aload K W at_363 rfl rfl (pc' := 365) rfl ?_
        refine g_aload K W at_365 rfl rfl (pc' := 367) rfl ?_
        refine g_aload K W at_367 rfl rfl (pc' := 369) rfl ?_
        refine g_callS (c_addE l Z a0 hw n0 _ W.sz a246 (1 : Int32) a188 a218 a112 a2 f_a188 f_a218 f_a112 f_a2 nn 4 (fun S => (fun S => (fun S => (fun S => (fun _ => 0) S + if S p2 = true ∧ S p3 = false then min (f_a2 5).toInt 2305843009213693951 else 0) S + if S p1 = true ∧ S p3 = false then min (f_a2 4).toInt 2305843009213693951 else 0) S + if S p2 = true ∧ S p1 = false then min (f_a2 3).toInt 2305843009213693951 else 0) S + if S p1 = true ∧ S p2 = false then min (f_a2 2).toInt 2305843009213693951 else 0) [a2, a112, a188, a218] 1 0 2 p0 p2 A_a188 A_a218 A_a112 A_a2 P rfl (by decide) eF1 (by decide) eT1 (by decide) eP0 l0 eP2 l2 hnn5 (by decide) hC1) K W (hw _ (List.mem_of_getElem? (i := 32) rfl)) (hw _ (List.mem_of_getElem? (i := 33) rfl)) (hw _ (List.mem_of_getElem? (i := 3) rfl)) (hw _ (List.mem_of_getElem? (i := 34) rfl)) (by decide) (lenOf pd_11 rfl) at_369 (pc' := 372) rfl (argsL := [(.ref a246), (.int (1 : Int32)), (.ref a188), (.ref a218), (.ref a112), (.ref a2)]) (rest := []) rfl rfl (by decide) (wt := 0) rfl (by decide) (by decide) (by decide) ?_
        rintro T h _ W ⟨rfl, sm, P⟩
        show Go p e below s n0 (Q_c0 Z n0 h0 x0 x1 x2 x3) 40 320 T (mkF m 372 #[.val (.int x0), .val (.int x1), .val (.int x2), .val (.int x3), .val (.ref a2), .val (.int (Int32.ofNat nn)), .val (.int (Int32.ofNat st)), .val (.int mi), .val (.int (1 : Int32)), .val (.ref a112), .val (.ref a188), .val (.ref a218), .val (.ref a246), .unset, .unset, .unset, .unset, .unset, .unset, .unset, .unset, .unset, .unset, .unset, .unset, .unset, .unset, .unset, .unset, .unset, .unset, .unset, .unset, .unset, .unset, .unset, .unset, .unset] [])
        have A_a2 := A_a2.sm sm (by simp)
        have A_a112 := A_a112.sm sm (by simp)
        have A_a188 := A_a188.sm sm (by simp)
        have A_a218 := A_a218.sm sm (by simp)
        have X_a246 := P.1
        refine g_aload K W at_372 rfl rfl (pc' := 374) rfl ?_
        refine g_iload K W at_374 rfl (pc' := 376) rfl ?_
        refine g_if_eq K W at_376 (pt := 383) rfl (pf := 379) rfl (fun hc376 => absurd hc376 (by decide)) (fun hc376 => ?_)
        refine g_iconst K W (v := (0 : Int32)) at_379 rfl (pc' := 380) rfl ?_
        refine g_goto K W at_380 (pt := 384) rfl ?_
        refine g_aload K W at_384 rfl rfl (pc' := 386) rfl ?_
        refine g_aload K W at_386 rfl rfl (pc' := 388) rfl ?_
        refine g_aload K W at_388 rfl rfl (pc' := 390) rfl ?_
        refine g_aload K W at_390 rfl rfl (pc' := 392) rfl ?_
        refine g_callS (c_addE l Z a0 hw n0 _ W.sz a246 (0 : Int32) a188 a218 a112 a2 f_a188 f_a218 f_a112 f_a2 nn 5 (fun S => (fun S => (fun S => (fun S => (fun S => (fun _ => 0) S + if S p2 = true ∧ S p3 = false then min (f_a2 5).toInt 2305843009213693951 else 0) S + if S p1 = true ∧ S p3 = false then min (f_a2 4).toInt 2305843009213693951 else 0) S + if S p2 = true ∧ S p1 = false then min (f_a2 3).toInt 2305843009213693951 else 0) S + if S p1 = true ∧ S p2 = false then min (f_a2 2).toInt 2305843009213693951 else 0) S + if S p0 = true ∧ S p2 = false then min (f_a2 1).toInt 2305843009213693951 else 0) [a2, a112, a188, a218] 0 0 1 p0 p1 A_a188 A_a218 A_a112 A_a2 P rfl (by decide) eF0 (by decide) eT0 (by decide) eP0 l0 eP1 l1 hnn5 (by decide) hC0) K W (hw _ (List.mem_of_getElem? (i := 32) rfl)) (hw _ (List.mem_of_getElem? (i := 33) rfl)) (hw _ (List.mem_of_getElem? (i := 3) rfl)) (hw _ (List.mem_of_getElem? (i := 34) rfl)) (by decide) (lenOf pd_11 rfl) at_392 (pc' := 395) rfl (argsL := [(.ref a246), (.int (0 : Int32)), (.ref a188), (.ref a218), (.ref a112), (.ref a2)]) (rest := []) rfl rfl (by decide) (wt := 0) rfl (by decide) (by decide) (by decide) ?_
        rintro T h _ W ⟨rfl, sm, P⟩
        show Go p e below s n0 (Q_c0 Z n0 h0 x0 x1 x2 x3) 40 320 T (mkF m 395 #[.val (.int x0), .val (.int x1), .val (.int x2), .val (.int x3), .val (.ref a2), .val (.int (Int32.ofNat nn)), .val (.int (Int32.ofNat st)), .val (.int mi), .val (.int (1 : Int32)), .val (.ref a112), .val (.ref a188), .val (.ref a218), .val (.ref a246), .unset, .unset, .unset, .unset, .unset, .unset, .unset, .unset, .unset, .unset, .unset, .unset, .unset, .unset, .unset, .unset, .unset, .unset, .unset, .unset, .unset, .unset, .unset, .unset, .unset] [])
        have A_a2 := A_a2.sm sm (by simp)
        have A_a112 := A_a112.sm sm (by simp)
        have A_a188 := A_a188.sm sm (by simp)
        have A_a218 := A_a218.sm sm (by simp)
        have X_a246 := P.1
        exact hJz _ _ _ P (fun S => by unfold K6; rw [eC0, eC1, eC2, eC3, eC4, eC5]; dsimp only; omega) A_a2 A_a112 A_a188 A_a218 X_a246 (W.mono (by decide) (by decide))
    refine g_if_eq K W at_101 (pt := 108) rfl (pf := 104) rfl (fun hc101 => ?_) (fun hc101 => ?_)
    · refine g_iconst K W (v := (0 : Int32)) at_108 rfl (pc' := 109) rfl ?_
      exact hJb _ (Or.inl rfl)
    · refine g_iconst K W (v := (1 : Int32)) at_104 rfl (pc' := 105) rfl ?_
      refine g_goto K W at_105 (pt := 109) rfl ?_
      exact hJb _ (Or.inr rfl)
  refine g_if_eq K W at_86 (pt := 93) rfl (pf := 89) rfl (fun hc86 => ?_) (fun hc86 => ?_)
  · refine g_iconst K W (v := (0 : Int32)) at_93 rfl (pc' := 94) rfl ?_
    exact hJa _ (Or.inl rfl)
  · refine g_iconst K W (v := (1 : Int32)) at_89 rfl (pc' := 90) rfl ?_
    refine g_goto K W at_90 (pt := 94) rfl ?_
    exact hJa _ (Or.inr rfl)
set_option maxHeartbeats 40000000 in
theorem comes_1 {Post : Tables → Env → Array Value → State → Outcome → State → Prop} (hpost : ∀ tb e args s v u, (limb_1_1.after args s (.returned v) u = true ∧ limb_1_2.after args s (.returned v) u = true ∧ True) → FrameEnd s (.returned v) u (Jvm.fieldLocs frame_1_writes args s ++ Jvm.arrayLocs frame_1_arrays args s ++ Jvm.staticLocs frame_1_statics s) 40 320 → Post tb e args s (.returned v) u) :
    ArmFor flags0 classFile x code maxLocals ret World_1 tables_1 room_1 Calls_1 rest_1 Pre_1 Post := by
  intro l hfl _ _ p e ha hc hk s m args below hf hA hF happ hP
  obtain ⟨hcalls, hrest, hpre⟩ := hP
  obtain ⟨-, -, -, hnamed, -, -, -, hat⟩ := (Spec.applies_iff hf).mp happ
  obtain ⟨hg, hn⟩ := and_e (Cond.before_iff.mp (show (Jvm.Cond.and given_1 narrow_1).before args s = true from hpre))
  obtain ⟨hcnt, hg⟩ := and_e hg
  obtain ⟨hi0, hg⟩ := and_e hg
  obtain ⟨hi1, hg⟩ := and_e hg
  obtain ⟨hi2, hg⟩ := and_e hg
  have hi3 := hg
  obtain ⟨w0, w1, w2, w3, rfl⟩ : ∃ w0 w1 w2 w3 : Value, args = #[w0, w1, w2, w3] := by
    have hs : args.size = 4 := by simpa [Cond.value, given_1] using hcnt
    obtain ⟨L⟩ := args
    match L, hs with
    | [w0, w1, w2, w3], _ => exact ⟨w0, w1, w2, w3, rfl⟩
  have hw := fun d (hd : d ∈ tables_1) => atoms_spec (ws := Jvm.Cond.code x code maxLocals ret :: tables_1) hat d (List.mem_cons_of_mem _ hd)
  obtain ⟨i0, ei0⟩ := is_v hi0
  obtain rfl : w0 = (.int i0) := Option.some.inj ei0
  obtain ⟨i1, ei1⟩ := is_v hi1
  obtain rfl : w1 = (.int i1) := Option.some.inj ei1
  obtain ⟨i2, ei2⟩ := is_v hi2
  obtain rfl : w2 = (.int i2) := Option.some.inj ei2
  obtain ⟨i3, ei3⟩ := is_v hi3
  obtain rfl : w3 = (.int i3) := Option.some.inj ei3
  obtain ⟨n, o, h1, h2, h3, v, L, rfl, ⟨hv, N⟩, hq⟩ := c0 l s _ hw s.heap.size s.heap (Nat.le_refl _) i0 i1 i2 i3 tables_1 p e ha hc hk s m _ below hf ((Spec.applies_iff_loose hf).mp happ).1 ⟨rfl, State.Warmed39.refl s, rfl⟩ trivial
  obtain rfl : v = some (.int 1) := hv
  refine ⟨n, _, h1, h2, h3, hpost _ _ _ _ _ _ ⟨Cond.after_iff.mpr rfl, Cond.after_iff.mpr (eq_i res_at (Term.int_eval (1)) rfl), trivial⟩ ⟨hq.1, hq.2.1, (hq.2.2.sift fun y hy => Or.inr (N y hy)).mono (by decide) (by decide)⟩⟩
theorem main_1_1 : Claimed_1_1 := comes_1 fun _ _ _ _ _ _ h hF => ⟨h.1, hF⟩
theorem main_1_2 : Claimed_1_2 := comes_1 fun _ _ _ _ _ _ h hF => ⟨h.2.1, hF⟩
end Jvm.Pilot.@@N@@
namespace Jvm.Pilot.@@N@@
open Jvm Jvm.ClassFile Sem Op Lib Jvm.Free Jvm.Stand Jvm.Pilot.@@N@@.Jvm.D
/-! MADE BY PROGRAM (witnessworld.py) out of the Statement's table words and the real class files: 16 classes; the members and pool entries that the words name. The judged class is class 1, her method 5. -/
namespace start1
open Jvm.ClassFile
def u (s : String) : CpInfo := .utf8 (stringToUtf16 s)
/-- a pool by its gaps: so many unusable entries, then the entry; so many at the end -/
def gap : Nat → List CpInfo → List CpInfo
  | 0, r => r
  | n + 1, r => .unusable :: gap n r
def poolList (es : List (Nat × CpInfo)) (last : Nat) : List CpInfo := es.foldr (fun e r => gap e.1 (e.2 :: r)) (gap last [])
def pool (es : List (Nat × CpInfo)) (last : Nat) : Array CpInfo := ⟨poolList es last⟩
def fileOf (pool : Array CpInfo) (this : Nat) (attrs : Array Attribute := #[]) (ms : Array MethodInfo := #[]) (fl : Nat := 33) (sup : Nat := 0) (ifs : Array Nat := #[]) (fds : Array FieldInfo := #[]) : ClassFile where
  minorVersion := 0
  majorVersion := 65
  constantPool := pool
  accessFlags := fl
  thisClass := this
  superClass := sup
  interfaces := ifs
  fields := fds
  methods := ms
  attributes := attrs
def plain (name : String) (sup : Option ClassId) : Class where
  name := name
  kind := .ordinary
  loader := none
  accessFlags := 33
  super := sup
  interfaces := #[]
  cf := none
  fields := #[]
  methods := #[]
  instanceTypes := #[]
  staticTypes := #[]
  resolved := #[]
  callSites := []
  init := .initialized
  statics := none
  mirror := none

def pool0 : Array CpInfo := pool [(5, u "<init>"), (0, u "()V"), (1, .class_ 10), (1, u "java/lang/Object")] 113

def k0c0 : Code := { maxStack := 0, maxLocals := 1, code := object_method_1_code, exceptionTable := #[], attributes := #[] }
def k0m0 : Method := { name := "<init>", desc := "()V", sig := { parameters := [], returnType := none }, accessFlags := 1, code := some k0c0 }
/-- java/lang/Object -/
def k0 : Class := { plain "java/lang/Object" none with
  accessFlags := 33
  interfaces := #[]
  cf := some (fileOf pool0 8 #[] #[{ accessFlags := 1, nameIndex := 5, descriptorIndex := 6, attributes := #[] }] 33 0 #[] #[])
  fields := #[]
  methods := #[k0m0]
  instanceTypes := #[]
  staticTypes := #[]
  resolved := Array.replicate 124 none
  statics := none }

def pool1 : Array CpInfo := pool [(2, .class_ 4), (1, u "java/lang/Object"), (0, u "<init>"), (0, u "()V"), (2, .long 9223372036854775807), (1, .class_ 12), (0, u "com/example/ichnos/ichnos/planning/ils/MinCut"), (0, .long 2305843009213693951), (1, .methodref 16 17), (0, .class_ 18), (0, .nameAndType 19 20), (0, u "java/lang/Math"), (0, u "min"), (0, u "(JJ)J"), (0, .methodref 11 22), (0, .nameAndType 23 24), (0, u "add"), (0, u "(IIJ)V"), (0, .methodref 26 27), (0, .class_ 28), (0, .nameAndType 29 30), (0, u "com/example/ichnos/ichnos/planning/ils/MinCutSourceSidePinLaw"), (0, u "given"), (0, u "(I)J"), (0, .methodref 26 32), (0, .nameAndType 33 34), (0, u "place"), (0, u "(IIIZ)I"), (0, .methodref 11 36), (0, .nameAndType 5 37), (0, u "(I)V"), (0, .methodref 26 39), (0, .nameAndType 40 41), (0, u "addEdge"), (0, u "(Lcom/example/ichnos/ichnos/planning/ils/MinCut;I[I[I[I[J)V"), (0, .methodref 11 43), (0, .nameAndType 44 45), (0, u "sourceSide"), (0, u "(II)[Z"), (0, .methodref 26 47), (0, .nameAndType 48 49), (0, u "held"), (0, u "(J)J"), (3, u "law"), (0, u "(IIII)Z")] 8

def k1m0 : Method := { name := "<init>", desc := "()V", sig := { parameters := [], returnType := none }, accessFlags := 1, code := none }
def k1c1 : Code := { maxStack := 2, maxLocals := 2, code := method_2_code, exceptionTable := #[], attributes := #[] }
def k1m1 : Method := { name := "given", desc := "(I)J", sig := { parameters := [.int], returnType := some .long }, accessFlags := 10, code := some k1c1 }
def k1c2 : Code := { maxStack := 4, maxLocals := 2, code := method_3_code, exceptionTable := #[], attributes := #[] }
def k1m2 : Method := { name := "held", desc := "(J)J", sig := { parameters := [.long], returnType := some .long }, accessFlags := 10, code := some k1c2 }
def k1c3 : Code := { maxStack := 2, maxLocals := 5, code := method_4_code, exceptionTable := #[], attributes := #[] }
def k1m3 : Method := { name := "place", desc := "(IIIZ)I", sig := { parameters := [.int, .int, .int, .boolean], returnType := some .int }, accessFlags := 10, code := some k1c3 }
def k1c4 : Code := { maxStack := 5, maxLocals := 6, code := method_5_code, exceptionTable := #[], attributes := #[] }
def k1m4 : Method := { name := "addEdge", desc := "(Lcom/example/ichnos/ichnos/planning/ils/MinCut;I[I[I[I[J)V", sig := { parameters := [(.object "com/example/ichnos/ichnos/planning/ils/MinCut"), .int, (.array .int), (.array .int), (.array .int), (.array .long)], returnType := none }, accessFlags := 10, code := some k1c4 }
def k1c5 : Code := { maxStack := 6, maxLocals := 38, code := code, exceptionTable := #[], attributes := #[] }
def k1m5 : Method := { name := "law", desc := "(IIII)Z", sig := { parameters := [.int, .int, .int, .int], returnType := some .boolean }, accessFlags := 9, code := some k1c5 }
/-- com/example/ichnos/ichnos/planning/ils/MinCutSourceSidePinLaw -/
def k1 : Class := { plain "com/example/ichnos/ichnos/planning/ils/MinCutSourceSidePinLaw" (some 0) with
  accessFlags := 49
  interfaces := #[]
  cf := some (fileOf pool1 26 #[] #[{ accessFlags := 1, nameIndex := 5, descriptorIndex := 6, attributes := #[] }, { accessFlags := 10, nameIndex := 29, descriptorIndex := 30, attributes := #[] }, { accessFlags := 10, nameIndex := 48, descriptorIndex := 49, attributes := #[] }, { accessFlags := 10, nameIndex := 33, descriptorIndex := 34, attributes := #[] }, { accessFlags := 10, nameIndex := 40, descriptorIndex := 41, attributes := #[] }, { accessFlags := 9, nameIndex := 53, descriptorIndex := 54, attributes := #[] }] 49 2 #[] #[])
  fields := #[]
  methods := #[k1m0, k1m1, k1m2, k1m3, k1m4, k1m5]
  instanceTypes := #[]
  staticTypes := #[]
  resolved := Array.replicate 63 none
  statics := none }

def pool2 : Array CpInfo := pool [(3, .methodref 4 5), (0, .class_ 6), (0, .nameAndType 7 8), (0, u "java/lang/Object"), (0, u "<init>"), (0, u "()V"), (0, .fieldref 10 11), (0, .class_ 12), (0, .nameAndType 13 14), (0, u "com/example/ichnos/ichnos/planning/ils/MinCut"), (0, u "heads"), (0, u "[I"), (0, .fieldref 10 16), (0, .nameAndType 17 18), (0, u "capacities"), (0, u "[J"), (0, .fieldref 10 20), (0, .nameAndType 21 14), (0, u "nextOut"), (0, .fieldref 10 23), (0, .nameAndType 24 25), (0, u "nodes"), (0, u "I"), (0, .fieldref 10 27), (0, .nameAndType 28 14), (0, u "firstOut"), (0, .methodref 30 31), (0, .class_ 32), (0, .nameAndType 33 34), (0, u "java/util/Arrays"), (0, u "fill"), (0, u "([II)V"), (0, .fieldref 10 36), (0, .nameAndType 37 25), (0, u "edges"), (7, .long 2305843009213693951), (1, .methodref 48 49), (0, .class_ 50), (0, .nameAndType 51 52), (0, u "java/lang/Math"), (0, u "min"), (0, u "(JJ)J"), (0, .methodref 10 54), (0, .nameAndType 55 56), (0, u "link"), (0, u "(IIJ)V"), (0, .methodref 10 58), (0, .nameAndType 59 60), (0, u "level"), (0, u "(II[I[I)Z"), (0, .methodref 62 63), (0, .class_ 64), (0, .nameAndType 65 66), (0, u "java/lang/System"), (0, u "arraycopy"), (0, u "(Ljava/lang/Object;ILjava/lang/Object;II)V"), (0, .methodref 10 68), (0, .nameAndType 69 70), (0, u "push"), (0, u "(II[I[I[I)J"), (0, .methodref 10 72), (0, .nameAndType 73 74), (0, u "admissible"), (0, u "(III[I)Z"), (0, u "INFINITE"), (0, u "J"), (1, u "(I)V"), (2, u "add"), (1, u "sourceSide"), (0, u "(II)[Z")] 5

def k2c0 : Code := { maxStack := 2, maxLocals := 2, code := prog_66_method_1_code, exceptionTable := #[], attributes := #[] }
def k2m0 : Method := { name := "<init>", desc := "(I)V", sig := { parameters := [.int], returnType := none }, accessFlags := 0, code := some k2c0 }
def k2c1 : Code := { maxStack := 7, maxLocals := 5, code := prog_66_method_2_code, exceptionTable := #[], attributes := #[] }
def k2m1 : Method := { name := "add", desc := "(IIJ)V", sig := { parameters := [.int, .int, .long], returnType := none }, accessFlags := 0, code := some k2c1 }
def k2c2 : Code := { maxStack := 4, maxLocals := 5, code := prog_66_method_3_code, exceptionTable := #[], attributes := #[] }
def k2m2 : Method := { name := "link", desc := "(IIJ)V", sig := { parameters := [.int, .int, .long], returnType := none }, accessFlags := 2, code := some k2c2 }
def k2c3 : Code := { maxStack := 6, maxLocals := 11, code := prog_66_method_4_code, exceptionTable := #[], attributes := #[] }
def k2m3 : Method := { name := "sourceSide", desc := "(II)[Z", sig := { parameters := [.int, .int], returnType := some (.array .boolean) }, accessFlags := 0, code := some k2c3 }
def k2c4 : Code := { maxStack := 4, maxLocals := 9, code := prog_66_method_5_code, exceptionTable := #[], attributes := #[] }
def k2m4 : Method := { name := "level", desc := "(II[I[I)Z", sig := { parameters := [.int, .int, (.array .int), (.array .int)], returnType := some .boolean }, accessFlags := 2, code := some k2c4 }
def k2c5 : Code := { maxStack := 6, maxLocals := 13, code := prog_66_method_6_code, exceptionTable := #[], attributes := #[] }
def k2m5 : Method := { name := "push", desc := "(II[I[I[I)J", sig := { parameters := [.int, .int, (.array .int), (.array .int), (.array .int)], returnType := some .long }, accessFlags := 2, code := some k2c5 }
def k2c6 : Code := { maxStack := 4, maxLocals := 6, code := prog_66_method_7_code, exceptionTable := #[], attributes := #[] }
def k2m6 : Method := { name := "admissible", desc := "(III[I)Z", sig := { parameters := [.int, .int, .int, (.array .int)], returnType := some .boolean }, accessFlags := 2, code := some k2c6 }
/-- com/example/ichnos/ichnos/planning/ils/MinCut -/
def k2 : Class := { plain "com/example/ichnos/ichnos/planning/ils/MinCut" (some 0) with
  accessFlags := 48
  interfaces := #[]
  cf := some (fileOf pool2 10 #[] #[{ accessFlags := 0, nameIndex := 7, descriptorIndex := 78, attributes := #[] }, { accessFlags := 0, nameIndex := 81, descriptorIndex := 56, attributes := #[] }, { accessFlags := 2, nameIndex := 55, descriptorIndex := 56, attributes := #[] }, { accessFlags := 0, nameIndex := 83, descriptorIndex := 84, attributes := #[] }, { accessFlags := 2, nameIndex := 59, descriptorIndex := 60, attributes := #[] }, { accessFlags := 2, nameIndex := 69, descriptorIndex := 70, attributes := #[] }, { accessFlags := 2, nameIndex := 73, descriptorIndex := 74, attributes := #[] }] 48 4 #[] #[{ accessFlags := 24, nameIndex := 75, descriptorIndex := 76, attributes := #[] }, { accessFlags := 18, nameIndex := 24, descriptorIndex := 25, attributes := #[] }, { accessFlags := 2, nameIndex := 13, descriptorIndex := 14, attributes := #[] }, { accessFlags := 2, nameIndex := 17, descriptorIndex := 18, attributes := #[] }, { accessFlags := 2, nameIndex := 21, descriptorIndex := 14, attributes := #[] }, { accessFlags := 2, nameIndex := 37, descriptorIndex := 25, attributes := #[] }, { accessFlags := 18, nameIndex := 28, descriptorIndex := 14, attributes := #[] }])
  fields := #[{ name := "INFINITE", type := .long, accessFlags := 24, slot := 0, constantValue := 0 }, { name := "nodes", type := .int, accessFlags := 18, slot := 0, constantValue := 0 }, { name := "heads", type := (.array .int), accessFlags := 2, slot := 1, constantValue := 0 }, { name := "capacities", type := (.array .long), accessFlags := 2, slot := 2, constantValue := 0 }, { name := "nextOut", type := (.array .int), accessFlags := 2, slot := 3, constantValue := 0 }, { name := "edges", type := .int, accessFlags := 2, slot := 4, constantValue := 0 }, { name := "firstOut", type := (.array .int), accessFlags := 18, slot := 5, constantValue := 0 }]
  methods := #[k2m0, k2m1, k2m2, k2m3, k2m4, k2m5, k2m6]
  instanceTypes := #[.int, (.array .int), (.array .long), (.array .int), .int, (.array .int)]
  staticTypes := #[.long]
  resolved := Array.replicate 90 none
  statics := none }

def pool3 : Array CpInfo := pool [(2, .class_ 4), (1, u "java/lang/Object"), (0, u "<init>"), (0, u "()V"), (7, .class_ 16), (1, u "java/util/Arrays"), (57, .class_ 76), (1, u "java/util/Arrays$NaturalOrder"), (36, .class_ 115), (1, u "java/util/Arrays$LegacyMergeSort"), (1, u "Z"), (257, .class_ 376), (0, u "java/util/Arrays$ArrayList"), (68, u "$assertionsDisabled"), (269, u "MIN_ARRAY_SORT_GRAN"), (0, u "I"), (2, u "INSERTIONSORT_THRESHOLD"), (120, u "fill"), (4, u "([II)V"), (129, .class_ 976), (0, u "java/util/Arrays$ArrayItr")] 52

def k3m0 : Method := { name := "<init>", desc := "()V", sig := { parameters := [], returnType := none }, accessFlags := 2, code := none }
def k3c1 : Code := { maxStack := 3, maxLocals := 4, code := jdk_65_method_103_code, exceptionTable := #[], attributes := #[] }
def k3m1 : Method := { name := "fill", desc := "([II)V", sig := { parameters := [(.array .int), .int], returnType := none }, accessFlags := 9, code := some k3c1 }
/-- java/util/Arrays -/
def k3 : Class := { plain "java/util/Arrays" (some 0) with
  accessFlags := 49
  interfaces := #[]
  cf := some (fileOf pool3 14 #[.nestMembers #[975, 375, 113, 74]] #[{ accessFlags := 2, nameIndex := 5, descriptorIndex := 6, attributes := #[] }, { accessFlags := 9, nameIndex := 840, descriptorIndex := 845, attributes := #[] }] 49 2 #[] #[{ accessFlags := 26, nameIndex := 715, descriptorIndex := 716, attributes := #[] }, { accessFlags := 26, nameIndex := 719, descriptorIndex := 716, attributes := #[] }, { accessFlags := 4120, nameIndex := 445, descriptorIndex := 117, attributes := #[] }])
  fields := #[{ name := "MIN_ARRAY_SORT_GRAN", type := .int, accessFlags := 26, slot := 0, constantValue := 0 }, { name := "INSERTIONSORT_THRESHOLD", type := .int, accessFlags := 26, slot := 1, constantValue := 0 }, { name := "$assertionsDisabled", type := .boolean, accessFlags := 4120, slot := 2, constantValue := 0 }]
  methods := #[k3m0, k3m1]
  instanceTypes := #[]
  staticTypes := #[.int, .int, .boolean]
  resolved := Array.replicate 1029 none
  statics := none }

def pool4 : Array CpInfo := pool [(1, .class_ 2), (0, u "java/lang/Math"), (1, .class_ 6), (1, u "java/lang/Object"), (0, u "<init>"), (0, u "()V"), (89, .class_ 100), (1, u "java/lang/Math$RandomNumberGeneratorHolder"), (20, u "(JJ)J"), (50, u "negativeZeroFloatBits"), (0, u "J"), (2, u "negativeZeroDoubleBits"), (24, u "min"), (43, u "$assertionsDisabled"), (0, u "Z"), (91, u "twoToTheDoubleScaleDown"), (0, u "D"), (4, u "twoToTheDoubleScaleUp"), (9, u "E"), (3, u "PI"), (2, u "TAU"), (2, u "DEGREES_TO_RADIANS"), (0, u "RADIANS_TO_DEGREES")] 94

def k4m0 : Method := { name := "<init>", desc := "()V", sig := { parameters := [], returnType := none }, accessFlags := 2, code := none }
def k4c1 : Code := { maxStack := 4, maxLocals := 4, code := jdk_29_method_70_code, exceptionTable := #[], attributes := #[] }
def k4m1 : Method := { name := "min", desc := "(JJ)J", sig := { parameters := [.long, .long], returnType := some .long }, accessFlags := 9, code := some k4c1 }
/-- java/lang/Math -/
def k4 : Class := { plain "java/lang/Math" (some 0) with
  accessFlags := 49
  interfaces := #[]
  cf := some (fileOf pool4 1 #[.nestMembers #[98]] #[{ accessFlags := 2, nameIndex := 7, descriptorIndex := 8, attributes := #[] }, { accessFlags := 9, nameIndex := 201, descriptorIndex := 121, attributes := #[] }] 49 4 #[] #[{ accessFlags := 25, nameIndex := 354, descriptorIndex := 339, attributes := #[] }, { accessFlags := 25, nameIndex := 358, descriptorIndex := 339, attributes := #[] }, { accessFlags := 25, nameIndex := 361, descriptorIndex := 339, attributes := #[] }, { accessFlags := 26, nameIndex := 364, descriptorIndex := 339, attributes := #[] }, { accessFlags := 26, nameIndex := 365, descriptorIndex := 339, attributes := #[] }, { accessFlags := 26, nameIndex := 172, descriptorIndex := 173, attributes := #[] }, { accessFlags := 26, nameIndex := 176, descriptorIndex := 173, attributes := #[] }, { accessFlags := 8, nameIndex := 344, descriptorIndex := 339, attributes := #[] }, { accessFlags := 8, nameIndex := 338, descriptorIndex := 339, attributes := #[] }, { accessFlags := 4120, nameIndex := 245, descriptorIndex := 246, attributes := #[] }])
  fields := #[{ name := "E", type := .double, accessFlags := 25, slot := 0, constantValue := 0 }, { name := "PI", type := .double, accessFlags := 25, slot := 1, constantValue := 0 }, { name := "TAU", type := .double, accessFlags := 25, slot := 2, constantValue := 0 }, { name := "DEGREES_TO_RADIANS", type := .double, accessFlags := 26, slot := 3, constantValue := 0 }, { name := "RADIANS_TO_DEGREES", type := .double, accessFlags := 26, slot := 4, constantValue := 0 }, { name := "negativeZeroFloatBits", type := .long, accessFlags := 26, slot := 5, constantValue := 0 }, { name := "negativeZeroDoubleBits", type := .long, accessFlags := 26, slot := 6, constantValue := 0 }, { name := "twoToTheDoubleScaleUp", type := .double, accessFlags := 8, slot := 7, constantValue := 0 }, { name := "twoToTheDoubleScaleDown", type := .double, accessFlags := 8, slot := 8, constantValue := 0 }, { name := "$assertionsDisabled", type := .boolean, accessFlags := 4120, slot := 9, constantValue := 0 }]
  methods := #[k4m0, k4m1]
  instanceTypes := #[]
  staticTypes := #[.double, .double, .double, .double, .double, .long, .long, .double, .double, .boolean]
  resolved := Array.replicate 460 none
  statics := none }

def pool5 : Array CpInfo := pool [(2, .class_ 4), (1, u "java/lang/Object"), (0, u "<init>"), (0, u "()V"), (1, .class_ 10), (1, u "java/lang/System"), (0, u "allowSecurityManager"), (0, u "I"), (16, u "cons"), (0, u "Ljava/io/Console;"), (77, .class_ 110), (1, u "java/lang/System$CallersHolder"), (43, u "initialErrStream"), (0, u "Ljava/io/PrintStream;"), (19, u "security"), (0, u "Ljava/lang/SecurityManager;"), (31, .class_ 209), (0, u "java/lang/System$1"), (7, u "props"), (0, u "Ljava/util/Properties;"), (2, u "lineSeparator"), (0, u "Ljava/lang/String;"), (96, .class_ 321), (1, u "java/lang/System$LoggerFinder"), (5, .class_ 328), (0, u "java/lang/System$Logger"), (67, u "err"), (2, u "out"), (91, u "notSupportedJnuEncoding"), (15, u "in"), (17, u "initialIn"), (0, u "Ljava/io/InputStream;"), (35, u "bootLayer"), (0, u "Ljava/lang/ModuleLayer;"), (99, .class_ 664), (0, u "java/lang/System$2"), (9, u "NEVER"), (2, u "MAYBE"), (49, u "arraycopy"), (0, u "(Ljava/lang/Object;ILjava/lang/Object;II)V"), (72, .class_ 802), (0, u "java/lang/System$Logger$Level")] 31

def k5m0 : Method := { name := "<init>", desc := "()V", sig := { parameters := [], returnType := none }, accessFlags := 2, code := none }
def k5m1 : Method := { name := "arraycopy", desc := "(Ljava/lang/Object;ILjava/lang/Object;II)V", sig := { parameters := [(.object "java/lang/Object"), .int, (.object "java/lang/Object"), .int, .int], returnType := none }, accessFlags := 265, code := none }
/-- java/lang/System -/
def k5 : Class := { plain "java/lang/System" (some 0) with
  accessFlags := 49
  interfaces := #[]
  cf := some (fileOf pool5 8 #[.nestMembers #[319, 327, 801, 108, 663, 208]] #[{ accessFlags := 2, nameIndex := 5, descriptorIndex := 6, attributes := #[] }, { accessFlags := 265, nameIndex := 727, descriptorIndex := 728, attributes := #[] }] 49 2 #[] #[{ accessFlags := 25, nameIndex := 507, descriptorIndex := 526, attributes := #[] }, { accessFlags := 25, nameIndex := 399, descriptorIndex := 155, attributes := #[] }, { accessFlags := 25, nameIndex := 396, descriptorIndex := 155, attributes := #[] }, { accessFlags := 10, nameIndex := 525, descriptorIndex := 526, attributes := #[] }, { accessFlags := 26, nameIndex := 674, descriptorIndex := 12, attributes := #[] }, { accessFlags := 26, nameIndex := 677, descriptorIndex := 12, attributes := #[] }, { accessFlags := 10, nameIndex := 11, descriptorIndex := 12, attributes := #[] }, { accessFlags := 74, nameIndex := 175, descriptorIndex := 176, attributes := #[] }, { accessFlags := 10, nameIndex := 491, descriptorIndex := 222, attributes := #[] }, { accessFlags := 74, nameIndex := 29, descriptorIndex := 30, attributes := #[] }, { accessFlags := 74, nameIndex := 154, descriptorIndex := 155, attributes := #[] }, { accessFlags := 10, nameIndex := 217, descriptorIndex := 218, attributes := #[] }, { accessFlags := 10, nameIndex := 221, descriptorIndex := 222, attributes := #[] }, { accessFlags := 8, nameIndex := 562, descriptorIndex := 563, attributes := #[] }])
  fields := #[{ name := "in", type := (.object "java/io/InputStream"), accessFlags := 25, slot := 0, constantValue := 0 }, { name := "out", type := (.object "java/io/PrintStream"), accessFlags := 25, slot := 1, constantValue := 0 }, { name := "err", type := (.object "java/io/PrintStream"), accessFlags := 25, slot := 2, constantValue := 0 }, { name := "initialIn", type := (.object "java/io/InputStream"), accessFlags := 10, slot := 3, constantValue := 0 }, { name := "NEVER", type := .int, accessFlags := 26, slot := 4, constantValue := 0 }, { name := "MAYBE", type := .int, accessFlags := 26, slot := 5, constantValue := 0 }, { name := "allowSecurityManager", type := .int, accessFlags := 10, slot := 6, constantValue := 0 }, { name := "security", type := (.object "java/lang/SecurityManager"), accessFlags := 74, slot := 7, constantValue := 0 }, { name := "notSupportedJnuEncoding", type := (.object "java/lang/String"), accessFlags := 10, slot := 8, constantValue := 0 }, { name := "cons", type := (.object "java/io/Console"), accessFlags := 74, slot := 9, constantValue := 0 }, { name := "initialErrStream", type := (.object "java/io/PrintStream"), accessFlags := 74, slot := 10, constantValue := 0 }, { name := "props", type := (.object "java/util/Properties"), accessFlags := 10, slot := 11, constantValue := 0 }, { name := "lineSeparator", type := (.object "java/lang/String"), accessFlags := 10, slot := 12, constantValue := 0 }, { name := "bootLayer", type := (.object "java/lang/ModuleLayer"), accessFlags := 8, slot := 13, constantValue := 0 }]
  methods := #[k5m0, k5m1]
  instanceTypes := #[]
  staticTypes := #[(.object "java/io/InputStream"), (.object "java/io/PrintStream"), (.object "java/io/PrintStream"), (.object "java/io/InputStream"), .int, .int, .int, (.object "java/lang/SecurityManager"), (.object "java/lang/String"), (.object "java/io/Console"), (.object "java/io/PrintStream"), (.object "java/util/Properties"), (.object "java/lang/String"), (.object "java/lang/ModuleLayer")]
  resolved := Array.replicate 834 none
  statics := none }

def pool6 : Array CpInfo := pool [(1, u "java/lang/Cloneable"), (0, .class_ 1), (0, u "java/lang/Object"), (0, .class_ 3)] 3

/-- java/lang/Cloneable -/
def k6 : Class := { plain "java/lang/Cloneable" (some 0) with
  accessFlags := 1537
  interfaces := #[]
  cf := some (fileOf pool6 2 #[] #[] 1537 4 #[] #[])
  fields := #[]
  methods := #[]
  instanceTypes := #[]
  staticTypes := #[]
  resolved := Array.replicate 8 none
  statics := none }

def pool7 : Array CpInfo := pool [(1, u "java/io/Serializable"), (0, .class_ 1), (0, u "java/lang/Object"), (0, .class_ 3)] 3

/-- java/io/Serializable -/
def k7 : Class := { plain "java/io/Serializable" (some 0) with
  accessFlags := 1537
  interfaces := #[]
  cf := some (fileOf pool7 2 #[] #[] 1537 4 #[] #[])
  fields := #[]
  methods := #[]
  instanceTypes := #[]
  staticTypes := #[]
  resolved := Array.replicate 8 none
  statics := none }

/-- the primitive boolean -/
def k8 : Class := { plain "boolean" none with kind := .primitive 'Z', accessFlags := 0x411 }
/-- [Z -/
def k9 : Class := { plain "[Z" (some 0) with kind := .array 8 .boolean, interfaces := #[6, 7], accessFlags := 1041 }

/-- the primitive byte -/
def k10 : Class := { plain "byte" none with kind := .primitive 'B', accessFlags := 0x411 }
/-- [B -/
def k11 : Class := { plain "[B" (some 0) with kind := .array 10 .byte, interfaces := #[6, 7], accessFlags := 1041 }

/-- the primitive int -/
def k12 : Class := { plain "int" none with kind := .primitive 'I', accessFlags := 0x411 }
/-- [I -/
def k13 : Class := { plain "[I" (some 0) with kind := .array 12 .int, interfaces := #[6, 7], accessFlags := 1041 }

/-- the primitive long -/
def k14 : Class := { plain "long" none with kind := .primitive 'J', accessFlags := 0x411 }
/-- [J -/
def k15 : Class := { plain "[J" (some 0) with kind := .array 14 .long, interfaces := #[6, 7], accessFlags := 1041 }

def heap : Heap := #[]
def classes : Array Class := #[k0, k1, k2, k3, k4, k5, k6, k7, k8, k9, k10, k11, k12, k13, k14, k15]
def interned : List (Array UInt16 × Addr) := []
def slotsUsed : Nat := 0
def theMethod : MethodId := ⟨1, 5⟩
def args0 : Array Value := #[.int 5, .int 6, .int 7, .int 1]
def aboutOver (below : List Frame) : State where
  vm := { classes := classes, interned := interned.toArray }
  heap := heap
  slotsUsed := slotsUsed
  threads := #[{ frames := .invoking theMethod args0 :: below }]
def below0 : List Frame := [.native { method := ⟨0, 0⟩, args := #[] }]
def about1 : State := aboutOver below0
def p0 : Program := .bare "" "" ""
def e0 : Env := launch0.env 0 0 0
theorem w_frames : about1.frames = Frame.invoking theMethod args0 :: below0 := rfl
set_option maxRecDepth 65536 in
theorem w_args : argsFit about1.vm theMethod args0 = true := by decide +kernel
set_option maxRecDepth 65536 in
theorem w_heap : heapFits about1 = true := by decide +kernel
set_option maxRecDepth 65536 in
theorem w_runnable : about1.curStatus? = some .runnable := by decide +kernel
set_option maxRecDepth 65536 in
theorem w_alone : about1.alone = true := by decide +kernel
set_option maxRecDepth 65536 in
theorem w_named : about1.methodNamed? x = some theMethod := by decide +kernel
set_option maxRecDepth 65536 in
theorem w_hears : about1.hears theMethod below0 = true := by decide +kernel
set_option maxRecDepth 65536 in
theorem w_ripe : about1.ripe theMethod args0 below0 = true := by decide +kernel
theorem w_running : about1.status = .running := rfl
set_option maxRecDepth 65536 in
theorem w_room : about1.hasRoom e0.platform room_1 = true :=
  launch0.hasRoom_least _ room_1 (by decide +kernel) (by decide +kernel) (by decide +kernel) (by decide +kernel) (by decide +kernel) (by decide +kernel)
theorem allAtoms_all (ts : List Jvm.Cond) (a : Array Jvm.Value) (st : Jvm.State) : (allAtoms ts).before a st = ts.all (fun c => c.before a st) := by
  induction ts with
  | nil => rfl
  | cons c t ih =>
    show (Jvm.Cond.and c (allAtoms t)).before a st = _
    rw [Jvm.Cond.before_and, ih, List.all_cons]
def words1 : List Jvm.Cond := Jvm.Cond.code x code maxLocals ret :: tables_1
/-- a 'code' word, met by the world's own term for the bytes: nothing is compared byte by byte -/
theorem code_word {y : MethodName} {bytes : ByteArray} {mx : Nat} {rt : Option FieldType} {a : Array Value} {s : State} {m : MethodId} {meth : Method} {c : Code} (h1 : s.methodNamed? y = some m) (h2 : s.vm.method? m = some meth) (h3 : meth.code = some c) (h4 : c.code = bytes)
    (h5 : (c.maxLocals == mx && c.exceptionTable.isEmpty && decide (c.maxStack ≤ mostOperands) && decide (meth.sig.returnType = rt) && !meth.locks && decide (parseMethodDescriptor y.desc = some meth.sig)) = true) : (Jvm.Cond.code y bytes mx rt).before a s = true := by
  simp only [Bool.and_eq_true, beq_iff_eq, Bool.not_eq_true', decide_eq_true_eq] at h5
  obtain ⟨⟨⟨⟨⟨g1, g2⟩, g3⟩, g4⟩, g5⟩, g6⟩ := h5
  simp [Cond.before, Cond.holds, Cond.value, h1, h2, h3, h4, g1, g2, g3, g4, g5, g6]
def isCode : Jvm.Cond → Bool
  | .code _ _ _ _ => true
  | _ => false
theorem all_split {L : List Jvm.Cond} {P : Jvm.Cond → Bool} (h1 : L.all (fun c => isCode c || P c) = true) (h2 : ∀ c ∈ L.filter isCode, P c = true) : L.all P = true := by
  refine List.all_eq_true.mpr fun c hc => ?_
  have h := List.all_eq_true.mp h1 c hc
  rcases Bool.eq_false_or_eq_true (isCode c) with hi | hi
  · exact h2 c (List.mem_filter.mpr ⟨hc, hi⟩)
  · simpa [hi] using h
set_option maxRecDepth 65536 in
theorem w_c0 : (Jvm.Cond.code x code maxLocals ret).before args0 about1 = true := code_word (m := ⟨1, 5⟩) (meth := k1m5) (c := k1c5) (by decide +kernel) rfl rfl rfl (by decide +kernel)
set_option maxRecDepth 65536 in
theorem w_c1 : (Jvm.Cond.code ({ cls := "com/example/ichnos/ichnos/planning/ils/MinCutSourceSidePinLaw", name := "given", desc := "(I)J" } : Jvm.MethodName) method_2_code (2 : Nat) (Option.some Jvm.ClassFile.FieldType.long)).before args0 about1 = true := code_word (m := ⟨1, 1⟩) (meth := k1m1) (c := k1c1) (by decide +kernel) rfl rfl rfl (by decide +kernel)
set_option maxRecDepth 65536 in
theorem w_c2 : (Jvm.Cond.code ({ cls := "com/example/ichnos/ichnos/planning/ils/MinCutSourceSidePinLaw", name := "place", desc := "(IIIZ)I" } : Jvm.MethodName) method_4_code (5 : Nat) (Option.some Jvm.ClassFile.FieldType.int)).before args0 about1 = true := code_word (m := ⟨1, 3⟩) (meth := k1m3) (c := k1c3) (by decide +kernel) rfl rfl rfl (by decide +kernel)
set_option maxRecDepth 65536 in
theorem w_c3 : (Jvm.Cond.code ({ cls := "com/example/ichnos/ichnos/planning/ils/MinCut", name := "<init>", desc := "(I)V" } : Jvm.MethodName) prog_66_method_1_code (2 : Nat) (Option.none : Option Jvm.ClassFile.FieldType)).before args0 about1 = true := code_word (m := ⟨2, 0⟩) (meth := k2m0) (c := k2c0) (by decide +kernel) rfl rfl rfl (by decide +kernel)
set_option maxRecDepth 65536 in
theorem w_c4 : (Jvm.Cond.code ({ cls := "java/lang/Object", name := "<init>", desc := "()V" } : Jvm.MethodName) object_method_1_code (1 : Nat) (Option.none : Option Jvm.ClassFile.FieldType)).before args0 about1 = true := code_word (m := ⟨0, 0⟩) (meth := k0m0) (c := k0c0) (by decide +kernel) rfl rfl rfl (by decide +kernel)
set_option maxRecDepth 65536 in
theorem w_c5 : (Jvm.Cond.code ({ cls := "java/util/Arrays", name := "fill", desc := "([II)V" } : Jvm.MethodName) jdk_65_method_103_code (4 : Nat) (Option.none : Option Jvm.ClassFile.FieldType)).before args0 about1 = true := code_word (m := ⟨3, 1⟩) (meth := k3m1) (c := k3c1) (by decide +kernel) rfl rfl rfl (by decide +kernel)
set_option maxRecDepth 65536 in
theorem w_c6 : (Jvm.Cond.code ({ cls := "com/example/ichnos/ichnos/planning/ils/MinCutSourceSidePinLaw", name := "addEdge", desc := "(Lcom/example/ichnos/ichnos/planning/ils/MinCut;I[I[I[I[J)V" } : Jvm.MethodName) method_5_code (6 : Nat) (Option.none : Option Jvm.ClassFile.FieldType)).before args0 about1 = true := code_word (m := ⟨1, 4⟩) (meth := k1m4) (c := k1c4) (by decide +kernel) rfl rfl rfl (by decide +kernel)
set_option maxRecDepth 65536 in
theorem w_c7 : (Jvm.Cond.code ({ cls := "com/example/ichnos/ichnos/planning/ils/MinCut", name := "add", desc := "(IIJ)V" } : Jvm.MethodName) prog_66_method_2_code (5 : Nat) (Option.none : Option Jvm.ClassFile.FieldType)).before args0 about1 = true := code_word (m := ⟨2, 1⟩) (meth := k2m1) (c := k2c1) (by decide +kernel) rfl rfl rfl (by decide +kernel)
set_option maxRecDepth 65536 in
theorem w_c8 : (Jvm.Cond.code ({ cls := "java/lang/Math", name := "min", desc := "(JJ)J" } : Jvm.MethodName) jdk_29_method_70_code (4 : Nat) (Option.some Jvm.ClassFile.FieldType.long)).before args0 about1 = true := code_word (m := ⟨4, 1⟩) (meth := k4m1) (c := k4c1) (by decide +kernel) rfl rfl rfl (by decide +kernel)
set_option maxRecDepth 65536 in
theorem w_c9 : (Jvm.Cond.code ({ cls := "com/example/ichnos/ichnos/planning/ils/MinCut", name := "link", desc := "(IIJ)V" } : Jvm.MethodName) prog_66_method_3_code (5 : Nat) (Option.none : Option Jvm.ClassFile.FieldType)).before args0 about1 = true := code_word (m := ⟨2, 2⟩) (meth := k2m2) (c := k2c2) (by decide +kernel) rfl rfl rfl (by decide +kernel)
set_option maxRecDepth 65536 in
theorem w_c10 : (Jvm.Cond.code ({ cls := "com/example/ichnos/ichnos/planning/ils/MinCut", name := "sourceSide", desc := "(II)[Z" } : Jvm.MethodName) prog_66_method_4_code (11 : Nat) (Option.some (Jvm.ClassFile.FieldType.array Jvm.ClassFile.FieldType.boolean))).before args0 about1 = true := code_word (m := ⟨2, 3⟩) (meth := k2m3) (c := k2c3) (by decide +kernel) rfl rfl rfl (by decide +kernel)
set_option maxRecDepth 65536 in
theorem w_c11 : (Jvm.Cond.code ({ cls := "com/example/ichnos/ichnos/planning/ils/MinCut", name := "level", desc := "(II[I[I)Z" } : Jvm.MethodName) prog_66_method_5_code (9 : Nat) (Option.some Jvm.ClassFile.FieldType.boolean)).before args0 about1 = true := code_word (m := ⟨2, 4⟩) (meth := k2m4) (c := k2c4) (by decide +kernel) rfl rfl rfl (by decide +kernel)
set_option maxRecDepth 65536 in
theorem w_c12 : (Jvm.Cond.code ({ cls := "com/example/ichnos/ichnos/planning/ils/MinCutSourceSidePinLaw", name := "held", desc := "(J)J" } : Jvm.MethodName) method_3_code (2 : Nat) (Option.some Jvm.ClassFile.FieldType.long)).before args0 about1 = true := code_word (m := ⟨1, 2⟩) (meth := k1m2) (c := k1c2) (by decide +kernel) rfl rfl rfl (by decide +kernel)
set_option maxRecDepth 65536 in
theorem w_c13 : (Jvm.Cond.code ({ cls := "com/example/ichnos/ichnos/planning/ils/MinCut", name := "push", desc := "(II[I[I[I)J" } : Jvm.MethodName) prog_66_method_6_code (13 : Nat) (Option.some Jvm.ClassFile.FieldType.long)).before args0 about1 = true := code_word (m := ⟨2, 5⟩) (meth := k2m5) (c := k2c5) (by decide +kernel) rfl rfl rfl (by decide +kernel)
set_option maxRecDepth 65536 in
theorem w_c14 : (Jvm.Cond.code ({ cls := "com/example/ichnos/ichnos/planning/ils/MinCut", name := "admissible", desc := "(III[I)Z" } : Jvm.MethodName) prog_66_method_7_code (6 : Nat) (Option.some Jvm.ClassFile.FieldType.boolean)).before args0 about1 = true := code_word (m := ⟨2, 6⟩) (meth := k2m6) (c := k2c6) (by decide +kernel) rfl rfl rfl (by decide +kernel)
def codes1 : List Jvm.Cond := [Jvm.Cond.code x code maxLocals ret, Jvm.Cond.code ({ cls := "com/example/ichnos/ichnos/planning/ils/MinCutSourceSidePinLaw", name := "given", desc := "(I)J" } : Jvm.MethodName) method_2_code (2 : Nat) (Option.some Jvm.ClassFile.FieldType.long), Jvm.Cond.code ({ cls := "com/example/ichnos/ichnos/planning/ils/MinCutSourceSidePinLaw", name := "place", desc := "(IIIZ)I" } : Jvm.MethodName) method_4_code (5 : Nat) (Option.some Jvm.ClassFile.FieldType.int), Jvm.Cond.code ({ cls := "com/example/ichnos/ichnos/planning/ils/MinCut", name := "<init>", desc := "(I)V" } : Jvm.MethodName) prog_66_method_1_code (2 : Nat) (Option.none : Option Jvm.ClassFile.FieldType), Jvm.Cond.code ({ cls := "java/lang/Object", name := "<init>", desc := "()V" } : Jvm.MethodName) object_method_1_code (1 : Nat) (Option.none : Option Jvm.ClassFile.FieldType), Jvm.Cond.code ({ cls := "java/util/Arrays", name := "fill", desc := "([II)V" } : Jvm.MethodName) jdk_65_method_103_code (4 : Nat) (Option.none : Option Jvm.ClassFile.FieldType), Jvm.Cond.code ({ cls := "com/example/ichnos/ichnos/planning/ils/MinCutSourceSidePinLaw", name := "addEdge", desc := "(Lcom/example/ichnos/ichnos/planning/ils/MinCut;I[I[I[I[J)V" } : Jvm.MethodName) method_5_code (6 : Nat) (Option.none : Option Jvm.ClassFile.FieldType), Jvm.Cond.code ({ cls := "com/example/ichnos/ichnos/planning/ils/MinCut", name := "add", desc := "(IIJ)V" } : Jvm.MethodName) prog_66_method_2_code (5 : Nat) (Option.none : Option Jvm.ClassFile.FieldType), Jvm.Cond.code ({ cls := "java/lang/Math", name := "min", desc := "(JJ)J" } : Jvm.MethodName) jdk_29_method_70_code (4 : Nat) (Option.some Jvm.ClassFile.FieldType.long), Jvm.Cond.code ({ cls := "com/example/ichnos/ichnos/planning/ils/MinCut", name := "link", desc := "(IIJ)V" } : Jvm.MethodName) prog_66_method_3_code (5 : Nat) (Option.none : Option Jvm.ClassFile.FieldType), Jvm.Cond.code ({ cls := "com/example/ichnos/ichnos/planning/ils/MinCut", name := "sourceSide", desc := "(II)[Z" } : Jvm.MethodName) prog_66_method_4_code (11 : Nat) (Option.some (Jvm.ClassFile.FieldType.array Jvm.ClassFile.FieldType.boolean)), Jvm.Cond.code ({ cls := "com/example/ichnos/ichnos/planning/ils/MinCut", name := "level", desc := "(II[I[I)Z" } : Jvm.MethodName) prog_66_method_5_code (9 : Nat) (Option.some Jvm.ClassFile.FieldType.boolean), Jvm.Cond.code ({ cls := "com/example/ichnos/ichnos/planning/ils/MinCutSourceSidePinLaw", name := "held", desc := "(J)J" } : Jvm.MethodName) method_3_code (2 : Nat) (Option.some Jvm.ClassFile.FieldType.long), Jvm.Cond.code ({ cls := "com/example/ichnos/ichnos/planning/ils/MinCut", name := "push", desc := "(II[I[I[I)J" } : Jvm.MethodName) prog_66_method_6_code (13 : Nat) (Option.some Jvm.ClassFile.FieldType.long), Jvm.Cond.code ({ cls := "com/example/ichnos/ichnos/planning/ils/MinCut", name := "admissible", desc := "(III[I)Z" } : Jvm.MethodName) prog_66_method_7_code (6 : Nat) (Option.some Jvm.ClassFile.FieldType.boolean)]
set_option maxRecDepth 65536 in
theorem codes_eq : words1.filter isCode = codes1 := rfl
theorem w_codes : ∀ c ∈ words1.filter isCode, c.before args0 about1 = true := by
  rw [codes_eq]
  intro c hc
  simp only [codes1, List.mem_cons, List.not_mem_nil, or_false] at hc
  rcases hc with rfl | rfl | rfl | rfl | rfl | rfl | rfl | rfl | rfl | rfl | rfl | rfl | rfl | rfl | rfl
  · exact w_c0
  · exact w_c1
  · exact w_c2
  · exact w_c3
  · exact w_c4
  · exact w_c5
  · exact w_c6
  · exact w_c7
  · exact w_c8
  · exact w_c9
  · exact w_c10
  · exact w_c11
  · exact w_c12
  · exact w_c13
  · exact w_c14
set_option maxRecDepth 65536 in
theorem w_t1 : (words1.take 24).all (fun c => isCode c || c.before args0 about1) = true := by decide +kernel
set_option maxRecDepth 65536 in
theorem w_t2 : ((words1.drop 24).take 24).all (fun c => isCode c || c.before args0 about1) = true := by decide +kernel
set_option maxRecDepth 65536 in
theorem w_t3 : (((words1.drop 24).drop 24).take 24).all (fun c => isCode c || c.before args0 about1) = true := by decide +kernel
set_option maxRecDepth 65536 in
theorem w_t4 : (((words1.drop 24).drop 24).drop 24).all (fun c => isCode c || c.before args0 about1) = true := by decide +kernel
theorem w_tables : (allAtoms (Jvm.Cond.code x code maxLocals ret :: tables_1)).before args0 about1 = true := by
  rw [allAtoms_all]
  show words1.all (fun c => c.before args0 about1) = true
  refine all_split ?_ w_codes
  rw [← List.take_append_drop 24 words1, List.all_append, w_t1, ← List.take_append_drop 24 (words1.drop 24), List.all_append, w_t2, ← List.take_append_drop 24 ((words1.drop 24).drop 24), List.all_append, w_t3, w_t4]
  rfl
set_option maxRecDepth 65536 in
theorem w_case : (Jvm.Cond.and given_1 narrow_1).before args0 about1 = true := by decide +kernel
theorem w_applies : (headSpec (Jvm.Cond.code x code maxLocals ret :: tables_1) room_1).applies x e0.platform about1 = true :=
  (Spec.applies_iff w_frames).mpr ⟨w_running, w_runnable, w_alone, w_named, w_hears, w_ripe, w_room, w_tables⟩
theorem atStart : AtStart classFile x code maxLocals ret World_1 tables_1 room_1 Calls_1 rest_1 Pre_1 launch0 p0 e0 about1 theMethod args0 below0 :=
  ⟨lists_1, trivial, launch0.admits_env _ _ _, launch0.least_env, fairChoices_fair.cas, fairChoices_fair.clock, w_frames, w_args, w_heap, w_applies, trivial, trivial, w_case⟩
end start1
theorem witness_1 : WitnessClaimed_1 := ⟨start1.p0, start1.e0, start1.about1, start1.theMethod, start1.args0, start1.below0, start1.atStart⟩
end Jvm.Pilot.@@N@@
