import JvmDerived
import JvmDerived.Pilot.@@N@@Statement
import JvmDerived.Pilot.@@N@@Code
set_option linter.unusedVariables false
set_option linter.unusedSimpArgs false
set_option maxRecDepth 65536
namespace Jvm.Pilot.@@N@@
open Jvm Jvm.ClassFile Sem Op Lib Jvm.Free Jvm.Stand Jvm.LawKit Jvm.RoadKit Bundle Jvm.Pilot.@@N@@.Jvm.D
section OwnBase
/-- where a walk stands: the Stand, that nothing old was written, the heap -/
def Wd (p : Program) (l : Launch) (e : Env) (R : Room) (s : State) (m : MethodId) (args : Array Value) (below : List Frame) (meth : Method) (c : Code) (n0 : Nat) (T : State) (h : Heap) (cs ss : Nat) : Prop :=
  ∃ locs, Stand p l e R s m args below meth c T locs cs ss ∧ Fr n0 locs ∧ T.heap = h ∧ n0 ≤ s.heap.size
/-- from the frame g on the body comes to its end, and Q holds of what it returns and of the heap -/
def Go (p : Program) (e : Env) (below : List Frame) (s : State) (n0 : Nat) (Q : Option Value → Heap → Prop) (rc rs : Nat) (T : State) (g : JFrame) : Prop :=
  ∃ s₂ o, Steps p.tables e below (T.setTop g) s₂ ∧ s₂.status = .running ∧ Ended s₂ below o ∧ ∃ v L, o = .returned v ∧ (Q v s₂.heap ∧ Fr n0 L) ∧ FrameEnd s o s₂ L rc rs
/-- what a walk knows of the body that it walks -/
def Cx (p : Program) (s : State) (m : MethodId) (meth : Method) (c : Code) (Z : State) (own nm : String) (bytes : ByteArray) (maxL : Nat) (ret : Option FieldType) : Prop :=
  p.tables.exec = Jvm.exec ∧ Z.Warmed39 s.vm ∧ c.code = bytes ∧ c.maxLocals = maxL ∧ s.vm.findClass own = some m.cls ∧ meth.sig.returnType = ret ∧ meth.locks = false ∧ meth.name = nm
/-- a body's contract -/
def Mt (l : Launch) (Z : State) (y : MethodName) (bytes : ByteArray) (maxL : Nat) (ret : Option FieldType) (rm : Room) (n0 : Nat) (as' : Array Value) (h0 : Heap) (Q : Option Value → Heap → Prop) : Prop :=
  ∀ ws : List Jvm.Cond, MetFree l y (head1 (Jvm.Cond.code y bytes maxL ret :: ws) rm) (fun a U => a = as' ∧ Z.Warmed39 U.vm ∧ U.heap = h0) (fun _ _ _ _ _ => True) (fun _ U o U' => ∃ v L, o = .returned v ∧ (Q v U'.heap ∧ Fr n0 L) ∧ FrameEnd U o U' L rm.cells rm.slots)
variable {p : Program} {l : Launch} {e : Env} {R : Room} {s : State} {m : MethodId} {args : Array Value} {below : List Frame} {meth : Method} {c : Code} {Z : State} {own nm : String} {bytes : ByteArray} {maxL : Nat} {ret : Option FieldType} {T : State} {h : Heap} {cs ss n0 : Nat} {Q : Option Value → Heap → Prop} {rc rs : Nat} {pc pc' pf pt : Nat} {Ls Ls' : Array Slot} {st rest : List Value} {a0 : Array Value}
theorem Go.stp {T' : State} {g g' : JFrame} (q : ∀ target, Steps p.tables e below (T'.setTop g') target → Steps p.tables e below (T.setTop g) target) (G : Go p e below s n0 Q rc rs T' g') : Go p e below s n0 Q rc rs T g := by
  obtain ⟨s₂, o, h1, r⟩ := G
  exact ⟨s₂, o, q _ h1, r⟩
theorem Wd.mono {cs' ss' : Nat} (W : Wd p l e R s m args below meth c n0 T h cs ss) (h1 : cs ≤ cs') (h2 : ss ≤ ss') : Wd p l e R s m args below meth c n0 T h cs' ss' := by
  obtain ⟨locs, X, r⟩ := W
  exact ⟨locs, ⟨X.admits, X.cas, X.clock, X.frames, X.room, X.hears, X.method, X.code, X.here, X.tail, X.warmed, X.limits, X.bytes, X.same.mono h1 h2⟩, r⟩
theorem met_of {y : MethodName} {rm : Room} {as' : Array Value} {h0 : Heap} (hpl : plainFor y = true) (hent : ∀ m, entryFrame m as' maxL = mkF m 0 Ls []) (hn : n0 ≤ h0.size)
    (H : ∀ p e s m below meth c T, Cx p s m meth c Z y.cls y.name bytes maxL ret → Wd p l e rm s m as' below meth c n0 T h0 0 0 → Go p e below s n0 Q rm.cells rm.slots T (mkF m 0 Ls [])) :
    Mt l Z y bytes maxL ret rm n0 as' h0 Q := by
  intro ws
  refine MetFree.of_bodySF hpl hisR ?_
  intro p e s m args below meth c s₁ Bd hml0 hP hK
  obtain ⟨rfl, hZ, hh⟩ := hP
  have X0 := Stand.of_body Bd
  have e0 : s₁.heap = h0 := by rw [← hh, Bd.state]; rfl
  have G := H p e s m below meth c s₁ ⟨Bd.exec, hZ, Bd.bytes, hml0, findClass_of_methodNamed Bd.named, Bd.returns, Bd.notSynchronized, (name_of_methodNamed Bd.named Bd.method).1⟩ ⟨[], X0, Fr.nil n0, e0, by rw [hh]; exact hn⟩
  obtain ⟨s₂, o, h1, h2, h3, v, L, h4, h5, h6⟩ := G
  exact ⟨s₂, o, castTop (hent m) h1, h2, h3, v, L, h4, h5, h6⟩
/-! the single steps -/
theorem g_iload (K : Cx p s m meth c Z own nm bytes maxL ret) (W : Wd p l e R s m args below meth c n0 T h cs ss) {k : Nat} {v : Int32} (hd : decode bytes pc = .ok (.iload k, 2)) (hl : Ls[k]? = some (.val (.int v))) (hp : pc + 2 = pc') (G : Go p e below s n0 Q rc rs T (mkF m pc' Ls (.int v :: st))) : Go p e below s n0 Q rc rs T (mkF m pc Ls st) := by
  obtain ⟨_, X, -⟩ := W; subst hp
  exact Go.stp (g' := mkF m (pc + 2) Ls (.int v :: st)) (fun _ hr => XS.iload X.here K.1 rfl (hb K.2.2.1 hd) hl hr) G
theorem g_iloadN (K : Cx p s m meth c Z own nm bytes maxL ret) (W : Wd p l e R s m args below meth c n0 T h cs ss) {k : Fin 4} {v : Int32} (hd : decode bytes pc = .ok (.iload_n k, 1)) (hl : Ls[k.val]? = some (.val (.int v))) (hp : pc + 1 = pc') (G : Go p e below s n0 Q rc rs T (mkF m pc' Ls (.int v :: st))) : Go p e below s n0 Q rc rs T (mkF m pc Ls st) := by
  obtain ⟨_, X, -⟩ := W; subst hp
  exact Go.stp (g' := mkF m (pc + 1) Ls (.int v :: st)) (fun _ hr => XS.iloadN X.here K.1 rfl (hb K.2.2.1 hd) hl hr) G
theorem g_lload (K : Cx p s m meth c Z own nm bytes maxL ret) (W : Wd p l e R s m args below meth c n0 T h cs ss) {k : Nat} {v : Int64} (hd : decode bytes pc = .ok (.lload k, 2)) (hl : Ls[k]? = some (.val (.long v))) (hp : pc + 2 = pc') (G : Go p e below s n0 Q rc rs T (mkF m pc' Ls (.long v :: st))) : Go p e below s n0 Q rc rs T (mkF m pc Ls st) := by
  obtain ⟨_, X, -⟩ := W; subst hp
  exact Go.stp (g' := mkF m (pc + 2) Ls (.long v :: st)) (fun _ hr => XS.lload X.here K.1 rfl (hb K.2.2.1 hd) hl hr) G
theorem g_lloadN (K : Cx p s m meth c Z own nm bytes maxL ret) (W : Wd p l e R s m args below meth c n0 T h cs ss) {k : Fin 4} {v : Int64} (hd : decode bytes pc = .ok (.lload_n k, 1)) (hl : Ls[k.val]? = some (.val (.long v))) (hp : pc + 1 = pc') (G : Go p e below s n0 Q rc rs T (mkF m pc' Ls (.long v :: st))) : Go p e below s n0 Q rc rs T (mkF m pc Ls st) := by
  obtain ⟨_, X, -⟩ := W; subst hp
  exact Go.stp (g' := mkF m (pc + 1) Ls (.long v :: st)) (fun _ hr => XS.lloadN X.here K.1 rfl (hb K.2.2.1 hd) hl hr) G
theorem g_aload (K : Cx p s m meth c Z own nm bytes maxL ret) (W : Wd p l e R s m args below meth c n0 T h cs ss) {k : Nat} {v : Value} (hd : decode bytes pc = .ok (.aload k, 2)) (hl : Ls[k]? = some (.val v)) (hv : v.isRef = true) (hp : pc + 2 = pc') (G : Go p e below s n0 Q rc rs T (mkF m pc' Ls (v :: st))) : Go p e below s n0 Q rc rs T (mkF m pc Ls st) := by
  obtain ⟨_, X, -⟩ := W; subst hp
  exact Go.stp (g' := mkF m (pc + 2) Ls (v :: st)) (fun _ hr => XS.aload X.here K.1 rfl (hb K.2.2.1 hd) hl hv hr) G
theorem g_aloadN (K : Cx p s m meth c Z own nm bytes maxL ret) (W : Wd p l e R s m args below meth c n0 T h cs ss) {k : Fin 4} {v : Value} (hd : decode bytes pc = .ok (.aload_n k, 1)) (hl : Ls[k.val]? = some (.val v)) (hv : v.isRef = true) (hp : pc + 1 = pc') (G : Go p e below s n0 Q rc rs T (mkF m pc' Ls (v :: st))) : Go p e below s n0 Q rc rs T (mkF m pc Ls st) := by
  obtain ⟨_, X, -⟩ := W; subst hp
  exact Go.stp (g' := mkF m (pc + 1) Ls (v :: st)) (fun _ hr => XS.aloadN X.here K.1 rfl (hb K.2.2.1 hd) hl hv hr) G
theorem g_istore (K : Cx p s m meth c Z own nm bytes maxL ret) (W : Wd p l e R s m args below meth c n0 T h cs ss) {k : Nat} {x : Int32} (hd : decode bytes pc = .ok (.istore k, 2)) (hl : storeLocals Ls k (.int x) = some Ls') (hp : pc + 2 = pc') (G : Go p e below s n0 Q rc rs T (mkF m pc' Ls' st)) : Go p e below s n0 Q rc rs T (mkF m pc Ls (.int x :: st)) := by
  obtain ⟨_, X, -⟩ := W; subst hp
  exact Go.stp (g' := mkF m (pc + 2) Ls' st) (fun _ hr => XS.istore X.here K.1 rfl (hb K.2.2.1 hd) rfl hl hr) G
theorem g_istoreN (K : Cx p s m meth c Z own nm bytes maxL ret) (W : Wd p l e R s m args below meth c n0 T h cs ss) {k : Fin 4} {x : Int32} (hd : decode bytes pc = .ok (.istore_n k, 1)) (hl : storeLocals Ls k.val (.int x) = some Ls') (hp : pc + 1 = pc') (G : Go p e below s n0 Q rc rs T (mkF m pc' Ls' st)) : Go p e below s n0 Q rc rs T (mkF m pc Ls (.int x :: st)) := by
  obtain ⟨_, X, -⟩ := W; subst hp
  exact Go.stp (g' := mkF m (pc + 1) Ls' st) (fun _ hr => XS.istoreN X.here K.1 rfl (hb K.2.2.1 hd) rfl hl hr) G
theorem g_lstore (K : Cx p s m meth c Z own nm bytes maxL ret) (W : Wd p l e R s m args below meth c n0 T h cs ss) {k : Nat} {x : Int64} (hd : decode bytes pc = .ok (.lstore k, 2)) (hl : storeLocals Ls k (.long x) = some Ls') (hp : pc + 2 = pc') (G : Go p e below s n0 Q rc rs T (mkF m pc' Ls' st)) : Go p e below s n0 Q rc rs T (mkF m pc Ls (.long x :: st)) := by
  obtain ⟨_, X, -⟩ := W; subst hp
  exact Go.stp (g' := mkF m (pc + 2) Ls' st) (fun _ hr => XS.lstore X.here K.1 rfl (hb K.2.2.1 hd) rfl hl hr) G
theorem g_lstoreN (K : Cx p s m meth c Z own nm bytes maxL ret) (W : Wd p l e R s m args below meth c n0 T h cs ss) {k : Fin 4} {x : Int64} (hd : decode bytes pc = .ok (.lstore_n k, 1)) (hl : storeLocals Ls k.val (.long x) = some Ls') (hp : pc + 1 = pc') (G : Go p e below s n0 Q rc rs T (mkF m pc' Ls' st)) : Go p e below s n0 Q rc rs T (mkF m pc Ls (.long x :: st)) := by
  obtain ⟨_, X, -⟩ := W; subst hp
  exact Go.stp (g' := mkF m (pc + 1) Ls' st) (fun _ hr => XS.lstoreN X.here K.1 rfl (hb K.2.2.1 hd) rfl hl hr) G
theorem g_astore (K : Cx p s m meth c Z own nm bytes maxL ret) (W : Wd p l e R s m args below meth c n0 T h cs ss) {k : Nat} {x : Value} (hd : decode bytes pc = .ok (.astore k, 2)) (hv : x.isRef = true) (hl : storeLocals Ls k x = some Ls') (hp : pc + 2 = pc') (G : Go p e below s n0 Q rc rs T (mkF m pc' Ls' st)) : Go p e below s n0 Q rc rs T (mkF m pc Ls (x :: st)) := by
  obtain ⟨_, X, -⟩ := W; subst hp
  exact Go.stp (g' := mkF m (pc + 2) Ls' st) (fun _ hr => XS.astore X.here K.1 rfl (hb K.2.2.1 hd) rfl hv hl hr) G
theorem g_astoreN (K : Cx p s m meth c Z own nm bytes maxL ret) (W : Wd p l e R s m args below meth c n0 T h cs ss) {k : Fin 4} {x : Value} (hd : decode bytes pc = .ok (.astore_n k, 1)) (hv : x.isRef = true) (hl : storeLocals Ls k.val x = some Ls') (hp : pc + 1 = pc') (G : Go p e below s n0 Q rc rs T (mkF m pc' Ls' st)) : Go p e below s n0 Q rc rs T (mkF m pc Ls (x :: st)) := by
  obtain ⟨_, X, -⟩ := W; subst hp
  exact Go.stp (g' := mkF m (pc + 1) Ls' st) (fun _ hr => XS.astoreN X.here K.1 rfl (hb K.2.2.1 hd) rfl hv hl hr) G
theorem g_iconst (K : Cx p s m meth c Z own nm bytes maxL ret) (W : Wd p l e R s m args below meth c n0 T h cs ss) {i : Int} {v : Int32} (hd : decode bytes pc = .ok (.iconst i, 1)) (hv : Int32.ofInt i = v) (hp : pc + 1 = pc') (G : Go p e below s n0 Q rc rs T (mkF m pc' Ls (.int v :: st))) : Go p e below s n0 Q rc rs T (mkF m pc Ls st) := by
  obtain ⟨_, X, -⟩ := W; subst hp hv
  exact Go.stp (g' := mkF m (pc + 1) Ls (.int (Int32.ofInt i) :: st)) (fun _ hr => XS.iconst X.here K.1 rfl (hb K.2.2.1 hd) hr) G
theorem g_bipush (K : Cx p s m meth c Z own nm bytes maxL ret) (W : Wd p l e R s m args below meth c n0 T h cs ss) {i : Int} {v : Int32} (hd : decode bytes pc = .ok (.bipush i, 2)) (hv : (Int8.ofInt i).toInt32 = v) (hp : pc + 2 = pc') (G : Go p e below s n0 Q rc rs T (mkF m pc' Ls (.int v :: st))) : Go p e below s n0 Q rc rs T (mkF m pc Ls st) := by
  obtain ⟨_, X, -⟩ := W; subst hp hv
  exact Go.stp (g' := mkF m (pc + 2) Ls (.int ((Int8.ofInt i).toInt32) :: st)) (fun _ hr => XS.bipush X.here K.1 rfl (hb K.2.2.1 hd) hr) G
theorem g_sipush (K : Cx p s m meth c Z own nm bytes maxL ret) (W : Wd p l e R s m args below meth c n0 T h cs ss) {i : Int} {v : Int32} (hd : decode bytes pc = .ok (.sipush i, 3)) (hv : (Int16.ofInt i).toInt32 = v) (hp : pc + 3 = pc') (G : Go p e below s n0 Q rc rs T (mkF m pc' Ls (.int v :: st))) : Go p e below s n0 Q rc rs T (mkF m pc Ls st) := by
  obtain ⟨_, X, -⟩ := W; subst hp hv
  exact Go.stp (g' := mkF m (pc + 3) Ls (.int ((Int16.ofInt i).toInt32) :: st)) (fun _ hr => XS.sipush X.here K.1 rfl (hb K.2.2.1 hd) hr) G
theorem g_lconst (K : Cx p s m meth c Z own nm bytes maxL ret) (W : Wd p l e R s m args below meth c n0 T h cs ss) {k : Fin 2} {v : Int64} (hd : decode bytes pc = .ok (.lconst k, 1)) (hv : Int64.ofNat k = v) (hp : pc + 1 = pc') (G : Go p e below s n0 Q rc rs T (mkF m pc' Ls (.long v :: st))) : Go p e below s n0 Q rc rs T (mkF m pc Ls st) := by
  obtain ⟨_, X, -⟩ := W; subst hp hv
  exact Go.stp (g' := mkF m (pc + 1) Ls (.long (Int64.ofNat k) :: st)) (fun _ hr => XS.lconst X.here K.1 rfl (hb K.2.2.1 hd) hr) G
theorem g_null (K : Cx p s m meth c Z own nm bytes maxL ret) (W : Wd p l e R s m args below meth c n0 T h cs ss) (hd : decode bytes pc = .ok (.aconst_null, 1)) (hp : pc + 1 = pc') (G : Go p e below s n0 Q rc rs T (mkF m pc' Ls (.null :: st))) : Go p e below s n0 Q rc rs T (mkF m pc Ls st) := by
  obtain ⟨_, X, -⟩ := W; subst hp
  exact Go.stp (g' := mkF m (pc + 1) Ls (.null :: st)) (fun _ hr => XS.aconstNull X.here K.1 rfl (hb K.2.2.1 hd) hr) G
theorem g_ldc (K : Cx p s m meth c Z own nm bytes maxL ret) (W : Wd p l e R s m args below meth c n0 T h cs ss) {index : Nat} {v : Int32} (w : (Jvm.Cond.constant own index v).before a0 Z = true) (hd : decode bytes pc = .ok (.ldc index, 2)) (hp : pc + 2 = pc') (G : Go p e below s n0 Q rc rs T (mkF m pc' Ls (.int v :: st))) : Go p e below s n0 Q rc rs T (mkF m pc Ls st) := by
  obtain ⟨_, X, -⟩ := W; subst hp
  exact Go.stp (g' := mkF m (pc + 2) Ls (.int v :: st)) (X.ldcInt K.1 K.2.2.2.2.1 (mvT K.2.1 w) (g := mkF m pc Ls st) rfl (hb K.2.2.1 hd)) G
theorem g_ldc2 (K : Cx p s m meth c Z own nm bytes maxL ret) (W : Wd p l e R s m args below meth c n0 T h cs ss) {index : Nat} {v : Int64} (w : (Jvm.Cond.constantLong own index v).before a0 Z = true) (hd : decode bytes pc = .ok (.ldc2_w index, 3)) (hp : pc + 3 = pc') (G : Go p e below s n0 Q rc rs T (mkF m pc' Ls (.long v :: st))) : Go p e below s n0 Q rc rs T (mkF m pc Ls st) := by
  obtain ⟨_, X, -⟩ := W; subst hp
  exact Go.stp (g' := mkF m (pc + 3) Ls (.long v :: st)) (X.ldc2Long K.1 K.2.2.2.2.1 (mvT K.2.1 w) (g := mkF m pc Ls st) rfl (hb K.2.2.1 hd)) G
theorem g_iadd (K : Cx p s m meth c Z own nm bytes maxL ret) (W : Wd p l e R s m args below meth c n0 T h cs ss) {x y : Int32} (hd : decode bytes pc = .ok (.iadd, 1)) (hp : pc + 1 = pc') (G : Go p e below s n0 Q rc rs T (mkF m pc' Ls (.int (x + y) :: st))) : Go p e below s n0 Q rc rs T (mkF m pc Ls (.int y :: .int x :: st)) := by
  obtain ⟨_, X, -⟩ := W; subst hp
  exact Go.stp (g' := mkF m (pc + 1) Ls (.int (x + y) :: st)) (fun _ hr => XS.iadd X.here K.1 rfl (hb K.2.2.1 hd) rfl hr) G
theorem g_isub (K : Cx p s m meth c Z own nm bytes maxL ret) (W : Wd p l e R s m args below meth c n0 T h cs ss) {x y : Int32} (hd : decode bytes pc = .ok (.isub, 1)) (hp : pc + 1 = pc') (G : Go p e below s n0 Q rc rs T (mkF m pc' Ls (.int (x - y) :: st))) : Go p e below s n0 Q rc rs T (mkF m pc Ls (.int y :: .int x :: st)) := by
  obtain ⟨_, X, -⟩ := W; subst hp
  exact Go.stp (g' := mkF m (pc + 1) Ls (.int (x - y) :: st)) (fun _ hr => XS.isub X.here K.1 rfl (hb K.2.2.1 hd) rfl hr) G
theorem g_imul (K : Cx p s m meth c Z own nm bytes maxL ret) (W : Wd p l e R s m args below meth c n0 T h cs ss) {x y : Int32} (hd : decode bytes pc = .ok (.imul, 1)) (hp : pc + 1 = pc') (G : Go p e below s n0 Q rc rs T (mkF m pc' Ls (.int (x * y) :: st))) : Go p e below s n0 Q rc rs T (mkF m pc Ls (.int y :: .int x :: st)) := by
  obtain ⟨_, X, -⟩ := W; subst hp
  exact Go.stp (g' := mkF m (pc + 1) Ls (.int (x * y) :: st)) (fun _ hr => XS.imul X.here K.1 rfl (hb K.2.2.1 hd) rfl hr) G
theorem g_iand (K : Cx p s m meth c Z own nm bytes maxL ret) (W : Wd p l e R s m args below meth c n0 T h cs ss) {x y : Int32} (hd : decode bytes pc = .ok (.iand, 1)) (hp : pc + 1 = pc') (G : Go p e below s n0 Q rc rs T (mkF m pc' Ls (.int (x &&& y) :: st))) : Go p e below s n0 Q rc rs T (mkF m pc Ls (.int y :: .int x :: st)) := by
  obtain ⟨_, X, -⟩ := W; subst hp
  exact Go.stp (g' := mkF m (pc + 1) Ls (.int (x &&& y) :: st)) (fun _ hr => XS.iand X.here K.1 rfl (hb K.2.2.1 hd) rfl hr) G
theorem g_ior (K : Cx p s m meth c Z own nm bytes maxL ret) (W : Wd p l e R s m args below meth c n0 T h cs ss) {x y : Int32} (hd : decode bytes pc = .ok (.ior, 1)) (hp : pc + 1 = pc') (G : Go p e below s n0 Q rc rs T (mkF m pc' Ls (.int (x ||| y) :: st))) : Go p e below s n0 Q rc rs T (mkF m pc Ls (.int y :: .int x :: st)) := by
  obtain ⟨_, X, -⟩ := W; subst hp
  exact Go.stp (g' := mkF m (pc + 1) Ls (.int (x ||| y) :: st)) (fun _ hr => XS.ior X.here K.1 rfl (hb K.2.2.1 hd) rfl hr) G
theorem g_ixor (K : Cx p s m meth c Z own nm bytes maxL ret) (W : Wd p l e R s m args below meth c n0 T h cs ss) {x y : Int32} (hd : decode bytes pc = .ok (.ixor, 1)) (hp : pc + 1 = pc') (G : Go p e below s n0 Q rc rs T (mkF m pc' Ls (.int (x ^^^ y) :: st))) : Go p e below s n0 Q rc rs T (mkF m pc Ls (.int y :: .int x :: st)) := by
  obtain ⟨_, X, -⟩ := W; subst hp
  exact Go.stp (g' := mkF m (pc + 1) Ls (.int (x ^^^ y) :: st)) (fun _ hr => XS.ixor X.here K.1 rfl (hb K.2.2.1 hd) rfl hr) G
theorem g_ishl (K : Cx p s m meth c Z own nm bytes maxL ret) (W : Wd p l e R s m args below meth c n0 T h cs ss) {x y : Int32} (hd : decode bytes pc = .ok (.ishl, 1)) (hp : pc + 1 = pc') (G : Go p e below s n0 Q rc rs T (mkF m pc' Ls (.int (x <<< (y &&& 31)) :: st))) : Go p e below s n0 Q rc rs T (mkF m pc Ls (.int y :: .int x :: st)) := by
  obtain ⟨_, X, -⟩ := W; subst hp
  exact Go.stp (g' := mkF m (pc + 1) Ls (.int (x <<< (y &&& 31)) :: st)) (fun _ hr => XS.ishl X.here K.1 rfl (hb K.2.2.1 hd) rfl hr) G
theorem g_ishr (K : Cx p s m meth c Z own nm bytes maxL ret) (W : Wd p l e R s m args below meth c n0 T h cs ss) {x y : Int32} (hd : decode bytes pc = .ok (.ishr, 1)) (hp : pc + 1 = pc') (G : Go p e below s n0 Q rc rs T (mkF m pc' Ls (.int (x >>> (y &&& 31)) :: st))) : Go p e below s n0 Q rc rs T (mkF m pc Ls (.int y :: .int x :: st)) := by
  obtain ⟨_, X, -⟩ := W; subst hp
  exact Go.stp (g' := mkF m (pc + 1) Ls (.int (x >>> (y &&& 31)) :: st)) (fun _ hr => XS.ishr X.here K.1 rfl (hb K.2.2.1 hd) rfl hr) G
theorem g_iushr (K : Cx p s m meth c Z own nm bytes maxL ret) (W : Wd p l e R s m args below meth c n0 T h cs ss) {x y : Int32} (hd : decode bytes pc = .ok (.iushr, 1)) (hp : pc + 1 = pc') (G : Go p e below s n0 Q rc rs T (mkF m pc' Ls (.int ((x.toUInt32 >>> (y &&& 31).toUInt32).toInt32) :: st))) : Go p e below s n0 Q rc rs T (mkF m pc Ls (.int y :: .int x :: st)) := by
  obtain ⟨_, X, -⟩ := W; subst hp
  exact Go.stp (g' := mkF m (pc + 1) Ls (.int ((x.toUInt32 >>> (y &&& 31).toUInt32).toInt32) :: st)) (fun _ hr => XS.iushr X.here K.1 rfl (hb K.2.2.1 hd) rfl hr) G
theorem g_idiv (K : Cx p s m meth c Z own nm bytes maxL ret) (W : Wd p l e R s m args below meth c n0 T h cs ss) {x y : Int32} (hy : y ≠ 0) (hd : decode bytes pc = .ok (.idiv, 1)) (hp : pc + 1 = pc') (G : Go p e below s n0 Q rc rs T (mkF m pc' Ls (.int (x / y) :: st))) : Go p e below s n0 Q rc rs T (mkF m pc Ls (.int y :: .int x :: st)) := by
  obtain ⟨_, X, -⟩ := W; subst hp
  exact Go.stp (g' := mkF m (pc + 1) Ls (.int (x / y) :: st)) (fun _ hr => XS.idiv X.here K.1 rfl (hb K.2.2.1 hd) rfl hy hr) G
theorem g_irem (K : Cx p s m meth c Z own nm bytes maxL ret) (W : Wd p l e R s m args below meth c n0 T h cs ss) {x y : Int32} (hy : y ≠ 0) (hd : decode bytes pc = .ok (.irem, 1)) (hp : pc + 1 = pc') (G : Go p e below s n0 Q rc rs T (mkF m pc' Ls (.int (x % y) :: st))) : Go p e below s n0 Q rc rs T (mkF m pc Ls (.int y :: .int x :: st)) := by
  obtain ⟨_, X, -⟩ := W; subst hp
  exact Go.stp (g' := mkF m (pc + 1) Ls (.int (x % y) :: st)) (fun _ hr => iremM X K.1 rfl (hb K.2.2.1 hd) rfl hy hr) G
theorem g_ladd (K : Cx p s m meth c Z own nm bytes maxL ret) (W : Wd p l e R s m args below meth c n0 T h cs ss) {x y : Int64} (hd : decode bytes pc = .ok (.ladd, 1)) (hp : pc + 1 = pc') (G : Go p e below s n0 Q rc rs T (mkF m pc' Ls (.long (x + y) :: st))) : Go p e below s n0 Q rc rs T (mkF m pc Ls (.long y :: .long x :: st)) := by
  obtain ⟨_, X, -⟩ := W; subst hp
  exact Go.stp (g' := mkF m (pc + 1) Ls (.long (x + y) :: st)) (fun _ hr => XS.ladd X.here K.1 rfl (hb K.2.2.1 hd) rfl hr) G
theorem g_lsub (K : Cx p s m meth c Z own nm bytes maxL ret) (W : Wd p l e R s m args below meth c n0 T h cs ss) {x y : Int64} (hd : decode bytes pc = .ok (.lsub, 1)) (hp : pc + 1 = pc') (G : Go p e below s n0 Q rc rs T (mkF m pc' Ls (.long (x - y) :: st))) : Go p e below s n0 Q rc rs T (mkF m pc Ls (.long y :: .long x :: st)) := by
  obtain ⟨_, X, -⟩ := W; subst hp
  exact Go.stp (g' := mkF m (pc + 1) Ls (.long (x - y) :: st)) (fun _ hr => XS.lsub X.here K.1 rfl (hb K.2.2.1 hd) rfl hr) G
theorem g_lmul (K : Cx p s m meth c Z own nm bytes maxL ret) (W : Wd p l e R s m args below meth c n0 T h cs ss) {x y : Int64} (hd : decode bytes pc = .ok (.lmul, 1)) (hp : pc + 1 = pc') (G : Go p e below s n0 Q rc rs T (mkF m pc' Ls (.long (x * y) :: st))) : Go p e below s n0 Q rc rs T (mkF m pc Ls (.long y :: .long x :: st)) := by
  obtain ⟨_, X, -⟩ := W; subst hp
  exact Go.stp (g' := mkF m (pc + 1) Ls (.long (x * y) :: st)) (fun _ hr => XS.lmul X.here K.1 rfl (hb K.2.2.1 hd) rfl hr) G
theorem g_land (K : Cx p s m meth c Z own nm bytes maxL ret) (W : Wd p l e R s m args below meth c n0 T h cs ss) {x y : Int64} (hd : decode bytes pc = .ok (.land, 1)) (hp : pc + 1 = pc') (G : Go p e below s n0 Q rc rs T (mkF m pc' Ls (.long (x &&& y) :: st))) : Go p e below s n0 Q rc rs T (mkF m pc Ls (.long y :: .long x :: st)) := by
  obtain ⟨_, X, -⟩ := W; subst hp
  exact Go.stp (g' := mkF m (pc + 1) Ls (.long (x &&& y) :: st)) (fun _ hr => XS.land X.here K.1 rfl (hb K.2.2.1 hd) rfl hr) G
theorem g_lor (K : Cx p s m meth c Z own nm bytes maxL ret) (W : Wd p l e R s m args below meth c n0 T h cs ss) {x y : Int64} (hd : decode bytes pc = .ok (.lor, 1)) (hp : pc + 1 = pc') (G : Go p e below s n0 Q rc rs T (mkF m pc' Ls (.long (x ||| y) :: st))) : Go p e below s n0 Q rc rs T (mkF m pc Ls (.long y :: .long x :: st)) := by
  obtain ⟨_, X, -⟩ := W; subst hp
  exact Go.stp (g' := mkF m (pc + 1) Ls (.long (x ||| y) :: st)) (fun _ hr => XS.lor X.here K.1 rfl (hb K.2.2.1 hd) rfl hr) G
theorem g_lxor (K : Cx p s m meth c Z own nm bytes maxL ret) (W : Wd p l e R s m args below meth c n0 T h cs ss) {x y : Int64} (hd : decode bytes pc = .ok (.lxor, 1)) (hp : pc + 1 = pc') (G : Go p e below s n0 Q rc rs T (mkF m pc' Ls (.long (x ^^^ y) :: st))) : Go p e below s n0 Q rc rs T (mkF m pc Ls (.long y :: .long x :: st)) := by
  obtain ⟨_, X, -⟩ := W; subst hp
  exact Go.stp (g' := mkF m (pc + 1) Ls (.long (x ^^^ y) :: st)) (fun _ hr => XS.lxor X.here K.1 rfl (hb K.2.2.1 hd) rfl hr) G
theorem g_lshl (K : Cx p s m meth c Z own nm bytes maxL ret) (W : Wd p l e R s m args below meth c n0 T h cs ss) {x : Int64} {y : Int32} (hd : decode bytes pc = .ok (.lshl, 1)) (hp : pc + 1 = pc') (G : Go p e below s n0 Q rc rs T (mkF m pc' Ls (.long (x <<< (y &&& 0x3f).toInt64) :: st))) : Go p e below s n0 Q rc rs T (mkF m pc Ls (.int y :: .long x :: st)) := by
  obtain ⟨_, X, -⟩ := W; subst hp
  exact Go.stp (g' := mkF m (pc + 1) Ls (.long (x <<< (y &&& 0x3f).toInt64) :: st)) (fun _ hr => XS.lshl X.here K.1 rfl (hb K.2.2.1 hd) rfl hr) G
theorem g_lshr (K : Cx p s m meth c Z own nm bytes maxL ret) (W : Wd p l e R s m args below meth c n0 T h cs ss) {x : Int64} {y : Int32} (hd : decode bytes pc = .ok (.lshr, 1)) (hp : pc + 1 = pc') (G : Go p e below s n0 Q rc rs T (mkF m pc' Ls (.long (x >>> (y &&& 0x3f).toInt64) :: st))) : Go p e below s n0 Q rc rs T (mkF m pc Ls (.int y :: .long x :: st)) := by
  obtain ⟨_, X, -⟩ := W; subst hp
  exact Go.stp (g' := mkF m (pc + 1) Ls (.long (x >>> (y &&& 0x3f).toInt64) :: st)) (fun _ hr => XS.lshr X.here K.1 rfl (hb K.2.2.1 hd) rfl hr) G
theorem g_lushr (K : Cx p s m meth c Z own nm bytes maxL ret) (W : Wd p l e R s m args below meth c n0 T h cs ss) {x : Int64} {y : Int32} (hd : decode bytes pc = .ok (.lushr, 1)) (hp : pc + 1 = pc') (G : Go p e below s n0 Q rc rs T (mkF m pc' Ls (.long ((x.toUInt64 >>> (y &&& 0x3f).toInt64.toUInt64).toInt64) :: st))) : Go p e below s n0 Q rc rs T (mkF m pc Ls (.int y :: .long x :: st)) := by
  obtain ⟨_, X, -⟩ := W; subst hp
  exact Go.stp (g' := mkF m (pc + 1) Ls (.long ((x.toUInt64 >>> (y &&& 0x3f).toInt64.toUInt64).toInt64) :: st)) (fun _ hr => XS.lushr X.here K.1 rfl (hb K.2.2.1 hd) rfl hr) G
theorem g_ldiv (K : Cx p s m meth c Z own nm bytes maxL ret) (W : Wd p l e R s m args below meth c n0 T h cs ss) {x y : Int64} (hy : y ≠ 0) (hd : decode bytes pc = .ok (.ldiv, 1)) (hp : pc + 1 = pc') (G : Go p e below s n0 Q rc rs T (mkF m pc' Ls (.long (x / y) :: st))) : Go p e below s n0 Q rc rs T (mkF m pc Ls (.long y :: .long x :: st)) := by
  obtain ⟨_, X, -⟩ := W; subst hp
  exact Go.stp (g' := mkF m (pc + 1) Ls (.long (x / y) :: st)) (fun _ hr => XS.ldiv X.here K.1 rfl (hb K.2.2.1 hd) rfl hy hr) G
theorem g_lrem (K : Cx p s m meth c Z own nm bytes maxL ret) (W : Wd p l e R s m args below meth c n0 T h cs ss) {x y : Int64} (hy : y ≠ 0) (hd : decode bytes pc = .ok (.lrem, 1)) (hp : pc + 1 = pc') (G : Go p e below s n0 Q rc rs T (mkF m pc' Ls (.long (x - (x / y) * y) :: st))) : Go p e below s n0 Q rc rs T (mkF m pc Ls (.long y :: .long x :: st)) := by
  obtain ⟨_, X, -⟩ := W; subst hp
  exact Go.stp (g' := mkF m (pc + 1) Ls (.long (x - (x / y) * y) :: st)) (fun _ hr => XS.lrem X.here K.1 rfl (hb K.2.2.1 hd) rfl hy hr) G
theorem g_ineg (K : Cx p s m meth c Z own nm bytes maxL ret) (W : Wd p l e R s m args below meth c n0 T h cs ss) {x : Int32} (hd : decode bytes pc = .ok (.ineg, 1)) (hp : pc + 1 = pc') (G : Go p e below s n0 Q rc rs T (mkF m pc' Ls (.int (-x) :: st))) : Go p e below s n0 Q rc rs T (mkF m pc Ls (.int x :: st)) := by
  obtain ⟨_, X, -⟩ := W; subst hp
  exact Go.stp (g' := mkF m (pc + 1) Ls (.int (-x) :: st)) (fun _ hr => XS.ineg X.here K.1 rfl (hb K.2.2.1 hd) rfl hr) G
theorem g_i2b (K : Cx p s m meth c Z own nm bytes maxL ret) (W : Wd p l e R s m args below meth c n0 T h cs ss) {x : Int32} (hd : decode bytes pc = .ok (.i2b, 1)) (hp : pc + 1 = pc') (G : Go p e below s n0 Q rc rs T (mkF m pc' Ls (.int (x.toInt8.toInt32) :: st))) : Go p e below s n0 Q rc rs T (mkF m pc Ls (.int x :: st)) := by
  obtain ⟨_, X, -⟩ := W; subst hp
  exact Go.stp (g' := mkF m (pc + 1) Ls (.int (x.toInt8.toInt32) :: st)) (fun _ hr => XS.i2b X.here K.1 rfl (hb K.2.2.1 hd) rfl hr) G
theorem g_i2c (K : Cx p s m meth c Z own nm bytes maxL ret) (W : Wd p l e R s m args below meth c n0 T h cs ss) {x : Int32} (hd : decode bytes pc = .ok (.i2c, 1)) (hp : pc + 1 = pc') (G : Go p e below s n0 Q rc rs T (mkF m pc' Ls (.int (x.toUInt32.toUInt16.toUInt32.toInt32) :: st))) : Go p e below s n0 Q rc rs T (mkF m pc Ls (.int x :: st)) := by
  obtain ⟨_, X, -⟩ := W; subst hp
  exact Go.stp (g' := mkF m (pc + 1) Ls (.int (x.toUInt32.toUInt16.toUInt32.toInt32) :: st)) (fun _ hr => XS.i2c X.here K.1 rfl (hb K.2.2.1 hd) rfl hr) G
theorem g_i2s (K : Cx p s m meth c Z own nm bytes maxL ret) (W : Wd p l e R s m args below meth c n0 T h cs ss) {x : Int32} (hd : decode bytes pc = .ok (.i2s, 1)) (hp : pc + 1 = pc') (G : Go p e below s n0 Q rc rs T (mkF m pc' Ls (.int (x.toInt16.toInt32) :: st))) : Go p e below s n0 Q rc rs T (mkF m pc Ls (.int x :: st)) := by
  obtain ⟨_, X, -⟩ := W; subst hp
  exact Go.stp (g' := mkF m (pc + 1) Ls (.int (x.toInt16.toInt32) :: st)) (fun _ hr => XS.i2s X.here K.1 rfl (hb K.2.2.1 hd) rfl hr) G
theorem g_i2l (K : Cx p s m meth c Z own nm bytes maxL ret) (W : Wd p l e R s m args below meth c n0 T h cs ss) {x : Int32} (hd : decode bytes pc = .ok (.i2l, 1)) (hp : pc + 1 = pc') (G : Go p e below s n0 Q rc rs T (mkF m pc' Ls (.long (x.toInt64) :: st))) : Go p e below s n0 Q rc rs T (mkF m pc Ls (.int x :: st)) := by
  obtain ⟨_, X, -⟩ := W; subst hp
  exact Go.stp (g' := mkF m (pc + 1) Ls (.long (x.toInt64) :: st)) (fun _ hr => XS.i2l X.here K.1 rfl (hb K.2.2.1 hd) rfl hr) G
theorem g_l2i (K : Cx p s m meth c Z own nm bytes maxL ret) (W : Wd p l e R s m args below meth c n0 T h cs ss) {x : Int64} (hd : decode bytes pc = .ok (.l2i, 1)) (hp : pc + 1 = pc') (G : Go p e below s n0 Q rc rs T (mkF m pc' Ls (.int (x.toInt32) :: st))) : Go p e below s n0 Q rc rs T (mkF m pc Ls (.long x :: st)) := by
  obtain ⟨_, X, -⟩ := W; subst hp
  exact Go.stp (g' := mkF m (pc + 1) Ls (.int (x.toInt32) :: st)) (fun _ hr => XS.l2i X.here K.1 rfl (hb K.2.2.1 hd) rfl hr) G
theorem g_lneg (K : Cx p s m meth c Z own nm bytes maxL ret) (W : Wd p l e R s m args below meth c n0 T h cs ss) {x : Int64} (hd : decode bytes pc = .ok (.lneg, 1)) (hp : pc + 1 = pc') (G : Go p e below s n0 Q rc rs T (mkF m pc' Ls (.long (-x) :: st))) : Go p e below s n0 Q rc rs T (mkF m pc Ls (.long x :: st)) := by
  obtain ⟨_, X, -⟩ := W; subst hp
  exact Go.stp (g' := mkF m (pc + 1) Ls (.long (-x) :: st)) (fun _ hr => XS.lneg X.here K.1 rfl (hb K.2.2.1 hd) rfl hr) G
theorem g_iinc (K : Cx p s m meth c Z own nm bytes maxL ret) (W : Wd p l e R s m args below meth c n0 T h cs ss) {k : Nat} {cst : Int} {x : Int32} (hd : decode bytes pc = .ok (.iinc k cst, 3)) (hl : Ls[k]? = some (.val (.int x))) (hl' : storeLocals Ls k (.int (x + Int32.ofInt cst)) = some Ls') (hp : pc + 3 = pc') (G : Go p e below s n0 Q rc rs T (mkF m pc' Ls' st)) : Go p e below s n0 Q rc rs T (mkF m pc Ls st) := by
  obtain ⟨_, X, -⟩ := W; subst hp
  exact Go.stp (g' := mkF m (pc + 3) Ls' st) (fun _ hr => XS.iinc X.here K.1 rfl (hb K.2.2.1 hd) hl hl' hr) G
theorem g_dup (K : Cx p s m meth c Z own nm bytes maxL ret) (W : Wd p l e R s m args below meth c n0 T h cs ss) {x : Value} (hd : decode bytes pc = .ok (.dup, 1)) (hc : x.category = 1) (hp : pc + 1 = pc') (G : Go p e below s n0 Q rc rs T (mkF m pc' Ls (x :: x :: st))) : Go p e below s n0 Q rc rs T (mkF m pc Ls (x :: st)) := by
  obtain ⟨_, X, -⟩ := W; subst hp
  exact Go.stp (g' := mkF m (pc + 1) Ls (x :: x :: st)) (fun _ hr => XS.dup X.here K.1 rfl (hb K.2.2.1 hd) rfl hc hr) G
theorem g_pop (K : Cx p s m meth c Z own nm bytes maxL ret) (W : Wd p l e R s m args below meth c n0 T h cs ss) {x : Value} (hd : decode bytes pc = .ok (.pop, 1)) (hc : x.category = 1) (hp : pc + 1 = pc') (G : Go p e below s n0 Q rc rs T (mkF m pc' Ls st)) : Go p e below s n0 Q rc rs T (mkF m pc Ls (x :: st)) := by
  obtain ⟨_, X, -⟩ := W; subst hp
  exact Go.stp (g' := mkF m (pc + 1) Ls st) (fun _ hr => XS.pop X.here K.1 rfl (hb K.2.2.1 hd) rfl hc hr) G
theorem g_dup_x1 (K : Cx p s m meth c Z own nm bytes maxL ret) (W : Wd p l e R s m args below meth c n0 T h cs ss) {x y : Value} (hd : decode bytes pc = .ok (.dup_x1, 1)) (hc : x.category = 1) (hc2 : y.category = 1) (hp : pc + 1 = pc') (G : Go p e below s n0 Q rc rs T (mkF m pc' Ls (x :: y :: x :: st))) : Go p e below s n0 Q rc rs T (mkF m pc Ls (x :: y :: st)) := by
  obtain ⟨_, X, -⟩ := W; subst hp
  exact Go.stp (g' := mkF m (pc + 1) Ls (x :: y :: x :: st)) (fun _ hr => XS.dupX1 X.here K.1 rfl (hb K.2.2.1 hd) rfl hc hc2 hr) G
theorem g_dup2 (K : Cx p s m meth c Z own nm bytes maxL ret) (W : Wd p l e R s m args below meth c n0 T h cs ss) {x y : Value} (hd : decode bytes pc = .ok (.dup2, 1)) (hc : x.category = 1) (hc2 : y.category = 1) (hp : pc + 1 = pc') (G : Go p e below s n0 Q rc rs T (mkF m pc' Ls (x :: y :: x :: y :: st))) : Go p e below s n0 Q rc rs T (mkF m pc Ls (x :: y :: st)) := by
  obtain ⟨_, X, -⟩ := W; subst hp
  exact Go.stp (g' := mkF m (pc + 1) Ls (x :: y :: x :: y :: st)) (fun _ hr => XT.dup2 X.here K.1 rfl (hb K.2.2.1 hd) rfl hc hc2 hr) G
theorem g_dup2L (K : Cx p s m meth c Z own nm bytes maxL ret) (W : Wd p l e R s m args below meth c n0 T h cs ss) {x : Int64} (hd : decode bytes pc = .ok (.dup2, 1)) (hp : pc + 1 = pc') (G : Go p e below s n0 Q rc rs T (mkF m pc' Ls (.long x :: .long x :: st))) : Go p e below s n0 Q rc rs T (mkF m pc Ls (.long x :: st)) := by
  obtain ⟨_, X, -⟩ := W; subst hp
  exact Go.stp (g' := mkF m (pc + 1) Ls (.long x :: .long x :: st)) (fun _ hr => XT.dup2L X.here K.1 rfl (hb K.2.2.1 hd) rfl hr) G
theorem own_jmp {o : Int} (ht : (pc : Int) + o = (pt : Int)) : 0 ≤ (pc : Int) + o ∧ ((pc : Int) + o).toNat = pt := by omega
theorem g_goto (K : Cx p s m meth c Z own nm bytes maxL ret) (W : Wd p l e R s m args below meth c n0 T h cs ss) {o : Int} (hd : decode bytes pc = .ok (.goto o, 3)) (ht : (pc : Int) + o = (pt : Int)) (G : Go p e below s n0 Q rc rs T (mkF m pt Ls st)) : Go p e below s n0 Q rc rs T (mkF m pc Ls st) := by
  obtain ⟨_, X, -⟩ := W
  exact Go.stp (g' := mkF m pt Ls st) (fun _ hr => XS.goto X.here K.1 rfl (pc0 := pc) rfl (hb K.2.2.1 hd) (own_jmp ht).1 (own_jmp ht).2 hr) G
theorem g_icmp_eq (K : Cx p s m meth c Z own nm bytes maxL ret) (W : Wd p l e R s m args below meth c n0 T h cs ss) {x y : Int32} {o : Int} (hd : decode bytes pc = .ok (.if_icmp .eq o, 3)) (ht : (pc : Int) + o = (pt : Int)) (hp : pc + 3 = pf) (Gp : x = y → Go p e below s n0 Q rc rs T (mkF m pt Ls st)) (Gn : ¬ (x = y) → Go p e below s n0 Q rc rs T (mkF m pf Ls st)) : Go p e below s n0 Q rc rs T (mkF m pc Ls (.int y :: .int x :: st)) := by
  obtain ⟨_, X, -⟩ := W; subst hp
  by_cases q : x = y
  · exact Go.stp (g' := mkF m pt Ls st) (fun _ hr => XS.icmpYes X.here K.1 rfl (pc0 := pc) rfl (hb K.2.2.1 hd) rfl (Jvm.Free.XT.ii_eq_t q) (own_jmp ht).1 (own_jmp ht).2 hr) (Gp q)
  · exact Go.stp (g' := mkF m (pc + 3) Ls st) (fun _ hr => XS.icmpNo X.here K.1 rfl (hb K.2.2.1 hd) rfl (Jvm.Free.XT.ii_eq_f q) hr) (Gn q)
theorem g_if_eq (K : Cx p s m meth c Z own nm bytes maxL ret) (W : Wd p l e R s m args below meth c n0 T h cs ss) {x : Int32} {o : Int} (hd : decode bytes pc = .ok (.ifCond .eq o, 3)) (ht : (pc : Int) + o = (pt : Int)) (hp : pc + 3 = pf) (Gp : x = 0 → Go p e below s n0 Q rc rs T (mkF m pt Ls st)) (Gn : ¬ (x = 0) → Go p e below s n0 Q rc rs T (mkF m pf Ls st)) : Go p e below s n0 Q rc rs T (mkF m pc Ls (.int x :: st)) := by
  obtain ⟨_, X, -⟩ := W; subst hp
  by_cases q : x = 0
  · exact Go.stp (g' := mkF m pt Ls st) (fun _ hr => XS.ifYes X.here K.1 rfl (pc0 := pc) rfl (hb K.2.2.1 hd) rfl (Jvm.Free.XT.i0_eq_t q) (own_jmp ht).1 (own_jmp ht).2 hr) (Gp q)
  · exact Go.stp (g' := mkF m (pc + 3) Ls st) (fun _ hr => XS.ifNo X.here K.1 rfl (hb K.2.2.1 hd) rfl (Jvm.Free.XT.i0_eq_f q) hr) (Gn q)
theorem g_lcmp_eq (K : Cx p s m meth c Z own nm bytes maxL ret) (W : Wd p l e R s m args below meth c n0 T h cs ss) {x y : Int64} {o : Int} {pc1 : Nat} (hd0 : decode bytes pc = .ok (.lcmp, 1)) (hp0 : pc + 1 = pc1) (hd : decode bytes pc1 = .ok (.ifCond .eq o, 3)) (ht : (pc1 : Int) + o = (pt : Int)) (hp : pc1 + 3 = pf) (Gp : x = y → Go p e below s n0 Q rc rs T (mkF m pt Ls st)) (Gn : ¬ (x = y) → Go p e below s n0 Q rc rs T (mkF m pf Ls st)) : Go p e below s n0 Q rc rs T (mkF m pc Ls (.long y :: .long x :: st)) := by
  obtain ⟨_, X, -⟩ := W; subst hp hp0
  refine Go.stp (g' := mkF m (pc + 1) Ls (.int (Jvm.Free.XT.cmpL x y) :: st)) (fun _ hr => XS.lcmp X.here K.1 rfl (hb K.2.2.1 hd0) rfl hr) ?_
  by_cases q : x = y
  · exact Go.stp (g' := mkF m pt Ls st) (fun _ hr => XS.ifYes X.here K.1 rfl (pc0 := pc + 1) rfl (hb K.2.2.1 hd) rfl (Jvm.Free.XT.ll_eq_t q) (own_jmp ht).1 (own_jmp ht).2 hr) (Gp q)
  · exact Go.stp (g' := mkF m (pc + 1 + 3) Ls st) (fun _ hr => XS.ifNo X.here K.1 rfl (hb K.2.2.1 hd) rfl (Jvm.Free.XT.ll_eq_f q) hr) (Gn q)
theorem g_icmp_ne (K : Cx p s m meth c Z own nm bytes maxL ret) (W : Wd p l e R s m args below meth c n0 T h cs ss) {x y : Int32} {o : Int} (hd : decode bytes pc = .ok (.if_icmp .ne o, 3)) (ht : (pc : Int) + o = (pt : Int)) (hp : pc + 3 = pf) (Gp : x = y → Go p e below s n0 Q rc rs T (mkF m pf Ls st)) (Gn : ¬ (x = y) → Go p e below s n0 Q rc rs T (mkF m pt Ls st)) : Go p e below s n0 Q rc rs T (mkF m pc Ls (.int y :: .int x :: st)) := by
  obtain ⟨_, X, -⟩ := W; subst hp
  by_cases q : x = y
  · exact Go.stp (g' := mkF m (pc + 3) Ls st) (fun _ hr => XS.icmpNo X.here K.1 rfl (hb K.2.2.1 hd) rfl (Jvm.Free.XT.ii_ne_f q) hr) (Gp q)
  · exact Go.stp (g' := mkF m pt Ls st) (fun _ hr => XS.icmpYes X.here K.1 rfl (pc0 := pc) rfl (hb K.2.2.1 hd) rfl (Jvm.Free.XT.ii_ne_t q) (own_jmp ht).1 (own_jmp ht).2 hr) (Gn q)
theorem g_if_ne (K : Cx p s m meth c Z own nm bytes maxL ret) (W : Wd p l e R s m args below meth c n0 T h cs ss) {x : Int32} {o : Int} (hd : decode bytes pc = .ok (.ifCond .ne o, 3)) (ht : (pc : Int) + o = (pt : Int)) (hp : pc + 3 = pf) (Gp : x = 0 → Go p e below s n0 Q rc rs T (mkF m pf Ls st)) (Gn : ¬ (x = 0) → Go p e below s n0 Q rc rs T (mkF m pt Ls st)) : Go p e below s n0 Q rc rs T (mkF m pc Ls (.int x :: st)) := by
  obtain ⟨_, X, -⟩ := W; subst hp
  by_cases q : x = 0
  · exact Go.stp (g' := mkF m (pc + 3) Ls st) (fun _ hr => XS.ifNo X.here K.1 rfl (hb K.2.2.1 hd) rfl (Jvm.Free.XT.i0_ne_f q) hr) (Gp q)
  · exact Go.stp (g' := mkF m pt Ls st) (fun _ hr => XS.ifYes X.here K.1 rfl (pc0 := pc) rfl (hb K.2.2.1 hd) rfl (Jvm.Free.XT.i0_ne_t q) (own_jmp ht).1 (own_jmp ht).2 hr) (Gn q)
theorem g_lcmp_ne (K : Cx p s m meth c Z own nm bytes maxL ret) (W : Wd p l e R s m args below meth c n0 T h cs ss) {x y : Int64} {o : Int} {pc1 : Nat} (hd0 : decode bytes pc = .ok (.lcmp, 1)) (hp0 : pc + 1 = pc1) (hd : decode bytes pc1 = .ok (.ifCond .ne o, 3)) (ht : (pc1 : Int) + o = (pt : Int)) (hp : pc1 + 3 = pf) (Gp : x = y → Go p e below s n0 Q rc rs T (mkF m pf Ls st)) (Gn : ¬ (x = y) → Go p e below s n0 Q rc rs T (mkF m pt Ls st)) : Go p e below s n0 Q rc rs T (mkF m pc Ls (.long y :: .long x :: st)) := by
  obtain ⟨_, X, -⟩ := W; subst hp hp0
  refine Go.stp (g' := mkF m (pc + 1) Ls (.int (Jvm.Free.XT.cmpL x y) :: st)) (fun _ hr => XS.lcmp X.here K.1 rfl (hb K.2.2.1 hd0) rfl hr) ?_
  by_cases q : x = y
  · exact Go.stp (g' := mkF m (pc + 1 + 3) Ls st) (fun _ hr => XS.ifNo X.here K.1 rfl (hb K.2.2.1 hd) rfl (Jvm.Free.XT.ll_ne_f q) hr) (Gp q)
  · exact Go.stp (g' := mkF m pt Ls st) (fun _ hr => XS.ifYes X.here K.1 rfl (pc0 := pc + 1) rfl (hb K.2.2.1 hd) rfl (Jvm.Free.XT.ll_ne_t q) (own_jmp ht).1 (own_jmp ht).2 hr) (Gn q)
theorem g_icmp_lt (K : Cx p s m meth c Z own nm bytes maxL ret) (W : Wd p l e R s m args below meth c n0 T h cs ss) {x y : Int32} {o : Int} (hd : decode bytes pc = .ok (.if_icmp .lt o, 3)) (ht : (pc : Int) + o = (pt : Int)) (hp : pc + 3 = pf) (Gp : x < y → Go p e below s n0 Q rc rs T (mkF m pt Ls st)) (Gn : ¬ (x < y) → Go p e below s n0 Q rc rs T (mkF m pf Ls st)) : Go p e below s n0 Q rc rs T (mkF m pc Ls (.int y :: .int x :: st)) := by
  obtain ⟨_, X, -⟩ := W; subst hp
  by_cases q : x < y
  · exact Go.stp (g' := mkF m pt Ls st) (fun _ hr => XS.icmpYes X.here K.1 rfl (pc0 := pc) rfl (hb K.2.2.1 hd) rfl (Jvm.Free.XT.ii_lt_t q) (own_jmp ht).1 (own_jmp ht).2 hr) (Gp q)
  · exact Go.stp (g' := mkF m (pc + 3) Ls st) (fun _ hr => XS.icmpNo X.here K.1 rfl (hb K.2.2.1 hd) rfl (Jvm.Free.XT.ii_lt_f q) hr) (Gn q)
theorem g_if_lt (K : Cx p s m meth c Z own nm bytes maxL ret) (W : Wd p l e R s m args below meth c n0 T h cs ss) {x : Int32} {o : Int} (hd : decode bytes pc = .ok (.ifCond .lt o, 3)) (ht : (pc : Int) + o = (pt : Int)) (hp : pc + 3 = pf) (Gp : x < 0 → Go p e below s n0 Q rc rs T (mkF m pt Ls st)) (Gn : ¬ (x < 0) → Go p e below s n0 Q rc rs T (mkF m pf Ls st)) : Go p e below s n0 Q rc rs T (mkF m pc Ls (.int x :: st)) := by
  obtain ⟨_, X, -⟩ := W; subst hp
  by_cases q : x < 0
  · exact Go.stp (g' := mkF m pt Ls st) (fun _ hr => XS.ifYes X.here K.1 rfl (pc0 := pc) rfl (hb K.2.2.1 hd) rfl (Jvm.Free.XT.i0_lt_t q) (own_jmp ht).1 (own_jmp ht).2 hr) (Gp q)
  · exact Go.stp (g' := mkF m (pc + 3) Ls st) (fun _ hr => XS.ifNo X.here K.1 rfl (hb K.2.2.1 hd) rfl (Jvm.Free.XT.i0_lt_f q) hr) (Gn q)
theorem g_lcmp_lt (K : Cx p s m meth c Z own nm bytes maxL ret) (W : Wd p l e R s m args below meth c n0 T h cs ss) {x y : Int64} {o : Int} {pc1 : Nat} (hd0 : decode bytes pc = .ok (.lcmp, 1)) (hp0 : pc + 1 = pc1) (hd : decode bytes pc1 = .ok (.ifCond .lt o, 3)) (ht : (pc1 : Int) + o = (pt : Int)) (hp : pc1 + 3 = pf) (Gp : x < y → Go p e below s n0 Q rc rs T (mkF m pt Ls st)) (Gn : ¬ (x < y) → Go p e below s n0 Q rc rs T (mkF m pf Ls st)) : Go p e below s n0 Q rc rs T (mkF m pc Ls (.long y :: .long x :: st)) := by
  obtain ⟨_, X, -⟩ := W; subst hp hp0
  refine Go.stp (g' := mkF m (pc + 1) Ls (.int (Jvm.Free.XT.cmpL x y) :: st)) (fun _ hr => XS.lcmp X.here K.1 rfl (hb K.2.2.1 hd0) rfl hr) ?_
  by_cases q : x < y
  · exact Go.stp (g' := mkF m pt Ls st) (fun _ hr => XS.ifYes X.here K.1 rfl (pc0 := pc + 1) rfl (hb K.2.2.1 hd) rfl (Jvm.Free.XT.ll_lt_t q) (own_jmp ht).1 (own_jmp ht).2 hr) (Gp q)
  · exact Go.stp (g' := mkF m (pc + 1 + 3) Ls st) (fun _ hr => XS.ifNo X.here K.1 rfl (hb K.2.2.1 hd) rfl (Jvm.Free.XT.ll_lt_f q) hr) (Gn q)
theorem g_icmp_ge (K : Cx p s m meth c Z own nm bytes maxL ret) (W : Wd p l e R s m args below meth c n0 T h cs ss) {x y : Int32} {o : Int} (hd : decode bytes pc = .ok (.if_icmp .ge o, 3)) (ht : (pc : Int) + o = (pt : Int)) (hp : pc + 3 = pf) (Gp : x < y → Go p e below s n0 Q rc rs T (mkF m pf Ls st)) (Gn : ¬ (x < y) → Go p e below s n0 Q rc rs T (mkF m pt Ls st)) : Go p e below s n0 Q rc rs T (mkF m pc Ls (.int y :: .int x :: st)) := by
  obtain ⟨_, X, -⟩ := W; subst hp
  by_cases q : x < y
  · exact Go.stp (g' := mkF m (pc + 3) Ls st) (fun _ hr => XS.icmpNo X.here K.1 rfl (hb K.2.2.1 hd) rfl (Jvm.Free.XT.ii_ge_f q) hr) (Gp q)
  · exact Go.stp (g' := mkF m pt Ls st) (fun _ hr => XS.icmpYes X.here K.1 rfl (pc0 := pc) rfl (hb K.2.2.1 hd) rfl (Jvm.Free.XT.ii_ge_t q) (own_jmp ht).1 (own_jmp ht).2 hr) (Gn q)
theorem g_if_ge (K : Cx p s m meth c Z own nm bytes maxL ret) (W : Wd p l e R s m args below meth c n0 T h cs ss) {x : Int32} {o : Int} (hd : decode bytes pc = .ok (.ifCond .ge o, 3)) (ht : (pc : Int) + o = (pt : Int)) (hp : pc + 3 = pf) (Gp : x < 0 → Go p e below s n0 Q rc rs T (mkF m pf Ls st)) (Gn : ¬ (x < 0) → Go p e below s n0 Q rc rs T (mkF m pt Ls st)) : Go p e below s n0 Q rc rs T (mkF m pc Ls (.int x :: st)) := by
  obtain ⟨_, X, -⟩ := W; subst hp
  by_cases q : x < 0
  · exact Go.stp (g' := mkF m (pc + 3) Ls st) (fun _ hr => XS.ifNo X.here K.1 rfl (hb K.2.2.1 hd) rfl (Jvm.Free.XT.i0_ge_f q) hr) (Gp q)
  · exact Go.stp (g' := mkF m pt Ls st) (fun _ hr => XS.ifYes X.here K.1 rfl (pc0 := pc) rfl (hb K.2.2.1 hd) rfl (Jvm.Free.XT.i0_ge_t q) (own_jmp ht).1 (own_jmp ht).2 hr) (Gn q)
theorem g_lcmp_ge (K : Cx p s m meth c Z own nm bytes maxL ret) (W : Wd p l e R s m args below meth c n0 T h cs ss) {x y : Int64} {o : Int} {pc1 : Nat} (hd0 : decode bytes pc = .ok (.lcmp, 1)) (hp0 : pc + 1 = pc1) (hd : decode bytes pc1 = .ok (.ifCond .ge o, 3)) (ht : (pc1 : Int) + o = (pt : Int)) (hp : pc1 + 3 = pf) (Gp : x < y → Go p e below s n0 Q rc rs T (mkF m pf Ls st)) (Gn : ¬ (x < y) → Go p e below s n0 Q rc rs T (mkF m pt Ls st)) : Go p e below s n0 Q rc rs T (mkF m pc Ls (.long y :: .long x :: st)) := by
  obtain ⟨_, X, -⟩ := W; subst hp hp0
  refine Go.stp (g' := mkF m (pc + 1) Ls (.int (Jvm.Free.XT.cmpL x y) :: st)) (fun _ hr => XS.lcmp X.here K.1 rfl (hb K.2.2.1 hd0) rfl hr) ?_
  by_cases q : x < y
  · exact Go.stp (g' := mkF m (pc + 1 + 3) Ls st) (fun _ hr => XS.ifNo X.here K.1 rfl (hb K.2.2.1 hd) rfl (Jvm.Free.XT.ll_ge_f q) hr) (Gp q)
  · exact Go.stp (g' := mkF m pt Ls st) (fun _ hr => XS.ifYes X.here K.1 rfl (pc0 := pc + 1) rfl (hb K.2.2.1 hd) rfl (Jvm.Free.XT.ll_ge_t q) (own_jmp ht).1 (own_jmp ht).2 hr) (Gn q)
theorem g_icmp_gt (K : Cx p s m meth c Z own nm bytes maxL ret) (W : Wd p l e R s m args below meth c n0 T h cs ss) {x y : Int32} {o : Int} (hd : decode bytes pc = .ok (.if_icmp .gt o, 3)) (ht : (pc : Int) + o = (pt : Int)) (hp : pc + 3 = pf) (Gp : y < x → Go p e below s n0 Q rc rs T (mkF m pt Ls st)) (Gn : ¬ (y < x) → Go p e below s n0 Q rc rs T (mkF m pf Ls st)) : Go p e below s n0 Q rc rs T (mkF m pc Ls (.int y :: .int x :: st)) := by
  obtain ⟨_, X, -⟩ := W; subst hp
  by_cases q : y < x
  · exact Go.stp (g' := mkF m pt Ls st) (fun _ hr => XS.icmpYes X.here K.1 rfl (pc0 := pc) rfl (hb K.2.2.1 hd) rfl (Jvm.Free.XT.ii_gt_t q) (own_jmp ht).1 (own_jmp ht).2 hr) (Gp q)
  · exact Go.stp (g' := mkF m (pc + 3) Ls st) (fun _ hr => XS.icmpNo X.here K.1 rfl (hb K.2.2.1 hd) rfl (Jvm.Free.XT.ii_gt_f q) hr) (Gn q)
theorem g_if_gt (K : Cx p s m meth c Z own nm bytes maxL ret) (W : Wd p l e R s m args below meth c n0 T h cs ss) {x : Int32} {o : Int} (hd : decode bytes pc = .ok (.ifCond .gt o, 3)) (ht : (pc : Int) + o = (pt : Int)) (hp : pc + 3 = pf) (Gp : 0 < x → Go p e below s n0 Q rc rs T (mkF m pt Ls st)) (Gn : ¬ (0 < x) → Go p e below s n0 Q rc rs T (mkF m pf Ls st)) : Go p e below s n0 Q rc rs T (mkF m pc Ls (.int x :: st)) := by
  obtain ⟨_, X, -⟩ := W; subst hp
  by_cases q : 0 < x
  · exact Go.stp (g' := mkF m pt Ls st) (fun _ hr => XS.ifYes X.here K.1 rfl (pc0 := pc) rfl (hb K.2.2.1 hd) rfl (Jvm.Free.XT.i0_gt_t q) (own_jmp ht).1 (own_jmp ht).2 hr) (Gp q)
  · exact Go.stp (g' := mkF m (pc + 3) Ls st) (fun _ hr => XS.ifNo X.here K.1 rfl (hb K.2.2.1 hd) rfl (Jvm.Free.XT.i0_gt_f q) hr) (Gn q)
theorem g_lcmp_gt (K : Cx p s m meth c Z own nm bytes maxL ret) (W : Wd p l e R s m args below meth c n0 T h cs ss) {x y : Int64} {o : Int} {pc1 : Nat} (hd0 : decode bytes pc = .ok (.lcmp, 1)) (hp0 : pc + 1 = pc1) (hd : decode bytes pc1 = .ok (.ifCond .gt o, 3)) (ht : (pc1 : Int) + o = (pt : Int)) (hp : pc1 + 3 = pf) (Gp : y < x → Go p e below s n0 Q rc rs T (mkF m pt Ls st)) (Gn : ¬ (y < x) → Go p e below s n0 Q rc rs T (mkF m pf Ls st)) : Go p e below s n0 Q rc rs T (mkF m pc Ls (.long y :: .long x :: st)) := by
  obtain ⟨_, X, -⟩ := W; subst hp hp0
  refine Go.stp (g' := mkF m (pc + 1) Ls (.int (Jvm.Free.XT.cmpL x y) :: st)) (fun _ hr => XS.lcmp X.here K.1 rfl (hb K.2.2.1 hd0) rfl hr) ?_
  by_cases q : y < x
  · exact Go.stp (g' := mkF m pt Ls st) (fun _ hr => XS.ifYes X.here K.1 rfl (pc0 := pc + 1) rfl (hb K.2.2.1 hd) rfl (Jvm.Free.XT.ll_gt_t q) (own_jmp ht).1 (own_jmp ht).2 hr) (Gp q)
  · exact Go.stp (g' := mkF m (pc + 1 + 3) Ls st) (fun _ hr => XS.ifNo X.here K.1 rfl (hb K.2.2.1 hd) rfl (Jvm.Free.XT.ll_gt_f q) hr) (Gn q)
theorem g_icmp_le (K : Cx p s m meth c Z own nm bytes maxL ret) (W : Wd p l e R s m args below meth c n0 T h cs ss) {x y : Int32} {o : Int} (hd : decode bytes pc = .ok (.if_icmp .le o, 3)) (ht : (pc : Int) + o = (pt : Int)) (hp : pc + 3 = pf) (Gp : y < x → Go p e below s n0 Q rc rs T (mkF m pf Ls st)) (Gn : ¬ (y < x) → Go p e below s n0 Q rc rs T (mkF m pt Ls st)) : Go p e below s n0 Q rc rs T (mkF m pc Ls (.int y :: .int x :: st)) := by
  obtain ⟨_, X, -⟩ := W; subst hp
  by_cases q : y < x
  · exact Go.stp (g' := mkF m (pc + 3) Ls st) (fun _ hr => XS.icmpNo X.here K.1 rfl (hb K.2.2.1 hd) rfl (Jvm.Free.XT.ii_le_f q) hr) (Gp q)
  · exact Go.stp (g' := mkF m pt Ls st) (fun _ hr => XS.icmpYes X.here K.1 rfl (pc0 := pc) rfl (hb K.2.2.1 hd) rfl (Jvm.Free.XT.ii_le_t q) (own_jmp ht).1 (own_jmp ht).2 hr) (Gn q)
theorem g_if_le (K : Cx p s m meth c Z own nm bytes maxL ret) (W : Wd p l e R s m args below meth c n0 T h cs ss) {x : Int32} {o : Int} (hd : decode bytes pc = .ok (.ifCond .le o, 3)) (ht : (pc : Int) + o = (pt : Int)) (hp : pc + 3 = pf) (Gp : 0 < x → Go p e below s n0 Q rc rs T (mkF m pf Ls st)) (Gn : ¬ (0 < x) → Go p e below s n0 Q rc rs T (mkF m pt Ls st)) : Go p e below s n0 Q rc rs T (mkF m pc Ls (.int x :: st)) := by
  obtain ⟨_, X, -⟩ := W; subst hp
  by_cases q : 0 < x
  · exact Go.stp (g' := mkF m (pc + 3) Ls st) (fun _ hr => XS.ifNo X.here K.1 rfl (hb K.2.2.1 hd) rfl (Jvm.Free.XT.i0_le_f q) hr) (Gp q)
  · exact Go.stp (g' := mkF m pt Ls st) (fun _ hr => XS.ifYes X.here K.1 rfl (pc0 := pc) rfl (hb K.2.2.1 hd) rfl (Jvm.Free.XT.i0_le_t q) (own_jmp ht).1 (own_jmp ht).2 hr) (Gn q)
theorem g_lcmp_le (K : Cx p s m meth c Z own nm bytes maxL ret) (W : Wd p l e R s m args below meth c n0 T h cs ss) {x y : Int64} {o : Int} {pc1 : Nat} (hd0 : decode bytes pc = .ok (.lcmp, 1)) (hp0 : pc + 1 = pc1) (hd : decode bytes pc1 = .ok (.ifCond .le o, 3)) (ht : (pc1 : Int) + o = (pt : Int)) (hp : pc1 + 3 = pf) (Gp : y < x → Go p e below s n0 Q rc rs T (mkF m pf Ls st)) (Gn : ¬ (y < x) → Go p e below s n0 Q rc rs T (mkF m pt Ls st)) : Go p e below s n0 Q rc rs T (mkF m pc Ls (.long y :: .long x :: st)) := by
  obtain ⟨_, X, -⟩ := W; subst hp hp0
  refine Go.stp (g' := mkF m (pc + 1) Ls (.int (Jvm.Free.XT.cmpL x y) :: st)) (fun _ hr => XS.lcmp X.here K.1 rfl (hb K.2.2.1 hd0) rfl hr) ?_
  by_cases q : y < x
  · exact Go.stp (g' := mkF m (pc + 1 + 3) Ls st) (fun _ hr => XS.ifNo X.here K.1 rfl (hb K.2.2.1 hd) rfl (Jvm.Free.XT.ll_le_f q) hr) (Gp q)
  · exact Go.stp (g' := mkF m pt Ls st) (fun _ hr => XS.ifYes X.here K.1 rfl (pc0 := pc + 1) rfl (hb K.2.2.1 hd) rfl (Jvm.Free.XT.ll_le_t q) (own_jmp ht).1 (own_jmp ht).2 hr) (Gn q)
theorem g_ifnull_t (K : Cx p s m meth c Z own nm bytes maxL ret) (W : Wd p l e R s m args below meth c n0 T h cs ss) {o : Int} (hd : decode bytes pc = .ok (.ifnull o, 3)) (ht : (pc : Int) + o = (pt : Int)) (G : Go p e below s n0 Q rc rs T (mkF m pt Ls st)) : Go p e below s n0 Q rc rs T (mkF m pc Ls (.null :: st)) := by
  obtain ⟨_, X, -⟩ := W
  exact Go.stp (g' := mkF m pt Ls st) (fun _ hr => XS.ifnullYes X.here K.1 rfl (pc0 := pc) rfl (hb K.2.2.1 hd) rfl (own_jmp ht).1 (own_jmp ht).2 hr) G
theorem g_ifnull_f (K : Cx p s m meth c Z own nm bytes maxL ret) (W : Wd p l e R s m args below meth c n0 T h cs ss) {o : Int} {b : Addr} (hd : decode bytes pc = .ok (.ifnull o, 3)) (hp : pc + 3 = pf) (G : Go p e below s n0 Q rc rs T (mkF m pf Ls st)) : Go p e below s n0 Q rc rs T (mkF m pc Ls (.ref b :: st)) := by
  obtain ⟨_, X, -⟩ := W; subst hp
  exact Go.stp (g' := mkF m (pc + 3) Ls st) (fun _ hr => XS.ifnullNo X.here K.1 rfl (hb K.2.2.1 hd) rfl hr) G
theorem g_ifnonnull_t (K : Cx p s m meth c Z own nm bytes maxL ret) (W : Wd p l e R s m args below meth c n0 T h cs ss) {o : Int} {b : Addr} (hd : decode bytes pc = .ok (.ifnonnull o, 3)) (ht : (pc : Int) + o = (pt : Int)) (G : Go p e below s n0 Q rc rs T (mkF m pt Ls st)) : Go p e below s n0 Q rc rs T (mkF m pc Ls (.ref b :: st)) := by
  obtain ⟨_, X, -⟩ := W
  exact Go.stp (g' := mkF m pt Ls st) (fun _ hr => XS.ifnonnullYes X.here K.1 rfl (pc0 := pc) rfl (hb K.2.2.1 hd) rfl (own_jmp ht).1 (own_jmp ht).2 hr) G
theorem g_ifnonnull_f (K : Cx p s m meth c Z own nm bytes maxL ret) (W : Wd p l e R s m args below meth c n0 T h cs ss) {o : Int} (hd : decode bytes pc = .ok (.ifnonnull o, 3)) (hp : pc + 3 = pf) (G : Go p e below s n0 Q rc rs T (mkF m pf Ls st)) : Go p e below s n0 Q rc rs T (mkF m pc Ls (.null :: st)) := by
  obtain ⟨_, X, -⟩ := W; subst hp
  exact Go.stp (g' := mkF m (pc + 3) Ls st) (fun _ hr => XS.ifnonnullNo X.here K.1 rfl (hb K.2.2.1 hd) rfl hr) G
/-! the steps that read the tables or the heap -/
theorem Wd.sz (W : Wd p l e R s m args below meth c n0 T h cs ss) : n0 ≤ h.size := by
  obtain ⟨_, X, _, eT, q⟩ := W
  have r : s.heap.size ≤ T.heap.size := X.same.2.1
  rw [eT] at r
  exact Nat.le_trans q r
theorem g_getF (K : Cx p s m meth c Z own nm bytes maxL ret) (W : Wd p l e R s m args below meth c n0 T h cs ss) {R0 O n d host : String} {index : Nat} {a : Addr} {v : Value} (w : (Jvm.Cond.fieldLink own index R0 n d).before a0 Z = true ∨ (Jvm.Cond.fieldLinkNest own index R0 n d host).before a0 Z = true) (via : Via Z R0 O n d) (F : Fld Z h a O n d v) (hd : decode bytes pc = .ok (.getfield index, 3)) (hp : pc + 3 = pc')
    (G : ∀ T', Wd p l e R s m args below meth c n0 T' h cs ss → Go p e below s n0 Q rc rs T' (mkF m pc' Ls (v :: st))) : Go p e below s n0 Q rc rs T (mkF m pc Ls (.ref a :: st)) := by
  obtain ⟨locs, X, N, eT, z⟩ := W; subst hp
  obtain ⟨T', X', e', q⟩ := getF X K.1 K.2.1 K.2.2.2.2.1 w via eT F (g := mkF m pc Ls (.ref a :: st)) rfl rfl (hb K.2.2.1 hd)
  exact Go.stp q (G T' ⟨locs, X', N, e', z⟩)
theorem g_putF (K : Cx p s m meth c Z own nm bytes maxL ret) (W : Wd p l e R s m args below meth c n0 T h cs ss) {R0 O n d host C : String} {index kk : Nat} {ty : FieldType} {a : Addr} {v old : Value} (w : (Jvm.Cond.fieldLink own index R0 n d).before a0 Z = true ∨ (Jvm.Cond.fieldLinkNest own index R0 n d host).before a0 Z = true) (via : Via Z R0 O n d) (F : Fld Z h a O n d old) (E : Exa Z h a C)
    (L : (Jvm.Cond.lays C O n d).before a0 Z = true ∨ ((Jvm.Cond.laysFinal C O n d).before a0 Z = true ∧ own = O ∧ nm = "<init>")) (wi : (Jvm.Cond.instantiable C kk).before a0 Z = true) (hty : parseFieldDescriptor d = some ty) (hn : narrow ty v = v) (hf : fits ty v = true) (ha : n0 ≤ a) (hd : decode bytes pc = .ok (.putfield index, 3)) (hp : pc + 3 = pc')
    (G : ∀ T' h', Wd p l e R s m args below meth c n0 T' h' cs ss → Wr h h' a (Jvm.RoadKit.slotOf Z O n d) v → Go p e below s n0 Q rc rs T' (mkF m pc' Ls st)) : Go p e below s n0 Q rc rs T (mkF m pc Ls (v :: .ref a :: st)) := by
  obtain ⟨locs, X, N, eT, z⟩ := W; subst hp
  obtain ⟨T', h', X', e', w', q⟩ := putF X K.1 K.2.1 K.2.2.2.2.1 w via eT F E (L.imp id fun y => ⟨y.1, y.2.1, K.2.2.2.2.2.2.2.trans y.2.2⟩) wi hty hn hf (g := mkF m pc Ls (v :: .ref a :: st)) rfl rfl (hb K.2.2.1 hd)
  exact Go.stp q (G T' h' ⟨_, X', Fr.snoc X' N ha, e', z⟩ w')
theorem g_new (K : Cx p s m meth c Z own nm bytes maxL ret) (W : Wd p l e R s m args below meth c n0 T h cs ss) {C : String} {index n : Nat} (w : (Jvm.Cond.classLink own index C).before a0 Z = true) (wi : (Jvm.Cond.instantiable C n).before a0 Z = true) (wz : (Jvm.Cond.initialized C).before a0 Z = true) (hd : decode bytes pc = .ok (.new index, 3)) (hp : pc + 3 = pc') (hc : cs + 1 ≤ R.cells) (hl : ss + n ≤ R.slots)
    (G : ∀ T' h' a, Wd p l e R s m args below meth c n0 T' h' (cs + 1) (ss + n) → Ext h h' → a = h.size → n0 ≤ a → Exa Z h' a C → (∀ {O nm d : String} {ty : FieldType}, Laid Z a0 C O nm d → parseFieldDescriptor d = some ty → Fld Z h' a O nm d (defaultValue ty)) → Go p e below s n0 Q rc rs T' (mkF m pc' Ls (.ref a :: st))) : Go p e below s n0 Q rc rs T (mkF m pc Ls st) := by
  have zz := W.sz
  obtain ⟨locs, X, N, eT, z⟩ := W; subst hp
  obtain ⟨T', h', X', e', E, A, D, -, q⟩ := newO X K.1 K.2.1 K.2.2.2.2.1 w wi wz eT (g := mkF m pc Ls st) rfl (hb K.2.2.1 hd) hc hl
  exact Go.stp q (G T' h' _ ⟨_, X', N, e', z⟩ E rfl zz A (fun {O nm d ty} a b => D a b))
/-! the ways out -/
theorem g_ret0 (K : Cx p s m meth c Z own nm bytes maxL none) (W : Wd p l e R s m args below meth c n0 T h cs ss) (hd : decode bytes pc = .ok (.return_, 1)) (h1 : cs ≤ rc) (h2 : ss ≤ rs) (q : Q none h) : Go p e below s n0 Q rc rs T (mkF m pc Ls []) := by
  obtain ⟨locs, X, N, eT, z⟩ := W
  obtain ⟨fs, hr, hrun, hended, hW, hsame⟩ := X.leave (v := none) (fun _ => rfl) K.2.2.2.2.2.2.1
  exact ⟨_, _, X.returnOut K.1 K.2.2.2.2.2.1 (hb K.2.2.1 hd) hr, hrun, hended, _, _, rfl, ⟨by show Q none T.heap; rw [eT]; exact q, N⟩, ⟨_, rfl⟩, hW, hsame.mono h1 h2⟩
theorem g_retN {t : FieldType} {x v : Int32} (K : Cx p s m meth c Z own nm bytes maxL (some t)) (W : Wd p l e R s m args below meth c n0 T h cs ss) (ht : t = .boolean ∨ t = .byte ∨ t = .char ∨ t = .short) (hd : decode bytes pc = .ok (.ireturn, 1)) (h1 : cs ≤ rc) (h2 : ss ≤ rs) (hv : nar t x = v) (q : Q (some (.int v)) h) : Go p e below s n0 Q rc rs T (mkF m pc Ls (.int x :: st)) := by
  obtain ⟨locs, X, N, eT, z⟩ := W; subst hv
  obtain ⟨fs, hr, hrun, hended, hW, hsame⟩ := X.leave (v := some (.int (nar t x))) (fun y => by rw [K.2.2.2.2.2.1] at y; cases y) K.2.2.2.2.2.2.1
  exact ⟨_, _, retN X K.1 K.2.2.2.2.2.1 ht (hb K.2.2.1 hd) hr, hrun, hended, _, _, rfl, ⟨by show Q _ T.heap; rw [eT]; exact q, N⟩, ⟨_, rfl⟩, hW, hsame.mono h1 h2⟩
theorem g_retI {x : Int32} (K : Cx p s m meth c Z own nm bytes maxL (some .int)) (W : Wd p l e R s m args below meth c n0 T h cs ss) (hd : decode bytes pc = .ok (.ireturn, 1)) (h1 : cs ≤ rc) (h2 : ss ≤ rs) (q : Q (some (.int x)) h) : Go p e below s n0 Q rc rs T (mkF m pc Ls (.int x :: st)) := by
  obtain ⟨locs, X, N, eT, z⟩ := W
  obtain ⟨fs, hr, hrun, hended, hW, hsame⟩ := X.leave (v := some (.int x)) (fun y => by rw [K.2.2.2.2.2.1] at y; cases y) K.2.2.2.2.2.2.1
  exact ⟨_, _, retOut X K.1 K.2.2.2.2.2.1 rfl (Or.inl ⟨rfl, Or.inl rfl, _, rfl⟩) (hb K.2.2.1 hd) hr, hrun, hended, _, _, rfl, ⟨by show Q _ T.heap; rw [eT]; exact q, N⟩, ⟨_, rfl⟩, hW, hsame.mono h1 h2⟩
theorem g_retL {x : Int64} (K : Cx p s m meth c Z own nm bytes maxL (some .long)) (W : Wd p l e R s m args below meth c n0 T h cs ss) (hd : decode bytes pc = .ok (.lreturn, 1)) (h1 : cs ≤ rc) (h2 : ss ≤ rs) (q : Q (some (.long x)) h) : Go p e below s n0 Q rc rs T (mkF m pc Ls (.long x :: st)) := by
  obtain ⟨locs, X, N, eT, z⟩ := W
  obtain ⟨fs, hr, hrun, hended, hW, hsame⟩ := X.leave (v := some (.long x)) (fun y => by rw [K.2.2.2.2.2.1] at y; cases y) K.2.2.2.2.2.2.1
  exact ⟨_, _, retOut X K.1 K.2.2.2.2.2.1 rfl (Or.inr (Or.inl ⟨rfl, rfl, _, rfl⟩)) (hb K.2.2.1 hd) hr, hrun, hended, _, _, rfl, ⟨by show Q _ T.heap; rw [eT]; exact q, N⟩, ⟨_, rfl⟩, hW, hsame.mono h1 h2⟩
theorem g_retA {t : FieldType} {x : Value} (K : Cx p s m meth c Z own nm bytes maxL (some t)) (W : Wd p l e R s m args below meth c n0 T h cs ss) (ht : t.isReference = true) (hn : narrow t x = x) (hx : x.isRef = true) (hd : decode bytes pc = .ok (.areturn, 1)) (h1 : cs ≤ rc) (h2 : ss ≤ rs) (q : Q (some x) h) : Go p e below s n0 Q rc rs T (mkF m pc Ls (x :: st)) := by
  obtain ⟨locs, X, N, eT, z⟩ := W
  obtain ⟨fs, hr, hrun, hended, hW, hsame⟩ := X.leave (v := some x) (fun y => by rw [K.2.2.2.2.2.1] at y; cases y) K.2.2.2.2.2.2.1
  exact ⟨_, _, retOut X K.1 K.2.2.2.2.2.1 hn (Or.inr (Or.inr (Or.inr (Or.inr ⟨rfl, ht, hx⟩)))) (hb K.2.2.1 hd) hr, hrun, hended, _, _, rfl, ⟨by show Q _ T.heap; rw [eT]; exact q, N⟩, ⟨_, rfl⟩, hW, hsame.mono h1 h2⟩
/-! the calls, each by its callee's contract -/
theorem g_callS {y : MethodName} {yb : ByteArray} {yl : Nat} {yr : Option FieldType} {rm : Room} {argsL : List Value} {Qc : Option Value → Heap → Prop} {index : Nat} (M : Mt l Z y yb yl yr rm n0 argsL.toArray h Qc) (K : Cx p s m meth c Z own nm bytes maxL ret) (W : Wd p l e R s m args below meth c n0 T h cs ss)
    (wl : (Jvm.Cond.methodLink own index y).before a0 Z = true) (ws : (Jvm.Cond.static y).before a0 Z = true) (wi : (Jvm.Cond.initialized y.cls).before a0 Z = true) (wc : (Jvm.Cond.code y yb yl yr).before a0 Z = true) (hy : y.cls ≠ "java/lang/invoke/MethodHandle" ∧ y.cls ≠ "java/lang/invoke/VarHandle")
    (hlen : ∀ sig, parseMethodDescriptor y.desc = some sig → argsL.length = sig.parameters.length) (hd : decode bytes pc = .ok (.invokestatic index, 3)) (hp : pc + 3 = pc') (hst : st = argsL.reverse ++ rest) (hsz : Ls.size = maxL) (hf : rm.frames + 1 ≤ R.frames) {wt : Nat} (hwt : (rest.map fun v => v.category).sum = wt) (hl : wt + (yl + 11) + rm.locals ≤ R.locals) (hc : cs + rm.cells ≤ R.cells) (hs : ss + rm.slots ≤ R.slots)
    (G : ∀ T' h' v, Wd p l e R s m args below meth c n0 T' h' (cs + rm.cells) (ss + rm.slots) → Qc v h' → Go p e below s n0 Q rc rs T' (mkF m pc' Ls (v.toList ++ rest))) : Go p e below s n0 Q rc rs T (mkF m pc Ls st) := by
  obtain ⟨locs, X, N, eT, z⟩ := W; subst hp hwt
  obtain ⟨v, _, ⟨T', L', k', n'⟩, -, X', ⟨Lc, hQ, l1, l2, l3⟩, q⟩ := Jvm.LawKit.callS X K.1 (y := y) K.2.2.2.2.1 (mvT K.2.1 wl) (mvT K.2.1 ws) (mvT K.2.1 wi) (mvT K.2.1 wc) hy (backOf (W := (rest.map fun v => v.category).sum) (Q := fun v hh L => Qc v hh ∧ Fr n0 L) (M []) K.2.1 wc wi hf hl) (g := mkF m pc Ls st) rfl (hsz.trans K.2.2.2.1.symm) (argsL := argsL) (rest := rest) hlen hst (by show 2 * 0 + _ ≤ _; omega) (hb K.2.2.1 hd) (fun _ _ => ⟨rfl, eT, hc, hs⟩)
  dsimp only [Pt.U, Pt.locs, Pt.cells, Pt.slots] at X' l1 l2 l3 q hQ
  subst l1 l2 l3
  exact Go.stp q (G T' T'.heap v ⟨_, X', Fr.app N hQ.2, rfl, z⟩ hQ.1)
theorem g_callN {y : MethodName} {yb : ByteArray} {yl : Nat} {rm : Room} {argsL : List Value} {Qc : Option Value → Heap → Prop} {index : Nat} {a : Addr} (M : Mt l Z y yb yl none rm n0 (.ref a :: argsL).toArray h Qc) (K : Cx p s m meth c Z own nm bytes maxL ret) (W : Wd p l e R s m args below meth c n0 T h cs ss) (hy1 : y.name = "<init>")
    (wl : (Jvm.Cond.methodLink own index y).before a0 Z = true) (ws : (Jvm.Cond.instanceMethod y).before a0 Z = true) (wi : (Jvm.Cond.initialized y.cls).before a0 Z = true) (wc : (Jvm.Cond.code y yb yl none).before a0 Z = true) (hy : y.cls ≠ "java/lang/invoke/MethodHandle" ∧ y.cls ≠ "java/lang/invoke/VarHandle")
    (hlen : ∀ sig, parseMethodDescriptor y.desc = some sig → argsL.length = sig.parameters.length) (hd : decode bytes pc = .ok (.invokespecial index, 3)) (hp : pc + 3 = pc') (hst : st = argsL.reverse ++ .ref a :: rest) (hsz : Ls.size = maxL) (hf : rm.frames + 1 ≤ R.frames) {wt : Nat} (hwt : (rest.map fun v => v.category).sum = wt) (hl : wt + (yl + 11) + rm.locals ≤ R.locals) (hc : cs + rm.cells ≤ R.cells) (hs : ss + rm.slots ≤ R.slots)
    (G : ∀ T' h' v, Wd p l e R s m args below meth c n0 T' h' (cs + rm.cells) (ss + rm.slots) → Qc v h' → Go p e below s n0 Q rc rs T' (mkF m pc' Ls (v.toList ++ rest))) : Go p e below s n0 Q rc rs T (mkF m pc Ls st) := by
  obtain ⟨locs, X, N, eT, z⟩ := W; subst hp hwt
  obtain ⟨v, _, ⟨T', L', k', n'⟩, -, X', ⟨Lc, hQ, l1, l2, l3⟩, q⟩ := X.specialBack K.1 (y := y) hy1 K.2.2.2.2.1 (mvT K.2.1 wl) (mvT K.2.1 ws) (mvT K.2.1 wc) hy (backOf (W := (rest.map fun v => v.category).sum) (Q := fun v hh L => Qc v hh ∧ Fr n0 L) (M []) K.2.1 wc wi hf hl) (g := mkF m pc Ls st) rfl (hsz.trans K.2.2.2.1.symm) (Steps.refl _) (a := a) (argsL := argsL) (rest := rest) hlen hst (by show 2 * 0 + _ ≤ _; omega) (hb K.2.2.1 hd) (fun _ _ => ⟨rfl, eT, hc, hs⟩)
  dsimp only [Pt.U, Pt.locs, Pt.cells, Pt.slots] at X' l1 l2 l3 q hQ
  subst l1 l2 l3
  exact Go.stp (fun _ k => q.trans k) (G T' T'.heap v ⟨_, X', Fr.app N hQ.2, rfl, z⟩ hQ.1)
theorem g_callV {y : MethodName} {yb : ByteArray} {yl : Nat} {yr : Option FieldType} {rm : Room} {argsL : List Value} {Qc : Option Value → Heap → Prop} {index : Nat} {C : String} {a : Addr} {x : MethodName} (M : Mt l Z y yb yl yr rm n0 (.ref a :: argsL).toArray h Qc) (K : Cx p s m meth c Z own nm bytes maxL ret) (W : Wd p l e R s m args below meth c n0 T h cs ss) (E : Exa Z h a C)
    (wl : (Jvm.Cond.methodLink own index x).before a0 Z = true) (wd : (Jvm.Cond.declares x).before a0 Z = true) (wx : (Jvm.Cond.selects x.cls x x).before a0 Z = true) (wsel : (Jvm.Cond.selects C x y).before a0 Z = true) (ws : (Jvm.Cond.instanceMethod y).before a0 Z = true) (wi : (Jvm.Cond.initialized y.cls).before a0 Z = true) (wc : (Jvm.Cond.code y yb yl yr).before a0 Z = true) (hy : x.cls ≠ "java/lang/invoke/MethodHandle" ∧ x.cls ≠ "java/lang/invoke/VarHandle")
    (hlen : ∀ sig, parseMethodDescriptor x.desc = some sig → argsL.length = sig.parameters.length) (hd : decode bytes pc = .ok (.invokevirtual index, 3)) (hp : pc + 3 = pc') (hst : st = argsL.reverse ++ .ref a :: rest) (hsz : Ls.size = maxL) (hf : rm.frames + 1 ≤ R.frames) {wt : Nat} (hwt : (rest.map fun v => v.category).sum = wt) (hl : wt + (yl + 11) + rm.locals ≤ R.locals) (hc : cs + rm.cells ≤ R.cells) (hs : ss + rm.slots ≤ R.slots)
    (G : ∀ T' h' v, Wd p l e R s m args below meth c n0 T' h' (cs + rm.cells) (ss + rm.slots) → Qc v h' → Go p e below s n0 Q rc rs T' (mkF m pc' Ls (v.toList ++ rest))) : Go p e below s n0 Q rc rs T (mkF m pc Ls st) := by
  obtain ⟨locs, X, N, eT, z⟩ := W; subst hp hwt
  obtain ⟨cq, kq, qa, qb, qc⟩ := isOf K.2.1 eT E
  obtain ⟨v, _, ⟨T', L', k', n'⟩, -, X', ⟨Lc, hQ, l1, l2, l3⟩, q⟩ := X.virtualBack K.1 (y := x) (z := y) K.2.2.2.2.1 (mvT K.2.1 wl) (mvT K.2.1 wd) (notFace_of_selects (args := #[]) (mvT K.2.1 wx)) (mvT K.2.1 wsel) (mvT K.2.1 ws) hy (backOf (W := (rest.map fun v => v.category).sum) (Q := fun v hh L => Qc v hh ∧ Fr n0 L) (M []) K.2.1 wc wi hf hl) qa qc (g := mkF m pc Ls st) rfl (hsz.trans K.2.2.2.1.symm) (Steps.refl _) (argsL := argsL) (rest := rest) hlen hst (by show 2 * 0 + _ ≤ _; omega) (hb K.2.2.1 hd) (fun _ _ => ⟨rfl, eT, hc, hs⟩)
  dsimp only [Pt.U, Pt.locs, Pt.cells, Pt.slots] at X' l1 l2 l3 q hQ
  subst l1 l2 l3
  exact Go.stp (fun _ k => q.trans k) (G T' T'.heap v ⟨_, X', Fr.app N hQ.2, rfl, z⟩ hQ.1)
theorem g_callP {y : MethodName} {yb : ByteArray} {yl : Nat} {yr : Option FieldType} {rm : Room} {argsL : List Value} {Qc : Option Value → Heap → Prop} {index : Nat} {a : Addr} (M : Mt l Z y yb yl yr rm n0 (.ref a :: argsL).toArray h Qc) (K : Cx p s m meth c Z own nm bytes maxL ret) (W : Wd p l e R s m args below meth c n0 T h cs ss) (hcell : ∃ c : Cell, h[a]? = some c ∧ ∀ q, c.vm ≠ .statics q)
    (wl : (Jvm.Cond.methodLink own index y).before a0 Z = true) (ws : (Jvm.Cond.instanceMethod y).before a0 Z = true) {kk : Nat} (wk : (Jvm.Cond.instantiable y.cls kk).before a0 Z = true) (wp : (Jvm.Cond.privateMethod y).before a0 Z = true) (wi : (Jvm.Cond.initialized y.cls).before a0 Z = true) (wc : (Jvm.Cond.code y yb yl yr).before a0 Z = true) (hy : y.cls ≠ "java/lang/invoke/MethodHandle" ∧ y.cls ≠ "java/lang/invoke/VarHandle")
    (hlen : ∀ sig, parseMethodDescriptor y.desc = some sig → argsL.length = sig.parameters.length) (hd : decode bytes pc = .ok (.invokevirtual index, 3)) (hp : pc + 3 = pc') (hst : st = argsL.reverse ++ .ref a :: rest) (hsz : Ls.size = maxL) (hf : rm.frames + 1 ≤ R.frames) {wt : Nat} (hwt : (rest.map fun v => v.category).sum = wt) (hl : wt + (yl + 11) + rm.locals ≤ R.locals) (hc : cs + rm.cells ≤ R.cells) (hs : ss + rm.slots ≤ R.slots)
    (G : ∀ T' h' v, Wd p l e R s m args below meth c n0 T' h' (cs + rm.cells) (ss + rm.slots) → Qc v h' → Go p e below s n0 Q rc rs T' (mkF m pc' Ls (v.toList ++ rest))) : Go p e below s n0 Q rc rs T (mkF m pc Ls st) := by
  obtain ⟨locs, X, N, eT, z⟩ := W; subst hp hwt
  obtain ⟨cl, hc1, hc2⟩ := hcell
  have wk' : (Jvm.Cond.instantiable y.cls kk).before args s = true := mvT K.2.1 wk
  obtain ⟨ck, kc, f1, f2, f3, f4, -⟩ := Jvm.Cond.instantiable_spec wk'
  have hpr : s.PrivateAt y := Jvm.Cond.privateMethod_at (mvP K.2.1 wp (args := #[]))
  have hsel : (Jvm.Cond.selects y.cls y y).before args s = true := Jvm.Stand.selects_self_of_private f1 f2 (by simpa using (Bool.or_eq_false_iff.mp f4).1) hpr (mvT K.2.1 ws) hy
  obtain ⟨v, _, ⟨T', L', k', n'⟩, -, X', ⟨Lc, hQ, l1, l2, l3⟩, q⟩ := X.privateBack K.1 (y := y) K.2.2.2.2.1 (mvT K.2.1 wl) (mvT K.2.1 ws) hsel hpr (mvT K.2.1 wc) hy (backOf (W := (rest.map fun v => v.category).sum) (Q := fun v hh L => Qc v hh ∧ Fr n0 L) (M []) K.2.1 wc wi hf hl) (g := mkF m pc Ls st) rfl (hsz.trans K.2.2.2.1.symm) (Steps.refl _) (a := a) (by rw [eT]; exact hc1) hc2 (argsL := argsL) (rest := rest) hlen hst (by show 2 * 0 + _ ≤ _; omega) (hb K.2.2.1 hd) (fun _ _ => ⟨rfl, eT, hc, hs⟩)
  dsimp only [Pt.U, Pt.locs, Pt.cells, Pt.slots] at X' l1 l2 l3 q hQ
  subst l1 l2 l3
  exact Go.stp (fun _ k => q.trans k) (G T' T'.heap v ⟨_, X', Fr.app N hQ.2, rfl, z⟩ hQ.1)
/-! arrays: n places, place j holds f j -/
def AyI (Z : State) (h : Heap) (a : Addr) (ty : FieldType) (n : Nat) (f : Nat → Int32) : Prop := ∃ cl : Cell, Arr Z h a cl ty ∧ cl.slots.size = n ∧ ∀ j, j < n → cl.slots[j]? = some (.int (f j))
def AyJ (Z : State) (h : Heap) (a : Addr) (n : Nat) (f : Nat → Int64) : Prop := ∃ cl : Cell, Arr Z h a cl .long ∧ cl.slots.size = n ∧ ∀ j, j < n → cl.slots[j]? = some (.long (f j))
def upd {α : Type} (f : Nat → α) (k : Nat) (v : α) : Nat → α := fun j => if j = k then v else f j
theorem upd_same {α : Type} (f : Nat → α) (k : Nat) (v : α) : upd f k v k = v := if_pos rfl
theorem upd_ne {α : Type} (f : Nat → α) {k j : Nat} (v : α) (q : j ≠ k) : upd f k v j = f j := if_neg q
theorem own_ix {j : Int32} {k : Nat} (hj : j.toInt = (k : Int)) : ¬ j < 0 ∧ j.toNatClampNeg = k := by
  refine ⟨fun q => ?_, ?_⟩
  · rw [Int32.lt_iff_toInt_lt, hj, show (0 : Int32).toInt = 0 from rfl] at q; omega
  · rw [Int32.toNatClampNeg, hj]; rfl
theorem own_in {j : Int32} {k n : Nat} (hj : j.toInt = (k : Int)) (hk : k < n) {cl : Cell} (hs : cl.slots.size = n) : ¬ (j < 0 ∨ cl.slots.size ≤ j.toNatClampNeg) := by
  rw [(own_ix hj).2, hs]
  exact fun q => q.elim (own_ix hj).1 (fun q => by omega)
theorem AyI.lt {a : Addr} {ty : FieldType} {n : Nat} {f : Nat → Int32} (A : AyI Z h a ty n f) : a < h.size := by obtain ⟨_, q, -⟩ := A; exact q.lt
theorem AyJ.lt {a : Addr} {n : Nat} {f : Nat → Int64} (A : AyJ Z h a n f) : a < h.size := by obtain ⟨_, q, -⟩ := A; exact q.lt
theorem AyI.ext {h' : Heap} {a : Addr} {ty : FieldType} {n : Nat} {f : Nat → Int32} (A : AyI Z h a ty n f) (E : Ext h h') : AyI Z h' a ty n f := by obtain ⟨cl, q, r⟩ := A; exact ⟨cl, q.ext E, r⟩
theorem AyJ.ext {h' : Heap} {a : Addr} {n : Nat} {f : Nat → Int64} (A : AyJ Z h a n f) (E : Ext h h') : AyJ Z h' a n f := by obtain ⟨cl, q, r⟩ := A; exact ⟨cl, q.ext E, r⟩
theorem AyI.other {h' : Heap} {a b : Addr} {sl : Nat} {v : Value} {ty : FieldType} {n : Nat} {f : Nat → Int32} (A : AyI Z h b ty n f) (w : Wr h h' a sl v) (q : b ≠ a) : AyI Z h' b ty n f := by obtain ⟨cl, x, r⟩ := A; exact ⟨cl, x.other w q, r⟩
theorem AyJ.other {h' : Heap} {a b : Addr} {sl : Nat} {v : Value} {n : Nat} {f : Nat → Int64} (A : AyJ Z h b n f) (w : Wr h h' a sl v) (q : b ≠ a) : AyJ Z h' b n f := by obtain ⟨cl, x, r⟩ := A; exact ⟨cl, x.other w q, r⟩
theorem AyI.keep {h' : Heap} {a : Addr} {ws : List Addr} {ty : FieldType} {n : Nat} {f : Nat → Int32} (A : AyI Z h a ty n f) (k : Keep h h' ws) (q : a ∉ ws) : AyI Z h' a ty n f := by obtain ⟨cl, x, r⟩ := A; exact ⟨cl, ⟨k.2.1 a cl x.1 q, x.2⟩, r⟩
theorem AyJ.keep {h' : Heap} {a : Addr} {ws : List Addr} {n : Nat} {f : Nat → Int64} (A : AyJ Z h a n f) (k : Keep h h' ws) (q : a ∉ ws) : AyJ Z h' a n f := by obtain ⟨cl, x, r⟩ := A; exact ⟨cl, ⟨k.2.1 a cl x.1 q, x.2⟩, r⟩
theorem AyI.same {h' : Heap} {a : Addr} {k : Nat} {x : Int32} {ty : FieldType} {n : Nat} {f : Nat → Int32} (A : AyI Z h a ty n f) (w : Wr h h' a k (.int x)) : AyI Z h' a ty n (upd f k x) := by
  obtain ⟨cl, q, r1, r2⟩ := A
  refine ⟨_, q.same w, by simpa [Cell.setSlot] using r1, fun j hj => ?_⟩
  by_cases e : j = k
  · subst e; rw [upd_same]; simp [Cell.setSlot, Array.getElem?_setIfInBounds, r1, hj]
  · rw [upd_ne f x e, ← r2 j hj]; simp [Cell.setSlot, Array.getElem?_setIfInBounds, Ne.symm e]
theorem AyJ.same {h' : Heap} {a : Addr} {k : Nat} {x : Int64} {n : Nat} {f : Nat → Int64} (A : AyJ Z h a n f) (w : Wr h h' a k (.long x)) : AyJ Z h' a n (upd f k x) := by
  obtain ⟨cl, q, r1, r2⟩ := A
  refine ⟨_, q.same w, by simpa [Cell.setSlot] using r1, fun j hj => ?_⟩
  by_cases e : j = k
  · subst e; rw [upd_same]; simp [Cell.setSlot, Array.getElem?_setIfInBounds, r1, hj]
  · rw [upd_ne f x e, ← r2 j hj]; simp [Cell.setSlot, Array.getElem?_setIfInBounds, Ne.symm e]
theorem g_alenI (K : Cx p s m meth c Z own nm bytes maxL ret) (W : Wd p l e R s m args below meth c n0 T h cs ss) {a : Addr} {ty : FieldType} {n : Nat} {f : Nat → Int32} (A : AyI Z h a ty n f) {v : Int32} (hv : Int32.ofNat n = v) (hd : decode bytes pc = .ok (.arraylength, 1)) (hp : pc + 1 = pc')
    (G : Go p e below s n0 Q rc rs T (mkF m pc' Ls (.int v :: st))) : Go p e below s n0 Q rc rs T (mkF m pc Ls (.ref a :: st)) := by
  obtain ⟨_, X, N, eT, z⟩ := W; subst hp
  obtain ⟨cl, q, r1, r2⟩ := A
  refine Go.stp (g' := mkF m (pc + 1) Ls (.int v :: st)) (fun _ hr => X.arraylength K.1 (cell := cl) (by rw [eT]; exact q.1) (State.isArrayOf_alike K.2.1.alike q.2.1) (g := mkF m pc Ls (.ref a :: st)) rfl (rest := st) rfl (hb K.2.2.1 hd) _ ?_) G
  rw [r1, show n.toInt32 = v from hv]
  exact hr
theorem g_alenJ (K : Cx p s m meth c Z own nm bytes maxL ret) (W : Wd p l e R s m args below meth c n0 T h cs ss) {a : Addr} {n : Nat} {f : Nat → Int64} (A : AyJ Z h a n f) {v : Int32} (hv : Int32.ofNat n = v) (hd : decode bytes pc = .ok (.arraylength, 1)) (hp : pc + 1 = pc')
    (G : Go p e below s n0 Q rc rs T (mkF m pc' Ls (.int v :: st))) : Go p e below s n0 Q rc rs T (mkF m pc Ls (.ref a :: st)) := by
  obtain ⟨_, X, N, eT, z⟩ := W; subst hp
  obtain ⟨cl, q, r1, r2⟩ := A
  refine Go.stp (g' := mkF m (pc + 1) Ls (.int v :: st)) (fun _ hr => X.arraylength K.1 (cell := cl) (by rw [eT]; exact q.1) (State.isArrayOf_alike K.2.1.alike q.2.1) (g := mkF m pc Ls (.ref a :: st)) rfl (rest := st) rfl (hb K.2.2.1 hd) _ ?_) G
  rw [r1, show n.toInt32 = v from hv]
  exact hr
theorem g_iaload (K : Cx p s m meth c Z own nm bytes maxL ret) (W : Wd p l e R s m args below meth c n0 T h cs ss) {a : Addr} {n k : Nat} {f : Nat → Int32} {j v : Int32} (A : AyI Z h a .int n f) (hj : j.toInt = (k : Int)) (hk : k < n) (hv : f k = v) (hd : decode bytes pc = .ok (.iaload, 1)) (hp : pc + 1 = pc')
    (G : Go p e below s n0 Q rc rs T (mkF m pc' Ls (.int v :: st))) : Go p e below s n0 Q rc rs T (mkF m pc Ls (.int j :: .ref a :: st)) := by
  obtain ⟨_, X, N, eT, z⟩ := W; subst hp hv
  obtain ⟨cl, q, r1, r2⟩ := A
  exact Go.stp (g' := mkF m (pc + 1) Ls (.int (f k) :: st)) (fun _ hr => X.iaload K.1 (by rw [eT]; exact q.1) (State.isArrayOf_alike K.2.1.alike q.2.1) q.2.2 (own_in hj hk r1) (by rw [(own_ix hj).2]; exact r2 k hk) (g := mkF m pc Ls (.int j :: .ref a :: st)) rfl rfl (hb K.2.2.1 hd) _ hr) G
theorem g_baload (K : Cx p s m meth c Z own nm bytes maxL ret) (W : Wd p l e R s m args below meth c n0 T h cs ss) {a : Addr} {n k : Nat} {f : Nat → Int32} {j v : Int32} (A : AyI Z h a .byte n f) (hj : j.toInt = (k : Int)) (hk : k < n) (hv : f k = v) (hd : decode bytes pc = .ok (.baload, 1)) (hp : pc + 1 = pc')
    (G : Go p e below s n0 Q rc rs T (mkF m pc' Ls (.int v :: st))) : Go p e below s n0 Q rc rs T (mkF m pc Ls (.int j :: .ref a :: st)) := by
  obtain ⟨_, X, N, eT, z⟩ := W; subst hp hv
  obtain ⟨cl, q, r1, r2⟩ := A
  exact Go.stp (g' := mkF m (pc + 1) Ls (.int (f k) :: st)) (fun _ hr => X.baloadBytes K.1 (by rw [eT]; exact q.1) (State.isArrayOf_alike K.2.1.alike q.2.1) q.2.2 (own_in hj hk r1) (by rw [(own_ix hj).2]; exact r2 k hk) (g := mkF m pc Ls (.int j :: .ref a :: st)) rfl rfl (hb K.2.2.1 hd) _ hr) G
theorem g_zaload (K : Cx p s m meth c Z own nm bytes maxL ret) (W : Wd p l e R s m args below meth c n0 T h cs ss) {a : Addr} {n k : Nat} {f : Nat → Int32} {j v : Int32} (A : AyI Z h a .boolean n f) (hj : j.toInt = (k : Int)) (hk : k < n) (hv : f k = v) (hd : decode bytes pc = .ok (.baload, 1)) (hp : pc + 1 = pc')
    (G : Go p e below s n0 Q rc rs T (mkF m pc' Ls (.int v :: st))) : Go p e below s n0 Q rc rs T (mkF m pc Ls (.int j :: .ref a :: st)) := by
  obtain ⟨_, X, N, eT, z⟩ := W; subst hp hv
  obtain ⟨cl, q, r1, r2⟩ := A
  exact Go.stp (g' := mkF m (pc + 1) Ls (.int (f k) :: st)) (fun _ hr => X.baloadBooleans K.1 (by rw [eT]; exact q.1) (State.isArrayOf_alike K.2.1.alike q.2.1) q.2.2 (own_in hj hk r1) (by rw [(own_ix hj).2]; exact r2 k hk) (g := mkF m pc Ls (.int j :: .ref a :: st)) rfl rfl (hb K.2.2.1 hd) _ hr) G
theorem g_laload (K : Cx p s m meth c Z own nm bytes maxL ret) (W : Wd p l e R s m args below meth c n0 T h cs ss) {a : Addr} {n k : Nat} {f : Nat → Int64} {j : Int32} {v : Int64} (A : AyJ Z h a n f) (hj : j.toInt = (k : Int)) (hk : k < n) (hv : f k = v) (hd : decode bytes pc = .ok (.laload, 1)) (hp : pc + 1 = pc')
    (G : Go p e below s n0 Q rc rs T (mkF m pc' Ls (.long v :: st))) : Go p e below s n0 Q rc rs T (mkF m pc Ls (.int j :: .ref a :: st)) := by
  obtain ⟨_, X, N, eT, z⟩ := W; subst hp hv
  obtain ⟨cl, q, r1, r2⟩ := A
  exact Go.stp (g' := mkF m (pc + 1) Ls (.long (f k) :: st)) (fun _ hr => X.laload K.1 (by rw [eT]; exact q.1) (State.isArrayOf_alike K.2.1.alike q.2.1) q.2.2 (own_in hj hk r1) (by rw [(own_ix hj).2]; exact r2 k hk) (g := mkF m pc Ls (.int j :: .ref a :: st)) rfl rfl (hb K.2.2.1 hd) _ hr) G
theorem g_bastore (K : Cx p s m meth c Z own nm bytes maxL ret) (W : Wd p l e R s m args below meth c n0 T h cs ss) {a : Addr} {n k : Nat} {f : Nat → Int32} {j x : Int32} (A : AyI Z h a .byte n f) (hj : j.toInt = (k : Int)) (hk : k < n) (ha : n0 ≤ a) (hd : decode bytes pc = .ok (.bastore, 1)) (hp : pc + 1 = pc')
    (G : ∀ T' h', Wd p l e R s m args below meth c n0 T' h' cs ss → Wr h h' a k (.int x.toInt8.toInt32) → AyI Z h' a .byte n (upd f k x.toInt8.toInt32) → Go p e below s n0 Q rc rs T' (mkF m pc' Ls st)) : Go p e below s n0 Q rc rs T (mkF m pc Ls (.int x :: .int j :: .ref a :: st)) := by
  obtain ⟨locs, X, N, eT, z⟩ := W; subst hp
  have A0 := A
  obtain ⟨cl, q, r1, r2⟩ := A
  obtain ⟨T', h', X', e', w', st'⟩ := stB X K.1 K.2.1 eT q (own_in hj hk r1) (g := mkF m pc Ls (.int x :: .int j :: .ref a :: st)) rfl rfl (hb K.2.2.1 hd)
  rw [(own_ix hj).2] at w' X'
  exact Go.stp st' (G T' h' ⟨_, X', Fr.snoc X' N ha, e', z⟩ w' (A0.same w'))
theorem g_zastore (K : Cx p s m meth c Z own nm bytes maxL ret) (W : Wd p l e R s m args below meth c n0 T h cs ss) {a : Addr} {n k : Nat} {f : Nat → Int32} {j x : Int32} (A : AyI Z h a .boolean n f) (hj : j.toInt = (k : Int)) (hk : k < n) (ha : n0 ≤ a) (hd : decode bytes pc = .ok (.bastore, 1)) (hp : pc + 1 = pc')
    (G : ∀ T' h', Wd p l e R s m args below meth c n0 T' h' cs ss → Wr h h' a k (.int (x &&& 1)) → AyI Z h' a .boolean n (upd f k (x &&& 1)) → Go p e below s n0 Q rc rs T' (mkF m pc' Ls st)) : Go p e below s n0 Q rc rs T (mkF m pc Ls (.int x :: .int j :: .ref a :: st)) := by
  obtain ⟨locs, X, N, eT, z⟩ := W; subst hp
  have A0 := A
  obtain ⟨cl, q, r1, r2⟩ := A
  obtain ⟨T', h', X', e', w', st'⟩ := stZ X K.1 K.2.1 eT q (own_in hj hk r1) (g := mkF m pc Ls (.int x :: .int j :: .ref a :: st)) rfl rfl (hb K.2.2.1 hd)
  rw [(own_ix hj).2] at w' X'
  exact Go.stp st' (G T' h' ⟨_, X', Fr.snoc X' N ha, e', z⟩ w' (A0.same w'))
theorem g_iastore (K : Cx p s m meth c Z own nm bytes maxL ret) (W : Wd p l e R s m args below meth c n0 T h cs ss) {a : Addr} {n k : Nat} {f : Nat → Int32} {j x : Int32} (A : AyI Z h a .int n f) (hj : j.toInt = (k : Int)) (hk : k < n) (ha : n0 ≤ a) (hd : decode bytes pc = .ok (.iastore, 1)) (hp : pc + 1 = pc')
    (G : ∀ T' h', Wd p l e R s m args below meth c n0 T' h' cs ss → Wr h h' a k (.int x) → AyI Z h' a .int n (upd f k x) → Go p e below s n0 Q rc rs T' (mkF m pc' Ls st)) : Go p e below s n0 Q rc rs T (mkF m pc Ls (.int x :: .int j :: .ref a :: st)) := by
  obtain ⟨locs, X, N, eT, z⟩ := W; subst hp
  have A0 := A
  obtain ⟨cl, q, r1, r2⟩ := A
  obtain ⟨T', h', X', e', w', st'⟩ := stI X K.1 K.2.1 eT q (own_in hj hk r1) (g := mkF m pc Ls (.int x :: .int j :: .ref a :: st)) rfl rfl (hb K.2.2.1 hd)
  rw [(own_ix hj).2] at w' X'
  exact Go.stp st' (G T' h' ⟨_, X', Fr.snoc X' N ha, e', z⟩ w' (A0.same w'))
theorem g_lastore (K : Cx p s m meth c Z own nm bytes maxL ret) (W : Wd p l e R s m args below meth c n0 T h cs ss) {a : Addr} {n k : Nat} {f : Nat → Int64} {j : Int32} {x : Int64} (A : AyJ Z h a n f) (hj : j.toInt = (k : Int)) (hk : k < n) (ha : n0 ≤ a) (hd : decode bytes pc = .ok (.lastore, 1)) (hp : pc + 1 = pc')
    (G : ∀ T' h', Wd p l e R s m args below meth c n0 T' h' cs ss → Wr h h' a k (.long x) → AyJ Z h' a n (upd f k x) → Go p e below s n0 Q rc rs T' (mkF m pc' Ls st)) : Go p e below s n0 Q rc rs T (mkF m pc Ls (.long x :: .int j :: .ref a :: st)) := by
  obtain ⟨locs, X, N, eT, z⟩ := W; subst hp
  have A0 := A
  obtain ⟨cl, q, r1, r2⟩ := A
  obtain ⟨T', h', X', e', w', st'⟩ := stJ X K.1 K.2.1 eT q (own_in hj hk r1) (g := mkF m pc Ls (.long x :: .int j :: .ref a :: st)) rfl rfl (hb K.2.2.1 hd)
  rw [(own_ix hj).2] at w' X'
  exact Go.stp st' (G T' h' ⟨_, X', Fr.snoc X' N ha, e', z⟩ w' (A0.same w'))
theorem g_newI (K : Cx p s m meth c Z own nm bytes maxL ret) (W : Wd p l e R s m args below meth c n0 T h cs ss) {aty : ArrayType} {ty : FieldType} {j : Int32} {n cap : Nat} (w : (Jvm.Cond.arrayClass ty).before a0 Z = true) (hty : newarray.typeOf aty = ty) (hdf : defaultValue ty = .int 0) (hj : j.toInt = (n : Int)) (hcap : n ≤ cap) (hd : decode bytes pc = .ok (.newarray aty, 2)) (hp : pc + 2 = pc') (hb8 : cap * 8 ≤ 536870912) (hc : cs + 1 ≤ R.cells) (hl : ss + cap ≤ R.slots)
    (G : ∀ T' h' a, Wd p l e R s m args below meth c n0 T' h' (cs + 1) (ss + cap) → Ext h h' → a = h.size → n0 ≤ a → AyI Z h' a ty n (fun _ => 0) → Go p e below s n0 Q rc rs T' (mkF m pc' Ls (.ref a :: st))) : Go p e below s n0 Q rc rs T (mkF m pc Ls (.int j :: st)) := by
  have zz := W.sz
  obtain ⟨locs, X, N, eT, z⟩ := W; subst hp hty
  obtain ⟨T', h', kA, X', e', E, A, q⟩ := newP X K.1 K.2.1 w eT (g := mkF m pc Ls (.int j :: st)) rfl (hb K.2.2.1 hd) rfl (own_ix hj).1 (cap := cap) (by rw [(own_ix hj).2]; exact hcap) hb8 hc hl
  refine Go.stp q (G T' h' _ ⟨_, X', N, e', z⟩ E rfl zz ⟨_, A, by rw [sz_new, (own_ix hj).2], fun i hi => ?_⟩)
  rw [← hdf]
  simp [newA, (own_ix hj).2, hi]
theorem g_newJ (K : Cx p s m meth c Z own nm bytes maxL ret) (W : Wd p l e R s m args below meth c n0 T h cs ss) {j : Int32} {n cap : Nat} (w : (Jvm.Cond.arrayClass .long).before a0 Z = true) (hj : j.toInt = (n : Int)) (hcap : n ≤ cap) (hd : decode bytes pc = .ok (.newarray .long, 2)) (hp : pc + 2 = pc') (hb8 : cap * 8 ≤ 536870912) (hc : cs + 1 ≤ R.cells) (hl : ss + cap ≤ R.slots)
    (G : ∀ T' h' a, Wd p l e R s m args below meth c n0 T' h' (cs + 1) (ss + cap) → Ext h h' → a = h.size → n0 ≤ a → AyJ Z h' a n (fun _ => 0) → Go p e below s n0 Q rc rs T' (mkF m pc' Ls (.ref a :: st))) : Go p e below s n0 Q rc rs T (mkF m pc Ls (.int j :: st)) := by
  have zz := W.sz
  obtain ⟨locs, X, N, eT, z⟩ := W; subst hp
  obtain ⟨T', h', kA, X', e', E, A, q⟩ := newP X K.1 K.2.1 (aty := .long) w eT (g := mkF m pc Ls (.int j :: st)) rfl (hb K.2.2.1 hd) rfl (own_ix hj).1 (cap := cap) (by rw [(own_ix hj).2]; exact hcap) hb8 hc hl
  refine Go.stp q (G T' h' _ ⟨_, X', N, e', z⟩ E rfl zz ⟨_, A, by rw [sz_new, (own_ix hj).2], fun i hi => ?_⟩)
  rw [show (Value.long 0) = defaultValue .long from rfl]
  simp [newA, (own_ix hj).2, hi, newarray.typeOf]
end OwnBase
section OwnObj
variable {p : Program} {l : Launch} {e : Env} {R : Room} {s : State} {m : MethodId} {args : Array Value} {below : List Frame} {meth : Method} {c : Code} {Z : State} {own nm : String} {bytes : ByteArray} {maxL : Nat} {ret : Option FieldType} {T : State} {h : Heap} {cs ss n0 : Nat} {Q : Option Value → Heap → Prop} {rc rs : Nat} {pc pc' pf pt : Nat} {Ls Ls' : Array Slot} {st rest : List Value} {a0 : Array Value}
theorem g_initO (K : Cx p s m meth c Z own nm bytes maxL ret) (W : Wd p l e R s m args below meth c n0 T h cs ss) {idx : Nat} {a : Addr} (w1 : (Jvm.Cond.methodLink own idx Lib.objectInit).before a0 Z = true) (w2 : (Jvm.Cond.instanceMethod Lib.objectInit).before a0 Z = true) (w3 : (Jvm.Cond.code Lib.objectInit object_method_1_code 1 none).before a0 Z = true) (hsz : Ls.size = maxL) (hd : decode bytes pc = .ok (.invokespecial idx, 3)) (hp : pc + 3 = pc') (hf : 1 ≤ R.frames) {wt : Nat} (hwt : (st.map fun v => v.category).sum = wt) (hl : wt + 12 ≤ R.locals)
    (G : ∀ T', Wd p l e R s m args below meth c n0 T' h cs ss → Go p e below s n0 Q rc rs T' (mkF m pc' Ls st)) : Go p e below s n0 Q rc rs T (mkF m pc Ls (.ref a :: st)) := by
  obtain ⟨locs, X, N, eT, z⟩ := W; subst hp hwt
  obtain ⟨T', X', e', q⟩ := initO X K.1 K.2.1 K.2.2.2.2.1 w1 w2 w3 eT (g := mkF m pc Ls (.ref a :: st)) rfl (hsz.trans K.2.2.2.1.symm) rfl (hb K.2.2.1 hd) hf (W := (st.map fun v => v.category).sum) (by show 2 * 0 + _ ≤ _; omega) hl
  exact Go.stp q (G T' ⟨locs, X', N, e', z⟩)
end OwnObj
theorem d1_0 : decode jdk_29_method_70_code 0 = .ok (.lload_n 0, 1) := by decide +kernel
theorem d1_1 : decode jdk_29_method_70_code 1 = .ok (.lload_n 2, 1) := by decide +kernel
theorem d1_2 : decode jdk_29_method_70_code 2 = .ok (.lcmp, 1) := by decide +kernel
theorem d1_3 : decode jdk_29_method_70_code 3 = .ok (.ifCond .gt 7, 3) := by decide +kernel
theorem d1_6 : decode jdk_29_method_70_code 6 = .ok (.lload_n 0, 1) := by decide +kernel
theorem d1_7 : decode jdk_29_method_70_code 7 = .ok (.goto 4, 3) := by decide +kernel
theorem d1_10 : decode jdk_29_method_70_code 10 = .ok (.lload_n 2, 1) := by decide +kernel
theorem d1_11 : decode jdk_29_method_70_code 11 = .ok (.lreturn, 1) := by decide +kernel
theorem d2_0 : decode jdk_29_method_66_code 0 = .ok (.lload_n 0, 1) := by decide +kernel
theorem d2_1 : decode jdk_29_method_66_code 1 = .ok (.lload_n 2, 1) := by decide +kernel
theorem d2_2 : decode jdk_29_method_66_code 2 = .ok (.lcmp, 1) := by decide +kernel
theorem d2_3 : decode jdk_29_method_66_code 3 = .ok (.ifCond .lt 7, 3) := by decide +kernel
theorem d2_6 : decode jdk_29_method_66_code 6 = .ok (.lload_n 0, 1) := by decide +kernel
theorem d2_7 : decode jdk_29_method_66_code 7 = .ok (.goto 4, 3) := by decide +kernel
theorem d2_10 : decode jdk_29_method_66_code 10 = .ok (.lload_n 2, 1) := by decide +kernel
theorem d2_11 : decode jdk_29_method_66_code 11 = .ok (.lreturn, 1) := by decide +kernel
theorem pn_0 : plainName "java/lang/Record" = true := by first | (simp [plainName, overriddenIn]; done) | decide +kernel
theorem d4_0 : decode jdk_30_method_1_code 0 = .ok (.aload_n 0, 1) := by decide +kernel
theorem d4_1 : decode jdk_30_method_1_code 1 = .ok (.invokespecial 1, 3) := by decide +kernel
theorem d4_4 : decode jdk_30_method_1_code 4 = .ok (.return_, 1) := by decide +kernel
theorem pn_1 : plainName "com/example/cast_to_area/casttoarea/Rectangle" = true := by first | (simp [plainName, overriddenIn]; done) | decide +kernel
theorem d3_0 : decode prog_15_method_1_code 0 = .ok (.aload_n 0, 1) := by decide +kernel
theorem d3_1 : decode prog_15_method_1_code 1 = .ok (.invokespecial 1, 3) := by decide +kernel
theorem d3_4 : decode prog_15_method_1_code 4 = .ok (.lload_n 1, 1) := by decide +kernel
theorem d3_5 : decode prog_15_method_1_code 5 = .ok (.lload 5, 2) := by decide +kernel
theorem d3_7 : decode prog_15_method_1_code 7 = .ok (.lcmp, 1) := by decide +kernel
theorem d3_8 : decode prog_15_method_1_code 8 = .ok (.ifCond .gt 10, 3) := by decide +kernel
theorem d3_11 : decode prog_15_method_1_code 11 = .ok (.lload_n 3, 1) := by decide +kernel
theorem d3_12 : decode prog_15_method_1_code 12 = .ok (.lload 7, 2) := by decide +kernel
theorem d3_14 : decode prog_15_method_1_code 14 = .ok (.lcmp, 1) := by decide +kernel
theorem d3_15 : decode prog_15_method_1_code 15 = .ok (.ifCond .le 22, 3) := by decide +kernel
theorem d3_18 : decode prog_15_method_1_code 18 = .ok (.new 7, 3) := by decide +kernel
theorem d3_21 : decode prog_15_method_1_code 21 = .ok (.dup, 1) := by decide +kernel
theorem d3_22 : decode prog_15_method_1_code 22 = .ok (.lload_n 1, 1) := by decide +kernel
theorem d3_23 : decode prog_15_method_1_code 23 = .ok (.lload 5, 2) := by decide +kernel
theorem d3_25 : decode prog_15_method_1_code 25 = .ok (.lload_n 3, 1) := by decide +kernel
theorem d3_26 : decode prog_15_method_1_code 26 = .ok (.lload 7, 2) := by decide +kernel
theorem d3_33 : decode prog_15_method_1_code 33 = .ok (.invokespecial 13, 3) := by decide +kernel
theorem d3_36 : decode prog_15_method_1_code 36 = .ok (.athrow, 1) := by decide +kernel
theorem d3_37 : decode prog_15_method_1_code 37 = .ok (.aload_n 0, 1) := by decide +kernel
theorem d3_38 : decode prog_15_method_1_code 38 = .ok (.lload_n 1, 1) := by decide +kernel
theorem d3_39 : decode prog_15_method_1_code 39 = .ok (.putfield 16, 3) := by decide +kernel
theorem d3_42 : decode prog_15_method_1_code 42 = .ok (.aload_n 0, 1) := by decide +kernel
theorem d3_43 : decode prog_15_method_1_code 43 = .ok (.lload_n 3, 1) := by decide +kernel
theorem d3_44 : decode prog_15_method_1_code 44 = .ok (.putfield 22, 3) := by decide +kernel
theorem d3_47 : decode prog_15_method_1_code 47 = .ok (.aload_n 0, 1) := by decide +kernel
theorem d3_48 : decode prog_15_method_1_code 48 = .ok (.lload 5, 2) := by decide +kernel
theorem d3_50 : decode prog_15_method_1_code 50 = .ok (.putfield 25, 3) := by decide +kernel
theorem d3_53 : decode prog_15_method_1_code 53 = .ok (.aload_n 0, 1) := by decide +kernel
theorem d3_54 : decode prog_15_method_1_code 54 = .ok (.lload 7, 2) := by decide +kernel
theorem d3_56 : decode prog_15_method_1_code 56 = .ok (.putfield 28, 3) := by decide +kernel
theorem d3_59 : decode prog_15_method_1_code 59 = .ok (.return_, 1) := by decide +kernel
theorem pd_0 : parseMethodDescriptor "()V" = some ⟨[], none⟩ := by decide +kernel
theorem pn_2 : plainName "com/example/cast_to_area/casttoarea/RectangleContainsPinLaw" = true := by first | (simp [plainName, overriddenIn]; done) | decide +kernel
theorem d6_0 : decode method_3_code 0 = .ok (.lload_n 2, 1) := by decide +kernel
theorem d6_1 : decode method_3_code 1 = .ok (.lload_n 0, 1) := by decide +kernel
theorem d6_2 : decode method_3_code 2 = .ok (.lload 4, 2) := by decide +kernel
theorem d6_4 : decode method_3_code 4 = .ok (.invokestatic 7, 3) := by decide +kernel
theorem d6_7 : decode method_3_code 7 = .ok (.invokestatic 13, 3) := by decide +kernel
theorem d6_10 : decode method_3_code 10 = .ok (.lreturn, 1) := by decide +kernel
theorem pd_1 : parseMethodDescriptor "(JJ)J" = some ⟨[.long, .long], some .long⟩ := by decide +kernel
theorem d7_0 : decode prog_15_method_3_code 0 = .ok (.aload_n 0, 1) := by decide +kernel
theorem d7_1 : decode prog_15_method_3_code 1 = .ok (.getfield 16, 3) := by decide +kernel
theorem d7_4 : decode prog_15_method_3_code 4 = .ok (.lload_n 1, 1) := by decide +kernel
theorem d7_5 : decode prog_15_method_3_code 5 = .ok (.lcmp, 1) := by decide +kernel
theorem d7_6 : decode prog_15_method_3_code 6 = .ok (.ifCond .gt 34, 3) := by decide +kernel
theorem d7_9 : decode prog_15_method_3_code 9 = .ok (.lload_n 1, 1) := by decide +kernel
theorem d7_10 : decode prog_15_method_3_code 10 = .ok (.aload_n 0, 1) := by decide +kernel
theorem d7_11 : decode prog_15_method_3_code 11 = .ok (.getfield 25, 3) := by decide +kernel
theorem d7_14 : decode prog_15_method_3_code 14 = .ok (.lcmp, 1) := by decide +kernel
theorem d7_15 : decode prog_15_method_3_code 15 = .ok (.ifCond .gt 25, 3) := by decide +kernel
theorem d7_18 : decode prog_15_method_3_code 18 = .ok (.aload_n 0, 1) := by decide +kernel
theorem d7_19 : decode prog_15_method_3_code 19 = .ok (.getfield 22, 3) := by decide +kernel
theorem d7_22 : decode prog_15_method_3_code 22 = .ok (.lload_n 3, 1) := by decide +kernel
theorem d7_23 : decode prog_15_method_3_code 23 = .ok (.lcmp, 1) := by decide +kernel
theorem d7_24 : decode prog_15_method_3_code 24 = .ok (.ifCond .gt 16, 3) := by decide +kernel
theorem d7_27 : decode prog_15_method_3_code 27 = .ok (.lload_n 3, 1) := by decide +kernel
theorem d7_28 : decode prog_15_method_3_code 28 = .ok (.aload_n 0, 1) := by decide +kernel
theorem d7_29 : decode prog_15_method_3_code 29 = .ok (.getfield 28, 3) := by decide +kernel
theorem d7_32 : decode prog_15_method_3_code 32 = .ok (.lcmp, 1) := by decide +kernel
theorem d7_33 : decode prog_15_method_3_code 33 = .ok (.ifCond .gt 7, 3) := by decide +kernel
theorem d7_36 : decode prog_15_method_3_code 36 = .ok (.iconst 1, 1) := by decide +kernel
theorem d7_37 : decode prog_15_method_3_code 37 = .ok (.goto 4, 3) := by decide +kernel
theorem d7_40 : decode prog_15_method_3_code 40 = .ok (.iconst 0, 1) := by decide +kernel
theorem d7_41 : decode prog_15_method_3_code 41 = .ok (.ireturn, 1) := by decide +kernel
theorem pd_2 : parseMethodDescriptor "(JJJJ)V" = some ⟨[.long, .long, .long, .long], none⟩ := by decide +kernel
theorem pd_3 : parseMethodDescriptor "(JJ)Z" = some ⟨[.long, .long], some .boolean⟩ := by decide +kernel
theorem pd_4 : parseMethodDescriptor "(JJJ)J" = some ⟨[.long, .long, .long], some .long⟩ := by decide +kernel
def own_min (a b : Int64) : Int64 := if b < a then b else a
def own_max (a b : Int64) : Int64 := if a < b then b else a
def own_ins (x0 y0 x1 y1 x y : Int64) : Int32 := if x < x0 ∨ x1 < x ∨ y < y0 ∨ y1 < y then 0 else 1
theorem own_mm (a b : Int64) : ¬ own_max a b < own_min a b := by
  unfold own_max own_min
  split <;> split <;> simp_all [Int64.lt_iff_toInt_lt] <;> omega
theorem own_clamp {v lo hi : Int64} (q : ¬ hi < lo) : own_max lo (own_min v hi) = v ↔ (¬ v < lo ∧ ¬ hi < v) := by
  unfold own_max own_min
  split <;> split <;> simp_all [Int64.lt_iff_toInt_lt, ← Int64.toInt_inj] <;> omega
theorem own_dn {x : Int64} (q : ¬ x = (-9223372036854775808 : Int64)) : x - 1 < x := by
  rw [← Int64.toInt_inj] at q
  have r : (-9223372036854775808 : Int64).toInt = -9223372036854775808 := rfl
  have b := x.minValue_le_toInt
  have b2 := Int64.toInt_lt x
  have m : Int64.minValue.toInt = -9223372036854775808 := rfl
  rw [r] at q; rw [m] at b
  rw [Int64.lt_iff_toInt_lt, Int64.toInt_sub, show (1 : Int64).toInt = 1 from rfl, Int.bmod_eq_of_le (by omega) (by omega)]
  omega
theorem own_up {x : Int64} (q : ¬ x = (9223372036854775807 : Int64)) : x < x + 1 := by
  rw [← Int64.toInt_inj] at q
  have r : (9223372036854775807 : Int64).toInt = 9223372036854775807 := rfl
  have b := x.minValue_le_toInt
  have b2 := Int64.toInt_lt x
  have m : Int64.minValue.toInt = -9223372036854775808 := rfl
  rw [r] at q; rw [m] at b
  rw [Int64.lt_iff_toInt_lt, Int64.toInt_add, show (1 : Int64).toInt = 1 from rfl, Int.bmod_eq_of_le (by omega) (by omega)]
  omega
def Q_c1 (Z : State) (n0 : Nat) (h0 : Heap) (y0 : Int64) (y1 : Int64) : Option Value → Heap → Prop := fun v h => v = some (.long (own_min y0 y1)) ∧ h0 = h
abbrev rm_c1 : Room := { frames := 0, cells := 0, slots := 0, locals := 0 }
set_option maxHeartbeats 40000000 in
theorem c1 (l : Launch) (Z : State) (a0 : Array Value) (hw : ∀ d ∈ tables_1, d.before a0 Z = true) (n0 : Nat) (h0 : Heap) (hn : n0 ≤ h0.size) (y0 : Int64) (y1 : Int64) :
    Mt l Z (⟨"java/lang/Math", "min", "(JJ)J"⟩ : MethodName) jdk_29_method_70_code 4 (some .long) rm_c1 n0 #[(.long y0), (.long y1)] h0 (Q_c1 Z n0 h0 y0 y1) := by
  refine met_of (Jvm.Free.JP.mathPlain rfl (by decide +kernel)) (Ls := #[.val (.long y0), .second, .val (.long y1), .second]) (fun m => by first | (simp [entryFrame, mkF, argsToLocals, Value.category]; done) | rfl) hn ?_
  intro p e s m below meth c T K W
  replace K : Cx p s m meth c Z "java/lang/Math" "min" jdk_29_method_70_code 4 (some .long) := K
  generalize eA : (#[(.long y0), (.long y1)] : Array Value) = args at W
  show Go p e below s n0 (Q_c1 Z n0 h0 y0 y1) 0 0 T (mkF m 0 #[.val (.long y0), .second, .val (.long y1), .second] [])
  refine g_lloadN K W d1_0 rfl (pc' := 1) rfl ?_
  refine g_lloadN K W d1_1 rfl (pc' := 2) rfl ?_
  refine g_lcmp_gt K W d1_2 (pc1 := 3) rfl d1_3 (pt := 10) rfl (pf := 6) rfl (fun hc2 => ?_) (fun hc2 => ?_)
  · refine g_lloadN K W d1_10 rfl (pc' := 11) rfl ?_
    exact g_retL K W d1_11 (by decide) (by decide) ⟨by simp [own_min, hc2], rfl⟩
  · refine g_lloadN K W d1_6 rfl (pc' := 7) rfl ?_
    refine g_goto K W d1_7 (pt := 11) rfl ?_
    exact g_retL K W d1_11 (by decide) (by decide) ⟨by simp [own_min, hc2], rfl⟩
def Q_c2 (Z : State) (n0 : Nat) (h0 : Heap) (y0 : Int64) (y1 : Int64) : Option Value → Heap → Prop := fun v h => v = some (.long (own_max y0 y1)) ∧ h0 = h
abbrev rm_c2 : Room := { frames := 0, cells := 0, slots := 0, locals := 0 }
set_option maxHeartbeats 40000000 in
theorem c2 (l : Launch) (Z : State) (a0 : Array Value) (hw : ∀ d ∈ tables_1, d.before a0 Z = true) (n0 : Nat) (h0 : Heap) (hn : n0 ≤ h0.size) (y0 : Int64) (y1 : Int64) :
    Mt l Z (⟨"java/lang/Math", "max", "(JJ)J"⟩ : MethodName) jdk_29_method_66_code 4 (some .long) rm_c2 n0 #[(.long y0), (.long y1)] h0 (Q_c2 Z n0 h0 y0 y1) := by
  refine met_of (Jvm.Free.JP.mathPlain rfl (by decide +kernel)) (Ls := #[.val (.long y0), .second, .val (.long y1), .second]) (fun m => by first | (simp [entryFrame, mkF, argsToLocals, Value.category]; done) | rfl) hn ?_
  intro p e s m below meth c T K W
  replace K : Cx p s m meth c Z "java/lang/Math" "max" jdk_29_method_66_code 4 (some .long) := K
  generalize eA : (#[(.long y0), (.long y1)] : Array Value) = args at W
  show Go p e below s n0 (Q_c2 Z n0 h0 y0 y1) 0 0 T (mkF m 0 #[.val (.long y0), .second, .val (.long y1), .second] [])
  refine g_lloadN K W d2_0 rfl (pc' := 1) rfl ?_
  refine g_lloadN K W d2_1 rfl (pc' := 2) rfl ?_
  refine g_lcmp_lt K W d2_2 (pc1 := 3) rfl d2_3 (pt := 10) rfl (pf := 6) rfl (fun hc2 => ?_) (fun hc2 => ?_)
  · refine g_lloadN K W d2_10 rfl (pc' := 11) rfl ?_
    exact g_retL K W d2_11 (by decide) (by decide) ⟨by simp [own_max, hc2], rfl⟩
  · refine g_lloadN K W d2_6 rfl (pc' := 7) rfl ?_
    refine g_goto K W d2_7 (pt := 11) rfl ?_
    exact g_retL K W d2_11 (by decide) (by decide) ⟨by simp [own_max, hc2], rfl⟩
def Q_c4 (Z : State) (n0 : Nat) (h0 : Heap) (o0 : Addr) : Option Value → Heap → Prop := fun v h => v = none ∧ h0 = h
abbrev rm_c4 : Room := { frames := 1, cells := 0, slots := 0, locals := 12 }
set_option maxHeartbeats 40000000 in
theorem c4 (l : Launch) (Z : State) (a0 : Array Value) (hw : ∀ d ∈ tables_1, d.before a0 Z = true) (n0 : Nat) (h0 : Heap) (hn : n0 ≤ h0.size) (o0 : Addr) :
    Mt l Z (⟨"java/lang/Record", "<init>", "()V"⟩ : MethodName) jdk_30_method_1_code 1 none rm_c4 n0 #[(.ref o0)] h0 (Q_c4 Z n0 h0 o0) := by
  refine met_of (plainFor_of_name pn_0) (Ls := #[.val (.ref o0)]) (fun m => by first | (simp [entryFrame, mkF, argsToLocals, Value.category]; done) | rfl) hn ?_
  intro p e s m below meth c T K W
  replace K : Cx p s m meth c Z "java/lang/Record" "<init>" jdk_30_method_1_code 1 none := K
  generalize eA : (#[(.ref o0)] : Array Value) = args at W
  show Go p e below s n0 (Q_c4 Z n0 h0 o0) 0 0 T (mkF m 0 #[.val (.ref o0)] [])
  refine g_aloadN K W d4_0 rfl rfl (pc' := 1) rfl ?_
  refine g_initO K W (hw _ (List.mem_of_getElem? (i := 18) rfl)) (hw _ (List.mem_of_getElem? (i := 19) rfl)) (hw _ (List.mem_of_getElem? (i := 20) rfl)) rfl d4_1 (pc' := 4) rfl (by decide) (wt := 0) rfl (by decide) (fun T W => ?_)
  exact g_ret0 K W d4_4 (by decide) (by decide) ⟨rfl, rfl⟩
def Q_c3 (Z : State) (n0 : Nat) (h0 : Heap) (o0 : Addr) (y1 : Int64) (y2 : Int64) (y3 : Int64) (y4 : Int64) : Option Value → Heap → Prop := fun v h => v = none ∧ Keep h0 h [o0] ∧ Fld Z h o0 "com/example/cast_to_area/casttoarea/Rectangle" "minX" "J" (.long y1) ∧ Fld Z h o0 "com/example/cast_to_area/casttoarea/Rectangle" "minY" "J" (.long y2) ∧ Fld Z h o0 "com/example/cast_to_area/casttoarea/Rectangle" "maxX" "J" (.long y3) ∧ Fld Z h o0 "com/example/cast_to_area/casttoarea/Rectangle" "maxY" "J" (.long y4)
abbrev rm_c3 : Room := { frames := 2, cells := 0, slots := 0, locals := 24 }
set_option maxHeartbeats 40000000 in
theorem c3 (l : Launch) (Z : State) (a0 : Array Value) (hw : ∀ d ∈ tables_1, d.before a0 Z = true) (n0 : Nat) (h0 : Heap) (hn : n0 ≤ h0.size) (o0 : Addr) (y1 : Int64) (y2 : Int64) (y3 : Int64) (y4 : Int64) (X_o0 : Exa Z h0 o0 "com/example/cast_to_area/casttoarea/Rectangle") (F_o0_minX : Fld Z h0 o0 "com/example/cast_to_area/casttoarea/Rectangle" "minX" "J" (.long (0 : Int64))) (F_o0_minY : Fld Z h0 o0 "com/example/cast_to_area/casttoarea/Rectangle" "minY" "J" (.long (0 : Int64))) (F_o0_maxX : Fld Z h0 o0 "com/example/cast_to_area/casttoarea/Rectangle" "maxX" "J" (.long (0 : Int64))) (F_o0_maxY : Fld Z h0 o0 "com/example/cast_to_area/casttoarea/Rectangle" "maxY" "J" (.long (0 : Int64))) (ge_o0 : n0 ≤ o0) (q1 : ¬ y3 < y1) (q2 : ¬ y4 < y2) :
    Mt l Z (⟨"com/example/cast_to_area/casttoarea/Rectangle", "<init>", "(JJJJ)V"⟩ : MethodName) prog_15_method_1_code 9 none rm_c3 n0 #[(.ref o0), (.long y1), (.long y2), (.long y3), (.long y4)] h0 (Q_c3 Z n0 h0 o0 y1 y2 y3 y4) := by
  refine met_of (plainFor_of_name pn_1) (Ls := #[.val (.ref o0), .val (.long y1), .second, .val (.long y2), .second, .val (.long y3), .second, .val (.long y4), .second]) (fun m => by first | (simp [entryFrame, mkF, argsToLocals, Value.category]; done) | rfl) hn ?_
  intro p e s m below meth c T K W
  replace K : Cx p s m meth c Z "com/example/cast_to_area/casttoarea/Rectangle" "<init>" prog_15_method_1_code 9 none := K
  generalize eA : (#[(.ref o0), (.long y1), (.long y2), (.long y3), (.long y4)] : Array Value) = args at W
  show Go p e below s n0 (Q_c3 Z n0 h0 o0 y1 y2 y3 y4) 0 0 T (mkF m 0 #[.val (.ref o0), .val (.long y1), .second, .val (.long y2), .second, .val (.long y3), .second, .val (.long y4), .second] [])
  have kp := Keep.refl h0 [o0]
  refine g_aloadN K W d3_0 rfl rfl (pc' := 1) rfl ?_
  refine g_callN (c4 l Z a0 hw n0 _ W.sz o0) K W rfl (hw _ (List.mem_of_getElem? (i := 13) rfl)) (hw _ (List.mem_of_getElem? (i := 14) rfl)) (hw _ (List.mem_of_getElem? (i := 16) rfl)) (hw _ (List.mem_of_getElem? (i := 17) rfl)) (by decide) (lenOf pd_0 rfl) d3_1 (pc' := 4) rfl (argsL := []) (rest := []) rfl rfl (by decide) (wt := 0) rfl (by decide) (by decide) (by decide) ?_
  rintro T _ _ W ⟨rfl, rfl⟩
  show Go p e below s n0 (Q_c3 Z n0 h0 o0 y1 y2 y3 y4) 0 0 T (mkF m 4 #[.val (.ref o0), .val (.long y1), .second, .val (.long y2), .second, .val (.long y3), .second, .val (.long y4), .second] [])
  refine g_lloadN K W d3_4 rfl (pc' := 5) rfl ?_
  refine g_lload K W d3_5 rfl (pc' := 7) rfl ?_
  refine g_lcmp_gt K W d3_7 (pc1 := 8) rfl d3_8 (pt := 18) rfl (pf := 11) rfl (fun hc7 => absurd hc7 q1) (fun hc7 => ?_)
  refine g_lloadN K W d3_11 rfl (pc' := 12) rfl ?_
  refine g_lload K W d3_12 rfl (pc' := 14) rfl ?_
  refine g_lcmp_le K W d3_14 (pc1 := 15) rfl d3_15 (pt := 37) rfl (pf := 18) rfl (fun hc14 => absurd hc14 q2) (fun hc14 => ?_)
  refine g_aloadN K W d3_37 rfl rfl (pc' := 38) rfl ?_
  refine g_lloadN K W d3_38 rfl (pc' := 39) rfl ?_
  refine g_putF K W (host := "") (Or.inl (hw _ (List.mem_of_getElem? (i := 21) rfl))) Via.refl F_o0_minX X_o0 (Or.inr ⟨(hw _ (List.mem_of_getElem? (i := 22) rfl)), rfl, rfl⟩) (hw _ (List.mem_of_getElem? (i := 8) rfl)) (ty := .long) (by decide) rfl rfl ge_o0 d3_39 (pc' := 42) rfl (fun T h W w => ?_)
  have kp := kp.wr w (Or.inl (List.mem_of_getElem? (i := 0) rfl))
  have X_o0 := X_o0.wr w
  have F_o0_minY := F_o0_minY.other w (Or.inr (slot_ne (a0 := a0) (C := "com/example/cast_to_area/casttoarea/Rectangle") (Or.inr (hw _ (List.mem_of_getElem? (i := 24) rfl))) (Or.inr (hw _ (List.mem_of_getElem? (i := 22) rfl))) (by decide) (t := .long) (t' := .long) (by decide) (by decide)))
  have F_o0_maxX := F_o0_maxX.other w (Or.inr (slot_ne (a0 := a0) (C := "com/example/cast_to_area/casttoarea/Rectangle") (Or.inr (hw _ (List.mem_of_getElem? (i := 26) rfl))) (Or.inr (hw _ (List.mem_of_getElem? (i := 22) rfl))) (by decide) (t := .long) (t' := .long) (by decide) (by decide)))
  have F_o0_maxY := F_o0_maxY.other w (Or.inr (slot_ne (a0 := a0) (C := "com/example/cast_to_area/casttoarea/Rectangle") (Or.inr (hw _ (List.mem_of_getElem? (i := 28) rfl))) (Or.inr (hw _ (List.mem_of_getElem? (i := 22) rfl))) (by decide) (t := .long) (t' := .long) (by decide) (by decide)))
  have F_o0_minX := F_o0_minX.same w
  refine g_aloadN K W d3_42 rfl rfl (pc' := 43) rfl ?_
  refine g_lloadN K W d3_43 rfl (pc' := 44) rfl ?_
  refine g_putF K W (host := "") (Or.inl (hw _ (List.mem_of_getElem? (i := 23) rfl))) Via.refl F_o0_minY X_o0 (Or.inr ⟨(hw _ (List.mem_of_getElem? (i := 24) rfl)), rfl, rfl⟩) (hw _ (List.mem_of_getElem? (i := 8) rfl)) (ty := .long) (by decide) rfl rfl ge_o0 d3_44 (pc' := 47) rfl (fun T h W w => ?_)
  have kp := kp.wr w (Or.inl (List.mem_of_getElem? (i := 0) rfl))
  have X_o0 := X_o0.wr w
  have F_o0_minX := F_o0_minX.other w (Or.inr (slot_ne (a0 := a0) (C := "com/example/cast_to_area/casttoarea/Rectangle") (Or.inr (hw _ (List.mem_of_getElem? (i := 22) rfl))) (Or.inr (hw _ (List.mem_of_getElem? (i := 24) rfl))) (by decide) (t := .long) (t' := .long) (by decide) (by decide)))
  have F_o0_maxX := F_o0_maxX.other w (Or.inr (slot_ne (a0 := a0) (C := "com/example/cast_to_area/casttoarea/Rectangle") (Or.inr (hw _ (List.mem_of_getElem? (i := 26) rfl))) (Or.inr (hw _ (List.mem_of_getElem? (i := 24) rfl))) (by decide) (t := .long) (t' := .long) (by decide) (by decide)))
  have F_o0_maxY := F_o0_maxY.other w (Or.inr (slot_ne (a0 := a0) (C := "com/example/cast_to_area/casttoarea/Rectangle") (Or.inr (hw _ (List.mem_of_getElem? (i := 28) rfl))) (Or.inr (hw _ (List.mem_of_getElem? (i := 24) rfl))) (by decide) (t := .long) (t' := .long) (by decide) (by decide)))
  have F_o0_minY := F_o0_minY.same w
  refine g_aloadN K W d3_47 rfl rfl (pc' := 48) rfl ?_
  refine g_lload K W d3_48 rfl (pc' := 50) rfl ?_
  refine g_putF K W (host := "") (Or.inl (hw _ (List.mem_of_getElem? (i := 25) rfl))) Via.refl F_o0_maxX X_o0 (Or.inr ⟨(hw _ (List.mem_of_getElem? (i := 26) rfl)), rfl, rfl⟩) (hw _ (List.mem_of_getElem? (i := 8) rfl)) (ty := .long) (by decide) rfl rfl ge_o0 d3_50 (pc' := 53) rfl (fun T h W w => ?_)
  have kp := kp.wr w (Or.inl (List.mem_of_getElem? (i := 0) rfl))
  have X_o0 := X_o0.wr w
  have F_o0_minX := F_o0_minX.other w (Or.inr (slot_ne (a0 := a0) (C := "com/example/cast_to_area/casttoarea/Rectangle") (Or.inr (hw _ (List.mem_of_getElem? (i := 22) rfl))) (Or.inr (hw _ (List.mem_of_getElem? (i := 26) rfl))) (by decide) (t := .long) (t' := .long) (by decide) (by decide)))
  have F_o0_minY := F_o0_minY.other w (Or.inr (slot_ne (a0 := a0) (C := "com/example/cast_to_area/casttoarea/Rectangle") (Or.inr (hw _ (List.mem_of_getElem? (i := 24) rfl))) (Or.inr (hw _ (List.mem_of_getElem? (i := 26) rfl))) (by decide) (t := .long) (t' := .long) (by decide) (by decide)))
  have F_o0_maxY := F_o0_maxY.other w (Or.inr (slot_ne (a0 := a0) (C := "com/example/cast_to_area/casttoarea/Rectangle") (Or.inr (hw _ (List.mem_of_getElem? (i := 28) rfl))) (Or.inr (hw _ (List.mem_of_getElem? (i := 26) rfl))) (by decide) (t := .long) (t' := .long) (by decide) (by decide)))
  have F_o0_maxX := F_o0_maxX.same w
  refine g_aloadN K W d3_53 rfl rfl (pc' := 54) rfl ?_
  refine g_lload K W d3_54 rfl (pc' := 56) rfl ?_
  refine g_putF K W (host := "") (Or.inl (hw _ (List.mem_of_getElem? (i := 27) rfl))) Via.refl F_o0_maxY X_o0 (Or.inr ⟨(hw _ (List.mem_of_getElem? (i := 28) rfl)), rfl, rfl⟩) (hw _ (List.mem_of_getElem? (i := 8) rfl)) (ty := .long) (by decide) rfl rfl ge_o0 d3_56 (pc' := 59) rfl (fun T h W w => ?_)
  have kp := kp.wr w (Or.inl (List.mem_of_getElem? (i := 0) rfl))
  have X_o0 := X_o0.wr w
  have F_o0_minX := F_o0_minX.other w (Or.inr (slot_ne (a0 := a0) (C := "com/example/cast_to_area/casttoarea/Rectangle") (Or.inr (hw _ (List.mem_of_getElem? (i := 22) rfl))) (Or.inr (hw _ (List.mem_of_getElem? (i := 28) rfl))) (by decide) (t := .long) (t' := .long) (by decide) (by decide)))
  have F_o0_minY := F_o0_minY.other w (Or.inr (slot_ne (a0 := a0) (C := "com/example/cast_to_area/casttoarea/Rectangle") (Or.inr (hw _ (List.mem_of_getElem? (i := 24) rfl))) (Or.inr (hw _ (List.mem_of_getElem? (i := 28) rfl))) (by decide) (t := .long) (t' := .long) (by decide) (by decide)))
  have F_o0_maxX := F_o0_maxX.other w (Or.inr (slot_ne (a0 := a0) (C := "com/example/cast_to_area/casttoarea/Rectangle") (Or.inr (hw _ (List.mem_of_getElem? (i := 26) rfl))) (Or.inr (hw _ (List.mem_of_getElem? (i := 28) rfl))) (by decide) (t := .long) (t' := .long) (by decide) (by decide)))
  have F_o0_maxY := F_o0_maxY.same w
  exact g_ret0 K W d3_59 (by decide) (by decide) ⟨rfl, kp, F_o0_minX, F_o0_minY, F_o0_maxX, F_o0_maxY⟩
def Q_c6 (Z : State) (n0 : Nat) (h0 : Heap) (y0 : Int64) (y1 : Int64) (y2 : Int64) : Option Value → Heap → Prop := fun v h => v = some (.long (own_max y1 (own_min y0 y2))) ∧ h0 = h
abbrev rm_c6 : Room := { frames := 1, cells := 0, slots := 0, locals := 17 }
set_option maxHeartbeats 40000000 in
theorem c6 (l : Launch) (Z : State) (a0 : Array Value) (hw : ∀ d ∈ tables_1, d.before a0 Z = true) (n0 : Nat) (h0 : Heap) (hn : n0 ≤ h0.size) (y0 : Int64) (y1 : Int64) (y2 : Int64) :
    Mt l Z (⟨"com/example/cast_to_area/casttoarea/RectangleContainsPinLaw", "clamp", "(JJJ)J"⟩ : MethodName) method_3_code 6 (some .long) rm_c6 n0 #[(.long y0), (.long y1), (.long y2)] h0 (Q_c6 Z n0 h0 y0 y1 y2) := by
  refine met_of (plainFor_of_name pn_2) (Ls := #[.val (.long y0), .second, .val (.long y1), .second, .val (.long y2), .second]) (fun m => by first | (simp [entryFrame, mkF, argsToLocals, Value.category]; done) | rfl) hn ?_
  intro p e s m below meth c T K W
  replace K : Cx p s m meth c Z "com/example/cast_to_area/casttoarea/RectangleContainsPinLaw" "clamp" method_3_code 6 (some .long) := K
  generalize eA : (#[(.long y0), (.long y1), (.long y2)] : Array Value) = args at W
  show Go p e below s n0 (Q_c6 Z n0 h0 y0 y1 y2) 0 0 T (mkF m 0 #[.val (.long y0), .second, .val (.long y1), .second, .val (.long y2), .second] [])
  refine g_lloadN K W d6_0 rfl (pc' := 1) rfl ?_
  refine g_lloadN K W d6_1 rfl (pc' := 2) rfl ?_
  refine g_lload K W d6_2 rfl (pc' := 4) rfl ?_
  refine g_callS (c1 l Z a0 hw n0 _ W.sz y0 y2) K W (hw _ (List.mem_of_getElem? (i := 0) rfl)) (hw _ (List.mem_of_getElem? (i := 1) rfl)) (hw _ (List.mem_of_getElem? (i := 2) rfl)) (hw _ (List.mem_of_getElem? (i := 3) rfl)) (by decide) (lenOf pd_1 rfl) d6_4 (pc' := 7) rfl (argsL := [(.long y0), (.long y2)]) (rest := [(.long y1)]) rfl rfl (by decide) (wt := 2) rfl (by decide) (by decide) (by decide) ?_
  rintro T _ _ W ⟨rfl, rfl⟩
  show Go p e below s n0 (Q_c6 Z n0 h0 y0 y1 y2) 0 0 T (mkF m 7 #[.val (.long y0), .second, .val (.long y1), .second, .val (.long y2), .second] [(.long (own_min y0 y2)), (.long y1)])
  refine g_callS (c2 l Z a0 hw n0 _ W.sz y1 (own_min y0 y2)) K W (hw _ (List.mem_of_getElem? (i := 4) rfl)) (hw _ (List.mem_of_getElem? (i := 5) rfl)) (hw _ (List.mem_of_getElem? (i := 2) rfl)) (hw _ (List.mem_of_getElem? (i := 6) rfl)) (by decide) (lenOf pd_1 rfl) d6_7 (pc' := 10) rfl (argsL := [(.long y1), (.long (own_min y0 y2))]) (rest := []) rfl rfl (by decide) (wt := 0) rfl (by decide) (by decide) (by decide) ?_
  rintro T _ _ W ⟨rfl, rfl⟩
  show Go p e below s n0 (Q_c6 Z n0 h0 y0 y1 y2) 0 0 T (mkF m 10 #[.val (.long y0), .second, .val (.long y1), .second, .val (.long y2), .second] [(.long (own_max y1 (own_min y0 y2)))])
  exact g_retL K W d6_10 (by decide) (by decide) ⟨rfl, rfl⟩
def Q_c7 (Z : State) (n0 : Nat) (h0 : Heap) (o0 : Addr) (px : Int64) (py : Int64) (minX : Int64) (minY : Int64) (maxX : Int64) (maxY : Int64) : Option Value → Heap → Prop := fun v h => v = some (.int (own_ins minX minY maxX maxY px py)) ∧ h0 = h
abbrev rm_c7 : Room := { frames := 0, cells := 0, slots := 0, locals := 0 }
set_option maxHeartbeats 40000000 in
theorem c7 (l : Launch) (Z : State) (a0 : Array Value) (hw : ∀ d ∈ tables_1, d.before a0 Z = true) (n0 : Nat) (h0 : Heap) (hn : n0 ≤ h0.size) (o0 : Addr) (px : Int64) (py : Int64) (minX : Int64) (minY : Int64) (maxX : Int64) (maxY : Int64) (F_o0_minX : Fld Z h0 o0 "com/example/cast_to_area/casttoarea/Rectangle" "minX" "J" (.long minX)) (F_o0_minY : Fld Z h0 o0 "com/example/cast_to_area/casttoarea/Rectangle" "minY" "J" (.long minY)) (F_o0_maxX : Fld Z h0 o0 "com/example/cast_to_area/casttoarea/Rectangle" "maxX" "J" (.long maxX)) (F_o0_maxY : Fld Z h0 o0 "com/example/cast_to_area/casttoarea/Rectangle" "maxY" "J" (.long maxY)) :
    Mt l Z (⟨"com/example/cast_to_area/casttoarea/Rectangle", "contains", "(JJ)Z"⟩ : MethodName) prog_15_method_3_code 5 (some .boolean) rm_c7 n0 #[(.ref o0), (.long px), (.long py)] h0 (Q_c7 Z n0 h0 o0 px py minX minY maxX maxY) := by
  refine met_of (plainFor_of_name pn_1) (Ls := #[.val (.ref o0), .val (.long px), .second, .val (.long py), .second]) (fun m => by first | (simp [entryFrame, mkF, argsToLocals, Value.category]; done) | rfl) hn ?_
  intro p e s m below meth c T K W
  replace K : Cx p s m meth c Z "com/example/cast_to_area/casttoarea/Rectangle" "contains" prog_15_method_3_code 5 (some .boolean) := K
  generalize eA : (#[(.ref o0), (.long px), (.long py)] : Array Value) = args at W
  show Go p e below s n0 (Q_c7 Z n0 h0 o0 px py minX minY maxX maxY) 0 0 T (mkF m 0 #[.val (.ref o0), .val (.long px), .second, .val (.long py), .second] [])
  refine g_aloadN K W d7_0 rfl rfl (pc' := 1) rfl ?_
  refine g_getF K W (host := "") (Or.inl (hw _ (List.mem_of_getElem? (i := 21) rfl))) Via.refl F_o0_minX d7_1 (pc' := 4) rfl (fun T W => ?_)
  refine g_lloadN K W d7_4 rfl (pc' := 5) rfl ?_
  refine g_lcmp_gt K W d7_5 (pc1 := 6) rfl d7_6 (pt := 40) rfl (pf := 9) rfl (fun hc5 => ?_) (fun hc5 => ?_)
  · refine g_iconst K W (v := (0 : Int32)) d7_40 rfl (pc' := 41) rfl ?_
    exact g_retN K W (by simp) d7_41 (by decide) (by decide) (v := (0 : Int32)) rfl ⟨by simp [own_ins, *], rfl⟩
  · refine g_lloadN K W d7_9 rfl (pc' := 10) rfl ?_
    refine g_aloadN K W d7_10 rfl rfl (pc' := 11) rfl ?_
    refine g_getF K W (host := "") (Or.inl (hw _ (List.mem_of_getElem? (i := 25) rfl))) Via.refl F_o0_maxX d7_11 (pc' := 14) rfl (fun T W => ?_)
    refine g_lcmp_gt K W d7_14 (pc1 := 15) rfl d7_15 (pt := 40) rfl (pf := 18) rfl (fun hc14 => ?_) (fun hc14 => ?_)
    · refine g_iconst K W (v := (0 : Int32)) d7_40 rfl (pc' := 41) rfl ?_
      exact g_retN K W (by simp) d7_41 (by decide) (by decide) (v := (0 : Int32)) rfl ⟨by simp [own_ins, *], rfl⟩
    · refine g_aloadN K W d7_18 rfl rfl (pc' := 19) rfl ?_
      refine g_getF K W (host := "") (Or.inl (hw _ (List.mem_of_getElem? (i := 23) rfl))) Via.refl F_o0_minY d7_19 (pc' := 22) rfl (fun T W => ?_)
      refine g_lloadN K W d7_22 rfl (pc' := 23) rfl ?_
      refine g_lcmp_gt K W d7_23 (pc1 := 24) rfl d7_24 (pt := 40) rfl (pf := 27) rfl (fun hc23 => ?_) (fun hc23 => ?_)
      · refine g_iconst K W (v := (0 : Int32)) d7_40 rfl (pc' := 41) rfl ?_
        exact g_retN K W (by simp) d7_41 (by decide) (by decide) (v := (0 : Int32)) rfl ⟨by simp [own_ins, *], rfl⟩
      · refine g_lloadN K W d7_27 rfl (pc' := 28) rfl ?_
        refine g_aloadN K W d7_28 rfl rfl (pc' := 29) rfl ?_
        refine g_getF K W (host := "") (Or.inl (hw _ (List.mem_of_getElem? (i := 27) rfl))) Via.refl F_o0_maxY d7_29 (pc' := 32) rfl (fun T W => ?_)
        refine g_lcmp_gt K W d7_32 (pc1 := 33) rfl d7_33 (pt := 40) rfl (pf := 36) rfl (fun hc32 => ?_) (fun hc32 => ?_)
        · refine g_iconst K W (v := (0 : Int32)) d7_40 rfl (pc' := 41) rfl ?_
          exact g_retN K W (by simp) d7_41 (by decide) (by decide) (v := (0 : Int32)) rfl ⟨by simp [own_ins, *], rfl⟩
        · refine g_iconst K W (v := (1 : Int32)) d7_36 rfl (pc' := 37) rfl ?_
          refine g_goto K W d7_37 (pt := 41) rfl ?_
          exact g_retN K W (by simp) d7_41 (by decide) (by decide) (v := (1 : Int32)) rfl ⟨by simp [own_ins, *], rfl⟩
def Q_c0 (Z : State) (n0 : Nat) (h0 : Heap) (y0 : Int64) (y1 : Int64) (y2 : Int64) (y3 : Int64) (px : Int64) (py : Int64) : Option Value → Heap → Prop := fun v h => v = some (.int 1)
set_option maxHeartbeats 40000000 in
theorem c0 (l : Launch) (Z : State) (a0 : Array Value) (hw : ∀ d ∈ tables_1, d.before a0 Z = true) (n0 : Nat) (h0 : Heap) (hn : n0 ≤ h0.size) (y0 : Int64) (y1 : Int64) (y2 : Int64) (y3 : Int64) (px : Int64) (py : Int64) :
    Mt l Z x code maxLocals ret room_1 n0 #[(.long y0), (.long y1), (.long y2), (.long y3), (.long px), (.long py)] h0 (Q_c0 Z n0 h0 y0 y1 y2 y3 px py) := by
  refine met_of (plainFor_of_name pn_2) (Ls := #[.val (.long y0), .second, .val (.long y1), .second, .val (.long y2), .second, .val (.long y3), .second, .val (.long px), .second, .val (.long py), .second, .unset, .unset, .unset, .unset, .unset, .unset, .unset, .unset, .unset, .unset]) (fun m => by first | (simp [entryFrame, mkF, argsToLocals, Value.category, maxLocals]; done) | rfl) hn ?_
  intro p e s m below meth c T K W
  replace K : Cx p s m meth c Z "com/example/cast_to_area/casttoarea/RectangleContainsPinLaw" "law" code 22 (some .boolean) := K
  generalize eA : (#[(.long y0), (.long y1), (.long y2), (.long y3), (.long px), (.long py)] : Array Value) = args at W
  show Go p e below s n0 (Q_c0 Z n0 h0 y0 y1 y2 y3 px py) 16 128 T (mkF m 0 #[.val (.long y0), .second, .val (.long y1), .second, .val (.long y2), .second, .val (.long y3), .second, .val (.long px), .second, .val (.long py), .second, .unset, .unset, .unset, .unset, .unset, .unset, .unset, .unset, .unset, .unset] [])
  refine g_lloadN K W at_0 rfl (pc' := 1) rfl ?_
  refine g_lloadN K W at_1 rfl (pc' := 2) rfl ?_
  refine g_callS (c1 l Z a0 hw n0 _ W.sz y0 y1) K W (hw _ (List.mem_of_getElem? (i := 0) rfl)) (hw _ (List.mem_of_getElem? (i := 1) rfl)) (hw _ (List.mem_of_getElem? (i := 2) rfl)) (hw _ (List.mem_of_getElem? (i := 3) rfl)) (by decide) (lenOf pd_1 rfl) at_2 (pc' := 5) rfl (argsL := [(.long y0), (.long y1)]) (rest := []) rfl rfl (by decide) (wt := 0) rfl (by decide) (by decide) (by decide) ?_
  rintro T _ _ W ⟨rfl, rfl⟩
  show Go p e below s n0 (Q_c0 Z n0 h0 y0 y1 y2 y3 px py) 16 128 T (mkF m 5 #[.val (.long y0), .second, .val (.long y1), .second, .val (.long y2), .second, .val (.long y3), .second, .val (.long px), .second, .val (.long py), .second, .unset, .unset, .unset, .unset, .unset, .unset, .unset, .unset, .unset, .unset] [(.long (own_min y0 y1))])
  generalize e_v5 : (own_min y0 y1) = v5
  refine g_lstore K W at_5 (Ls' := #[.val (.long y0), .second, .val (.long y1), .second, .val (.long y2), .second, .val (.long y3), .second, .val (.long px), .second, .val (.long py), .second, .val (.long v5), .second, .unset, .unset, .unset, .unset, .unset, .unset, .unset, .unset]) rfl (pc' := 7) rfl ?_
  refine g_lloadN K W at_7 rfl (pc' := 8) rfl ?_
  refine g_lloadN K W at_8 rfl (pc' := 9) rfl ?_
  refine g_callS (c2 l Z a0 hw n0 _ W.sz y0 y1) K W (hw _ (List.mem_of_getElem? (i := 4) rfl)) (hw _ (List.mem_of_getElem? (i := 5) rfl)) (hw _ (List.mem_of_getElem? (i := 2) rfl)) (hw _ (List.mem_of_getElem? (i := 6) rfl)) (by decide) (lenOf pd_1 rfl) at_9 (pc' := 12) rfl (argsL := [(.long y0), (.long y1)]) (rest := []) rfl rfl (by decide) (wt := 0) rfl (by decide) (by decide) (by decide) ?_
  rintro T _ _ W ⟨rfl, rfl⟩
  show Go p e below s n0 (Q_c0 Z n0 h0 y0 y1 y2 y3 px py) 16 128 T (mkF m 12 #[.val (.long y0), .second, .val (.long y1), .second, .val (.long y2), .second, .val (.long y3), .second, .val (.long px), .second, .val (.long py), .second, .val (.long v5), .second, .unset, .unset, .unset, .unset, .unset, .unset, .unset, .unset] [(.long (own_max y0 y1))])
  generalize e_v12 : (own_max y0 y1) = v12
  refine g_lstore K W at_12 (Ls' := #[.val (.long y0), .second, .val (.long y1), .second, .val (.long y2), .second, .val (.long y3), .second, .val (.long px), .second, .val (.long py), .second, .val (.long v5), .second, .val (.long v12), .second, .unset, .unset, .unset, .unset, .unset, .unset]) rfl (pc' := 14) rfl ?_
  refine g_lload K W at_14 rfl (pc' := 16) rfl ?_
  refine g_lload K W at_16 rfl (pc' := 18) rfl ?_
  refine g_callS (c1 l Z a0 hw n0 _ W.sz y2 y3) K W (hw _ (List.mem_of_getElem? (i := 0) rfl)) (hw _ (List.mem_of_getElem? (i := 1) rfl)) (hw _ (List.mem_of_getElem? (i := 2) rfl)) (hw _ (List.mem_of_getElem? (i := 3) rfl)) (by decide) (lenOf pd_1 rfl) at_18 (pc' := 21) rfl (argsL := [(.long y2), (.long y3)]) (rest := []) rfl rfl (by decide) (wt := 0) rfl (by decide) (by decide) (by decide) ?_
  rintro T _ _ W ⟨rfl, rfl⟩
  show Go p e below s n0 (Q_c0 Z n0 h0 y0 y1 y2 y3 px py) 16 128 T (mkF m 21 #[.val (.long y0), .second, .val (.long y1), .second, .val (.long y2), .second, .val (.long y3), .second, .val (.long px), .second, .val (.long py), .second, .val (.long v5), .second, .val (.long v12), .second, .unset, .unset, .unset, .unset, .unset, .unset] [(.long (own_min y2 y3))])
  generalize e_v21 : (own_min y2 y3) = v21
  refine g_lstore K W at_21 (Ls' := #[.val (.long y0), .second, .val (.long y1), .second, .val (.long y2), .second, .val (.long y3), .second, .val (.long px), .second, .val (.long py), .second, .val (.long v5), .second, .val (.long v12), .second, .val (.long v21), .second, .unset, .unset, .unset, .unset]) rfl (pc' := 23) rfl ?_
  refine g_lload K W at_23 rfl (pc' := 25) rfl ?_
  refine g_lload K W at_25 rfl (pc' := 27) rfl ?_
  refine g_callS (c2 l Z a0 hw n0 _ W.sz y2 y3) K W (hw _ (List.mem_of_getElem? (i := 4) rfl)) (hw _ (List.mem_of_getElem? (i := 5) rfl)) (hw _ (List.mem_of_getElem? (i := 2) rfl)) (hw _ (List.mem_of_getElem? (i := 6) rfl)) (by decide) (lenOf pd_1 rfl) at_27 (pc' := 30) rfl (argsL := [(.long y2), (.long y3)]) (rest := []) rfl rfl (by decide) (wt := 0) rfl (by decide) (by decide) (by decide) ?_
  rintro T _ _ W ⟨rfl, rfl⟩
  show Go p e below s n0 (Q_c0 Z n0 h0 y0 y1 y2 y3 px py) 16 128 T (mkF m 30 #[.val (.long y0), .second, .val (.long y1), .second, .val (.long y2), .second, .val (.long y3), .second, .val (.long px), .second, .val (.long py), .second, .val (.long v5), .second, .val (.long v12), .second, .val (.long v21), .second, .unset, .unset, .unset, .unset] [(.long (own_max y2 y3))])
  generalize e_v30 : (own_max y2 y3) = v30
  refine g_lstore K W at_30 (Ls' := #[.val (.long y0), .second, .val (.long y1), .second, .val (.long y2), .second, .val (.long y3), .second, .val (.long px), .second, .val (.long py), .second, .val (.long v5), .second, .val (.long v12), .second, .val (.long v21), .second, .val (.long v30), .second, .unset, .unset]) rfl (pc' := 32) rfl ?_
  have q1 : ¬ v12 < v5 := by rw [← e_v12, ← e_v5]; exact own_mm _ _
  have q2 : ¬ v30 < v21 := by rw [← e_v30, ← e_v21]; exact own_mm _ _
  refine g_new K W (hw _ (List.mem_of_getElem? (i := 7) rfl)) (hw _ (List.mem_of_getElem? (i := 8) rfl)) (hw _ (List.mem_of_getElem? (i := 9) rfl)) at_32 (pc' := 35) rfl (by decide) (by decide) (fun T h a32 W E ha_a32 ge_a32 X_a32 Dn => ?_)
  have F_a32_minX : Fld Z h a32 "com/example/cast_to_area/casttoarea/Rectangle" "minX" "J" (.long (0 : Int64)) := Dn (Or.inr (hw _ (List.mem_of_getElem? (i := 22) rfl))) (ty := .long) (by decide)
  have F_a32_minY : Fld Z h a32 "com/example/cast_to_area/casttoarea/Rectangle" "minY" "J" (.long (0 : Int64)) := Dn (Or.inr (hw _ (List.mem_of_getElem? (i := 24) rfl))) (ty := .long) (by decide)
  have F_a32_maxX : Fld Z h a32 "com/example/cast_to_area/casttoarea/Rectangle" "maxX" "J" (.long (0 : Int64)) := Dn (Or.inr (hw _ (List.mem_of_getElem? (i := 26) rfl))) (ty := .long) (by decide)
  have F_a32_maxY : Fld Z h a32 "com/example/cast_to_area/casttoarea/Rectangle" "maxY" "J" (.long (0 : Int64)) := Dn (Or.inr (hw _ (List.mem_of_getElem? (i := 28) rfl))) (ty := .long) (by decide)
  refine g_dup K W at_35 rfl (pc' := 36) rfl ?_
  refine g_lload K W at_36 rfl (pc' := 38) rfl ?_
  refine g_lload K W at_38 rfl (pc' := 40) rfl ?_
  refine g_lload K W at_40 rfl (pc' := 42) rfl ?_
  refine g_lload K W at_42 rfl (pc' := 44) rfl ?_
  refine g_callN (c3 l Z a0 hw n0 _ W.sz a32 v5 v21 v12 v30 X_a32 F_a32_minX F_a32_minY F_a32_maxX F_a32_maxY ge_a32 q1 q2) K W rfl (hw _ (List.mem_of_getElem? (i := 10) rfl)) (hw _ (List.mem_of_getElem? (i := 11) rfl)) (hw _ (List.mem_of_getElem? (i := 9) rfl)) (hw _ (List.mem_of_getElem? (i := 12) rfl)) (by decide) (lenOf pd_2 rfl) at_44 (pc' := 47) rfl (argsL := [(.long v5), (.long v21), (.long v12), (.long v30)]) (rest := [(.ref a32)]) rfl rfl (by decide) (wt := 1) rfl (by decide) (by decide) (by decide) ?_
  rintro T h _ W ⟨rfl, kq, F_a32_minX, F_a32_minY, F_a32_maxX, F_a32_maxY⟩
  show Go p e below s n0 (Q_c0 Z n0 h0 y0 y1 y2 y3 px py) 16 128 T (mkF m 47 #[.val (.long y0), .second, .val (.long y1), .second, .val (.long y2), .second, .val (.long y3), .second, .val (.long px), .second, .val (.long py), .second, .val (.long v5), .second, .val (.long v12), .second, .val (.long v21), .second, .val (.long v30), .second, .unset, .unset] [(.ref a32)])
  have X_a32 := X_a32.keep kq
  refine g_astore K W at_47 rfl (Ls' := #[.val (.long y0), .second, .val (.long y1), .second, .val (.long y2), .second, .val (.long y3), .second, .val (.long px), .second, .val (.long py), .second, .val (.long v5), .second, .val (.long v12), .second, .val (.long v21), .second, .val (.long v30), .second, .val (.ref a32), .unset]) rfl (pc' := 49) rfl ?_
  have hJ102 : ∀ (ex : Int32) (T : State), Wd p l e room_1 s m args below meth c n0 T h 1 4 → Go p e below s n0 (Q_c0 Z n0 h0 y0 y1 y2 y3 px py) 16 128 T (mkF m 102 #[.val (.long y0), .second, .val (.long y1), .second, .val (.long y2), .second, .val (.long y3), .second, .val (.long px), .second, .val (.long py), .second, .val (.long v5), .second, .val (.long v12), .second, .val (.long v21), .second, .val (.long v30), .second, .val (.ref a32), .val (.int ex)] []) := by
    intro ex T W
    refine g_aload K W at_102 rfl rfl (pc' := 104) rfl ?_
    refine g_lload K W at_104 rfl (pc' := 106) rfl ?_
    refine g_lload K W at_106 rfl (pc' := 108) rfl ?_
    refine g_callV (c7 l Z a0 hw n0 _ W.sz a32 v5 v21 v5 v21 v12 v30 F_a32_minX F_a32_minY F_a32_maxX F_a32_maxY) K W X_a32 (hw _ (List.mem_of_getElem? (i := 33) rfl)) (hw _ (List.mem_of_getElem? (i := 34) rfl)) (hw _ (List.mem_of_getElem? (i := 36) rfl)) (hw _ (List.mem_of_getElem? (i := 36) rfl)) (hw _ (List.mem_of_getElem? (i := 35) rfl)) (hw _ (List.mem_of_getElem? (i := 9) rfl)) (hw _ (List.mem_of_getElem? (i := 37) rfl)) (by decide) (lenOf pd_3 rfl) at_108 (pc' := 111) rfl (argsL := [(.long v5), (.long v21)]) (rest := []) rfl rfl (by decide) (wt := 0) rfl (by decide) (by decide) (by decide) ?_
    rintro T _ _ W ⟨rfl, rfl⟩
    show Go p e below s n0 (Q_c0 Z n0 h0 y0 y1 y2 y3 px py) 16 128 T (mkF m 111 #[.val (.long y0), .second, .val (.long y1), .second, .val (.long y2), .second, .val (.long y3), .second, .val (.long px), .second, .val (.long py), .second, .val (.long v5), .second, .val (.long v12), .second, .val (.long v21), .second, .val (.long v30), .second, .val (.ref a32), .val (.int ex)] [(.int (own_ins v5 v21 v12 v30 v5 v21))])
    refine g_if_eq K W at_111 (pt := 150) rfl (pf := 114) rfl (fun hc111 => absurd hc111 (by simp [own_ins, q1, q2, Int64.lt_irrefl])) (fun hc111 => ?_)
    refine g_aload K W at_114 rfl rfl (pc' := 116) rfl ?_
    refine g_lload K W at_116 rfl (pc' := 118) rfl ?_
    refine g_lload K W at_118 rfl (pc' := 120) rfl ?_
    refine g_callV (c7 l Z a0 hw n0 _ W.sz a32 v5 v30 v5 v21 v12 v30 F_a32_minX F_a32_minY F_a32_maxX F_a32_maxY) K W X_a32 (hw _ (List.mem_of_getElem? (i := 33) rfl)) (hw _ (List.mem_of_getElem? (i := 34) rfl)) (hw _ (List.mem_of_getElem? (i := 36) rfl)) (hw _ (List.mem_of_getElem? (i := 36) rfl)) (hw _ (List.mem_of_getElem? (i := 35) rfl)) (hw _ (List.mem_of_getElem? (i := 9) rfl)) (hw _ (List.mem_of_getElem? (i := 37) rfl)) (by decide) (lenOf pd_3 rfl) at_120 (pc' := 123) rfl (argsL := [(.long v5), (.long v30)]) (rest := []) rfl rfl (by decide) (wt := 0) rfl (by decide) (by decide) (by decide) ?_
    rintro T _ _ W ⟨rfl, rfl⟩
    show Go p e below s n0 (Q_c0 Z n0 h0 y0 y1 y2 y3 px py) 16 128 T (mkF m 123 #[.val (.long y0), .second, .val (.long y1), .second, .val (.long y2), .second, .val (.long y3), .second, .val (.long px), .second, .val (.long py), .second, .val (.long v5), .second, .val (.long v12), .second, .val (.long v21), .second, .val (.long v30), .second, .val (.ref a32), .val (.int ex)] [(.int (own_ins v5 v21 v12 v30 v5 v30))])
    refine g_if_eq K W at_123 (pt := 150) rfl (pf := 126) rfl (fun hc123 => absurd hc123 (by simp [own_ins, q1, q2, Int64.lt_irrefl])) (fun hc123 => ?_)
    refine g_aload K W at_126 rfl rfl (pc' := 128) rfl ?_
    refine g_lload K W at_128 rfl (pc' := 130) rfl ?_
    refine g_lload K W at_130 rfl (pc' := 132) rfl ?_
    refine g_callV (c7 l Z a0 hw n0 _ W.sz a32 v12 v21 v5 v21 v12 v30 F_a32_minX F_a32_minY F_a32_maxX F_a32_maxY) K W X_a32 (hw _ (List.mem_of_getElem? (i := 33) rfl)) (hw _ (List.mem_of_getElem? (i := 34) rfl)) (hw _ (List.mem_of_getElem? (i := 36) rfl)) (hw _ (List.mem_of_getElem? (i := 36) rfl)) (hw _ (List.mem_of_getElem? (i := 35) rfl)) (hw _ (List.mem_of_getElem? (i := 9) rfl)) (hw _ (List.mem_of_getElem? (i := 37) rfl)) (by decide) (lenOf pd_3 rfl) at_132 (pc' := 135) rfl (argsL := [(.long v12), (.long v21)]) (rest := []) rfl rfl (by decide) (wt := 0) rfl (by decide) (by decide) (by decide) ?_
    rintro T _ _ W ⟨rfl, rfl⟩
    show Go p e below s n0 (Q_c0 Z n0 h0 y0 y1 y2 y3 px py) 16 128 T (mkF m 135 #[.val (.long y0), .second, .val (.long y1), .second, .val (.long y2), .second, .val (.long y3), .second, .val (.long px), .second, .val (.long py), .second, .val (.long v5), .second, .val (.long v12), .second, .val (.long v21), .second, .val (.long v30), .second, .val (.ref a32), .val (.int ex)] [(.int (own_ins v5 v21 v12 v30 v12 v21))])
    refine g_if_eq K W at_135 (pt := 150) rfl (pf := 138) rfl (fun hc135 => absurd hc135 (by simp [own_ins, q1, q2, Int64.lt_irrefl])) (fun hc135 => ?_)
    refine g_aload K W at_138 rfl rfl (pc' := 140) rfl ?_
    refine g_lload K W at_140 rfl (pc' := 142) rfl ?_
    refine g_lload K W at_142 rfl (pc' := 144) rfl ?_
    refine g_callV (c7 l Z a0 hw n0 _ W.sz a32 v12 v30 v5 v21 v12 v30 F_a32_minX F_a32_minY F_a32_maxX F_a32_maxY) K W X_a32 (hw _ (List.mem_of_getElem? (i := 33) rfl)) (hw _ (List.mem_of_getElem? (i := 34) rfl)) (hw _ (List.mem_of_getElem? (i := 36) rfl)) (hw _ (List.mem_of_getElem? (i := 36) rfl)) (hw _ (List.mem_of_getElem? (i := 35) rfl)) (hw _ (List.mem_of_getElem? (i := 9) rfl)) (hw _ (List.mem_of_getElem? (i := 37) rfl)) (by decide) (lenOf pd_3 rfl) at_144 (pc' := 147) rfl (argsL := [(.long v12), (.long v30)]) (rest := []) rfl rfl (by decide) (wt := 0) rfl (by decide) (by decide) (by decide) ?_
    rintro T _ _ W ⟨rfl, rfl⟩
    show Go p e below s n0 (Q_c0 Z n0 h0 y0 y1 y2 y3 px py) 16 128 T (mkF m 147 #[.val (.long y0), .second, .val (.long y1), .second, .val (.long y2), .second, .val (.long y3), .second, .val (.long px), .second, .val (.long py), .second, .val (.long v5), .second, .val (.long v12), .second, .val (.long v21), .second, .val (.long v30), .second, .val (.ref a32), .val (.int ex)] [(.int (own_ins v5 v21 v12 v30 v12 v30))])
    refine g_if_ne K W at_147 (pt := 152) rfl (pf := 150) rfl (fun hc147 => absurd hc147 (by simp [own_ins, q1, q2, Int64.lt_irrefl])) (fun hc147 => ?_)
    have hJ177 : ∀ (T : State), Wd p l e room_1 s m args below meth c n0 T h 1 4 → Go p e below s n0 (Q_c0 Z n0 h0 y0 y1 y2 y3 px py) 16 128 T (mkF m 177 #[.val (.long y0), .second, .val (.long y1), .second, .val (.long y2), .second, .val (.long y3), .second, .val (.long px), .second, .val (.long py), .second, .val (.long v5), .second, .val (.long v12), .second, .val (.long v21), .second, .val (.long v30), .second, .val (.ref a32), .val (.int ex)] []) := by
      intro T  W
      have hJ202 : ∀ (T : State), Wd p l e room_1 s m args below meth c n0 T h 1 4 → Go p e below s n0 (Q_c0 Z n0 h0 y0 y1 y2 y3 px py) 16 128 T (mkF m 202 #[.val (.long y0), .second, .val (.long y1), .second, .val (.long y2), .second, .val (.long y3), .second, .val (.long px), .second, .val (.long py), .second, .val (.long v5), .second, .val (.long v12), .second, .val (.long v21), .second, .val (.long v30), .second, .val (.ref a32), .val (.int ex)] []) := by
        intro T  W
        have hJ227 : ∀ (T : State), Wd p l e room_1 s m args below meth c n0 T h 1 4 → Go p e below s n0 (Q_c0 Z n0 h0 y0 y1 y2 y3 px py) 16 128 T (mkF m 227 #[.val (.long y0), .second, .val (.long y1), .second, .val (.long y2), .second, .val (.long y3), .second, .val (.long px), .second, .val (.long py), .second, .val (.long v5), .second, .val (.long v12), .second, .val (.long v21), .second, .val (.long v30), .second, .val (.ref a32), .val (.int ex)] []) := by
          intro T  W
          have hJ252 : ∀ (T : State), Wd p l e room_1 s m args below meth c n0 T h 1 4 → Go p e below s n0 (Q_c0 Z n0 h0 y0 y1 y2 y3 px py) 16 128 T (mkF m 252 #[.val (.long y0), .second, .val (.long y1), .second, .val (.long y2), .second, .val (.long y3), .second, .val (.long px), .second, .val (.long py), .second, .val (.long v5), .second, .val (.long v12), .second, .val (.long v21), .second, .val (.long v30), .second, .val (.ref a32), .val (.int ex)] []) := by
            intro T  W
            refine g_iconst K W (v := (1 : Int32)) at_252 rfl (pc' := 253) rfl ?_
            exact g_retN K W (by simp) at_253 (by decide) (by decide) (v := (1 : Int32)) rfl rfl
          refine g_lload K W at_227 rfl (pc' := 229) rfl ?_
          refine g_ldc2 K W (v := (9223372036854775807 : Int64)) (hw _ (List.mem_of_getElem? (i := 39) rfl)) at_229 (pc' := 232) rfl ?_
          refine g_lcmp_eq K W at_232 (pc1 := 233) rfl at_233 (pt := 252) rfl (pf := 236) rfl (fun hc232 => ?_) (fun hc232 => ?_)
          · exact hJ252  _ (W.mono (by decide) (by decide))
          · refine g_aload K W at_236 rfl rfl (pc' := 238) rfl ?_
            refine g_lload K W at_238 rfl (pc' := 240) rfl ?_
            refine g_lload K W at_240 rfl (pc' := 242) rfl ?_
            refine g_lconst K W (v := (1 : Int64)) at_242 rfl (pc' := 243) rfl ?_
            refine g_ladd K W at_243 (pc' := 244) rfl ?_
            refine g_callV (c7 l Z a0 hw n0 _ W.sz a32 v5 (v30 + (1 : Int64)) v5 v21 v12 v30 F_a32_minX F_a32_minY F_a32_maxX F_a32_maxY) K W X_a32 (hw _ (List.mem_of_getElem? (i := 33) rfl)) (hw _ (List.mem_of_getElem? (i := 34) rfl)) (hw _ (List.mem_of_getElem? (i := 36) rfl)) (hw _ (List.mem_of_getElem? (i := 36) rfl)) (hw _ (List.mem_of_getElem? (i := 35) rfl)) (hw _ (List.mem_of_getElem? (i := 9) rfl)) (hw _ (List.mem_of_getElem? (i := 37) rfl)) (by decide) (lenOf pd_3 rfl) at_244 (pc' := 247) rfl (argsL := [(.long v5), (.long (v30 + (1 : Int64)))]) (rest := []) rfl rfl (by decide) (wt := 0) rfl (by decide) (by decide) (by decide) ?_
            rintro T _ _ W ⟨rfl, rfl⟩
            show Go p e below s n0 (Q_c0 Z n0 h0 y0 y1 y2 y3 px py) 16 128 T (mkF m 247 #[.val (.long y0), .second, .val (.long y1), .second, .val (.long y2), .second, .val (.long y3), .second, .val (.long px), .second, .val (.long py), .second, .val (.long v5), .second, .val (.long v12), .second, .val (.long v21), .second, .val (.long v30), .second, .val (.ref a32), .val (.int ex)] [(.int (own_ins v5 v21 v12 v30 v5 (v30 + (1 : Int64))))])
            refine g_if_eq K W at_247 (pt := 252) rfl (pf := 250) rfl (fun hc247 => ?_) (fun hc247 => absurd (by simp [own_ins, own_up hc232]) hc247)
            exact hJ252  _ (W.mono (by decide) (by decide))
        refine g_lload K W at_202 rfl (pc' := 204) rfl ?_
        refine g_ldc2 K W (v := (-9223372036854775808 : Int64)) (hw _ (List.mem_of_getElem? (i := 38) rfl)) at_204 (pc' := 207) rfl ?_
        refine g_lcmp_eq K W at_207 (pc1 := 208) rfl at_208 (pt := 227) rfl (pf := 211) rfl (fun hc207 => ?_) (fun hc207 => ?_)
        · exact hJ227  _ (W.mono (by decide) (by decide))
        · refine g_aload K W at_211 rfl rfl (pc' := 213) rfl ?_
          refine g_lload K W at_213 rfl (pc' := 215) rfl ?_
          refine g_lload K W at_215 rfl (pc' := 217) rfl ?_
          refine g_lconst K W (v := (1 : Int64)) at_217 rfl (pc' := 218) rfl ?_
          refine g_lsub K W at_218 (pc' := 219) rfl ?_
          refine g_callV (c7 l Z a0 hw n0 _ W.sz a32 v12 (v21 - (1 : Int64)) v5 v21 v12 v30 F_a32_minX F_a32_minY F_a32_maxX F_a32_maxY) K W X_a32 (hw _ (List.mem_of_getElem? (i := 33) rfl)) (hw _ (List.mem_of_getElem? (i := 34) rfl)) (hw _ (List.mem_of_getElem? (i := 36) rfl)) (hw _ (List.mem_of_getElem? (i := 36) rfl)) (hw _ (List.mem_of_getElem? (i := 35) rfl)) (hw _ (List.mem_of_getElem? (i := 9) rfl)) (hw _ (List.mem_of_getElem? (i := 37) rfl)) (by decide) (lenOf pd_3 rfl) at_219 (pc' := 222) rfl (argsL := [(.long v12), (.long (v21 - (1 : Int64)))]) (rest := []) rfl rfl (by decide) (wt := 0) rfl (by decide) (by decide) (by decide) ?_
          rintro T _ _ W ⟨rfl, rfl⟩
          show Go p e below s n0 (Q_c0 Z n0 h0 y0 y1 y2 y3 px py) 16 128 T (mkF m 222 #[.val (.long y0), .second, .val (.long y1), .second, .val (.long y2), .second, .val (.long y3), .second, .val (.long px), .second, .val (.long py), .second, .val (.long v5), .second, .val (.long v12), .second, .val (.long v21), .second, .val (.long v30), .second, .val (.ref a32), .val (.int ex)] [(.int (own_ins v5 v21 v12 v30 v12 (v21 - (1 : Int64))))])
          refine g_if_eq K W at_222 (pt := 227) rfl (pf := 225) rfl (fun hc222 => ?_) (fun hc222 => absurd (by simp [own_ins, own_dn hc207]) hc222)
          exact hJ227  _ (W.mono (by decide) (by decide))
      refine g_lload K W at_177 rfl (pc' := 179) rfl ?_
      refine g_ldc2 K W (v := (9223372036854775807 : Int64)) (hw _ (List.mem_of_getElem? (i := 39) rfl)) at_179 (pc' := 182) rfl ?_
      refine g_lcmp_eq K W at_182 (pc1 := 183) rfl at_183 (pt := 202) rfl (pf := 186) rfl (fun hc182 => ?_) (fun hc182 => ?_)
      · exact hJ202  _ (W.mono (by decide) (by decide))
      · refine g_aload K W at_186 rfl rfl (pc' := 188) rfl ?_
        refine g_lload K W at_188 rfl (pc' := 190) rfl ?_
        refine g_lconst K W (v := (1 : Int64)) at_190 rfl (pc' := 191) rfl ?_
        refine g_ladd K W at_191 (pc' := 192) rfl ?_
        refine g_lload K W at_192 rfl (pc' := 194) rfl ?_
        refine g_callV (c7 l Z a0 hw n0 _ W.sz a32 (v12 + (1 : Int64)) v30 v5 v21 v12 v30 F_a32_minX F_a32_minY F_a32_maxX F_a32_maxY) K W X_a32 (hw _ (List.mem_of_getElem? (i := 33) rfl)) (hw _ (List.mem_of_getElem? (i := 34) rfl)) (hw _ (List.mem_of_getElem? (i := 36) rfl)) (hw _ (List.mem_of_getElem? (i := 36) rfl)) (hw _ (List.mem_of_getElem? (i := 35) rfl)) (hw _ (List.mem_of_getElem? (i := 9) rfl)) (hw _ (List.mem_of_getElem? (i := 37) rfl)) (by decide) (lenOf pd_3 rfl) at_194 (pc' := 197) rfl (argsL := [(.long (v12 + (1 : Int64))), (.long v30)]) (rest := []) rfl rfl (by decide) (wt := 0) rfl (by decide) (by decide) (by decide) ?_
        rintro T _ _ W ⟨rfl, rfl⟩
        show Go p e below s n0 (Q_c0 Z n0 h0 y0 y1 y2 y3 px py) 16 128 T (mkF m 197 #[.val (.long y0), .second, .val (.long y1), .second, .val (.long y2), .second, .val (.long y3), .second, .val (.long px), .second, .val (.long py), .second, .val (.long v5), .second, .val (.long v12), .second, .val (.long v21), .second, .val (.long v30), .second, .val (.ref a32), .val (.int ex)] [(.int (own_ins v5 v21 v12 v30 (v12 + (1 : Int64)) v30))])
        refine g_if_eq K W at_197 (pt := 202) rfl (pf := 200) rfl (fun hc197 => ?_) (fun hc197 => absurd (by simp [own_ins, own_up hc182]) hc197)
        exact hJ202  _ (W.mono (by decide) (by decide))
    refine g_lload K W at_152 rfl (pc' := 154) rfl ?_
    refine g_ldc2 K W (v := (-9223372036854775808 : Int64)) (hw _ (List.mem_of_getElem? (i := 38) rfl)) at_154 (pc' := 157) rfl ?_
    refine g_lcmp_eq K W at_157 (pc1 := 158) rfl at_158 (pt := 177) rfl (pf := 161) rfl (fun hc157 => ?_) (fun hc157 => ?_)
    · exact hJ177  _ (W.mono (by decide) (by decide))
    · refine g_aload K W at_161 rfl rfl (pc' := 163) rfl ?_
      refine g_lload K W at_163 rfl (pc' := 165) rfl ?_
      refine g_lconst K W (v := (1 : Int64)) at_165 rfl (pc' := 166) rfl ?_
      refine g_lsub K W at_166 (pc' := 167) rfl ?_
      refine g_lload K W at_167 rfl (pc' := 169) rfl ?_
      refine g_callV (c7 l Z a0 hw n0 _ W.sz a32 (v5 - (1 : Int64)) v21 v5 v21 v12 v30 F_a32_minX F_a32_minY F_a32_maxX F_a32_maxY) K W X_a32 (hw _ (List.mem_of_getElem? (i := 33) rfl)) (hw _ (List.mem_of_getElem? (i := 34) rfl)) (hw _ (List.mem_of_getElem? (i := 36) rfl)) (hw _ (List.mem_of_getElem? (i := 36) rfl)) (hw _ (List.mem_of_getElem? (i := 35) rfl)) (hw _ (List.mem_of_getElem? (i := 9) rfl)) (hw _ (List.mem_of_getElem? (i := 37) rfl)) (by decide) (lenOf pd_3 rfl) at_169 (pc' := 172) rfl (argsL := [(.long (v5 - (1 : Int64))), (.long v21)]) (rest := []) rfl rfl (by decide) (wt := 0) rfl (by decide) (by decide) (by decide) ?_
      rintro T _ _ W ⟨rfl, rfl⟩
      show Go p e below s n0 (Q_c0 Z n0 h0 y0 y1 y2 y3 px py) 16 128 T (mkF m 172 #[.val (.long y0), .second, .val (.long y1), .second, .val (.long y2), .second, .val (.long y3), .second, .val (.long px), .second, .val (.long py), .second, .val (.long v5), .second, .val (.long v12), .second, .val (.long v21), .second, .val (.long v30), .second, .val (.ref a32), .val (.int ex)] [(.int (own_ins v5 v21 v12 v30 (v5 - (1 : Int64)) v21))])
      refine g_if_eq K W at_172 (pt := 177) rfl (pf := 175) rfl (fun hc172 => ?_) (fun hc172 => absurd (by simp [own_ins, own_dn hc157]) hc172)
      exact hJ177  _ (W.mono (by decide) (by decide))
  refine g_lload K W at_49 rfl (pc' := 51) rfl ?_
  refine g_lload K W at_51 rfl (pc' := 53) rfl ?_
  refine g_lload K W at_53 rfl (pc' := 55) rfl ?_
  refine g_callS (c6 l Z a0 hw n0 _ W.sz px v5 v12) K W (hw _ (List.mem_of_getElem? (i := 29) rfl)) (hw _ (List.mem_of_getElem? (i := 30) rfl)) (hw _ (List.mem_of_getElem? (i := 31) rfl)) (hw _ (List.mem_of_getElem? (i := 32) rfl)) (by decide) (lenOf pd_4 rfl) at_55 (pc' := 58) rfl (argsL := [(.long px), (.long v5), (.long v12)]) (rest := []) rfl rfl (by decide) (wt := 0) rfl (by decide) (by decide) (by decide) ?_
  rintro T _ _ W ⟨rfl, rfl⟩
  show Go p e below s n0 (Q_c0 Z n0 h0 y0 y1 y2 y3 px py) 16 128 T (mkF m 58 #[.val (.long y0), .second, .val (.long y1), .second, .val (.long y2), .second, .val (.long y3), .second, .val (.long px), .second, .val (.long py), .second, .val (.long v5), .second, .val (.long v12), .second, .val (.long v21), .second, .val (.long v30), .second, .val (.ref a32), .unset] [(.long (own_max v5 (own_min px v12)))])
  refine g_lload K W at_58 rfl (pc' := 60) rfl ?_
  refine g_lcmp_ne K W at_60 (pc1 := 61) rfl at_61 (pt := 83) rfl (pf := 64) rfl (fun hc60 => ?_) (fun hc60 => ?_)
  · refine g_lload K W at_64 rfl (pc' := 66) rfl ?_
    refine g_lload K W at_66 rfl (pc' := 68) rfl ?_
    refine g_lload K W at_68 rfl (pc' := 70) rfl ?_
    refine g_callS (c6 l Z a0 hw n0 _ W.sz py v21 v30) K W (hw _ (List.mem_of_getElem? (i := 29) rfl)) (hw _ (List.mem_of_getElem? (i := 30) rfl)) (hw _ (List.mem_of_getElem? (i := 31) rfl)) (hw _ (List.mem_of_getElem? (i := 32) rfl)) (by decide) (lenOf pd_4 rfl) at_70 (pc' := 73) rfl (argsL := [(.long py), (.long v21), (.long v30)]) (rest := []) rfl rfl (by decide) (wt := 0) rfl (by decide) (by decide) (by decide) ?_
    rintro T _ _ W ⟨rfl, rfl⟩
    show Go p e below s n0 (Q_c0 Z n0 h0 y0 y1 y2 y3 px py) 16 128 T (mkF m 73 #[.val (.long y0), .second, .val (.long y1), .second, .val (.long y2), .second, .val (.long y3), .second, .val (.long px), .second, .val (.long py), .second, .val (.long v5), .second, .val (.long v12), .second, .val (.long v21), .second, .val (.long v30), .second, .val (.ref a32), .unset] [(.long (own_max v21 (own_min py v30)))])
    refine g_lload K W at_73 rfl (pc' := 75) rfl ?_
    refine g_lcmp_ne K W at_75 (pc1 := 76) rfl at_76 (pt := 83) rfl (pf := 79) rfl (fun hc75 => ?_) (fun hc75 => ?_)
    · refine g_iconst K W (v := (1 : Int32)) at_79 rfl (pc' := 80) rfl ?_
      refine g_goto K W at_80 (pt := 84) rfl ?_
      refine g_istore K W at_84 (Ls' := #[.val (.long y0), .second, .val (.long y1), .second, .val (.long y2), .second, .val (.long y3), .second, .val (.long px), .second, .val (.long py), .second, .val (.long v5), .second, .val (.long v12), .second, .val (.long v21), .second, .val (.long v30), .second, .val (.ref a32), .val (.int (1 : Int32))]) rfl (pc' := 86) rfl ?_
      refine g_aload K W at_86 rfl rfl (pc' := 88) rfl ?_
      refine g_lload K W at_88 rfl (pc' := 90) rfl ?_
      refine g_lload K W at_90 rfl (pc' := 92) rfl ?_
      refine g_callV (c7 l Z a0 hw n0 _ W.sz a32 px py v5 v21 v12 v30 F_a32_minX F_a32_minY F_a32_maxX F_a32_maxY) K W X_a32 (hw _ (List.mem_of_getElem? (i := 33) rfl)) (hw _ (List.mem_of_getElem? (i := 34) rfl)) (hw _ (List.mem_of_getElem? (i := 36) rfl)) (hw _ (List.mem_of_getElem? (i := 36) rfl)) (hw _ (List.mem_of_getElem? (i := 35) rfl)) (hw _ (List.mem_of_getElem? (i := 9) rfl)) (hw _ (List.mem_of_getElem? (i := 37) rfl)) (by decide) (lenOf pd_3 rfl) at_92 (pc' := 95) rfl (argsL := [(.long px), (.long py)]) (rest := []) rfl rfl (by decide) (wt := 0) rfl (by decide) (by decide) (by decide) ?_
      rintro T _ _ W ⟨rfl, rfl⟩
      show Go p e below s n0 (Q_c0 Z n0 h0 y0 y1 y2 y3 px py) 16 128 T (mkF m 95 #[.val (.long y0), .second, .val (.long y1), .second, .val (.long y2), .second, .val (.long y3), .second, .val (.long px), .second, .val (.long py), .second, .val (.long v5), .second, .val (.long v12), .second, .val (.long v21), .second, .val (.long v30), .second, .val (.ref a32), .val (.int (1 : Int32))] [(.int (own_ins v5 v21 v12 v30 px py))])
      refine g_iload K W at_95 rfl (pc' := 97) rfl ?_
      refine g_icmp_eq K W at_97 (pt := 102) rfl (pf := 100) rfl (fun hc97 => ?_) (fun hc97 => absurd (by have r1 := (own_clamp q1).mp hc60; have r2 := (own_clamp q2).mp hc75; simp [own_ins, r1, r2]) hc97)
      exact hJ102 (1 : Int32) _ (W.mono (by decide) (by decide))
    · refine g_iconst K W (v := (0 : Int32)) at_83 rfl (pc' := 84) rfl ?_
      refine g_istore K W at_84 (Ls' := #[.val (.long y0), .second, .val (.long y1), .second, .val (.long y2), .second, .val (.long y3), .second, .val (.long px), .second, .val (.long py), .second, .val (.long v5), .second, .val (.long v12), .second, .val (.long v21), .second, .val (.long v30), .second, .val (.ref a32), .val (.int (0 : Int32))]) rfl (pc' := 86) rfl ?_
      refine g_aload K W at_86 rfl rfl (pc' := 88) rfl ?_
      refine g_lload K W at_88 rfl (pc' := 90) rfl ?_
      refine g_lload K W at_90 rfl (pc' := 92) rfl ?_
      refine g_callV (c7 l Z a0 hw n0 _ W.sz a32 px py v5 v21 v12 v30 F_a32_minX F_a32_minY F_a32_maxX F_a32_maxY) K W X_a32 (hw _ (List.mem_of_getElem? (i := 33) rfl)) (hw _ (List.mem_of_getElem? (i := 34) rfl)) (hw _ (List.mem_of_getElem? (i := 36) rfl)) (hw _ (List.mem_of_getElem? (i := 36) rfl)) (hw _ (List.mem_of_getElem? (i := 35) rfl)) (hw _ (List.mem_of_getElem? (i := 9) rfl)) (hw _ (List.mem_of_getElem? (i := 37) rfl)) (by decide) (lenOf pd_3 rfl) at_92 (pc' := 95) rfl (argsL := [(.long px), (.long py)]) (rest := []) rfl rfl (by decide) (wt := 0) rfl (by decide) (by decide) (by decide) ?_
      rintro T _ _ W ⟨rfl, rfl⟩
      show Go p e below s n0 (Q_c0 Z n0 h0 y0 y1 y2 y3 px py) 16 128 T (mkF m 95 #[.val (.long y0), .second, .val (.long y1), .second, .val (.long y2), .second, .val (.long y3), .second, .val (.long px), .second, .val (.long py), .second, .val (.long v5), .second, .val (.long v12), .second, .val (.long v21), .second, .val (.long v30), .second, .val (.ref a32), .val (.int (0 : Int32))] [(.int (own_ins v5 v21 v12 v30 px py))])
      refine g_iload K W at_95 rfl (pc' := 97) rfl ?_
      refine g_icmp_eq K W at_97 (pt := 102) rfl (pf := 100) rfl (fun hc97 => ?_) (fun hc97 => absurd (by have r2 := (not_congr (own_clamp q2)).mp hc75; unfold own_ins; rw [if_pos]; by_cases r : py < v21; exact Or.inr (Or.inr (Or.inl r)); by_cases r' : v30 < py; exact Or.inr (Or.inr (Or.inr r')); exact absurd ⟨r, r'⟩ r2) hc97)
      exact hJ102 (0 : Int32) _ (W.mono (by decide) (by decide))
  · refine g_iconst K W (v := (0 : Int32)) at_83 rfl (pc' := 84) rfl ?_
    refine g_istore K W at_84 (Ls' := #[.val (.long y0), .second, .val (.long y1), .second, .val (.long y2), .second, .val (.long y3), .second, .val (.long px), .second, .val (.long py), .second, .val (.long v5), .second, .val (.long v12), .second, .val (.long v21), .second, .val (.long v30), .second, .val (.ref a32), .val (.int (0 : Int32))]) rfl (pc' := 86) rfl ?_
    refine g_aload K W at_86 rfl rfl (pc' := 88) rfl ?_
    refine g_lload K W at_88 rfl (pc' := 90) rfl ?_
    refine g_lload K W at_90 rfl (pc' := 92) rfl ?_
    refine g_callV (c7 l Z a0 hw n0 _ W.sz a32 px py v5 v21 v12 v30 F_a32_minX F_a32_minY F_a32_maxX F_a32_maxY) K W X_a32 (hw _ (List.mem_of_getElem? (i := 33) rfl)) (hw _ (List.mem_of_getElem? (i := 34) rfl)) (hw _ (List.mem_of_getElem? (i := 36) rfl)) (hw _ (List.mem_of_getElem? (i := 36) rfl)) (hw _ (List.mem_of_getElem? (i := 35) rfl)) (hw _ (List.mem_of_getElem? (i := 9) rfl)) (hw _ (List.mem_of_getElem? (i := 37) rfl)) (by decide) (lenOf pd_3 rfl) at_92 (pc' := 95) rfl (argsL := [(.long px), (.long py)]) (rest := []) rfl rfl (by decide) (wt := 0) rfl (by decide) (by decide) (by decide) ?_
    rintro T _ _ W ⟨rfl, rfl⟩
    show Go p e below s n0 (Q_c0 Z n0 h0 y0 y1 y2 y3 px py) 16 128 T (mkF m 95 #[.val (.long y0), .second, .val (.long y1), .second, .val (.long y2), .second, .val (.long y3), .second, .val (.long px), .second, .val (.long py), .second, .val (.long v5), .second, .val (.long v12), .second, .val (.long v21), .second, .val (.long v30), .second, .val (.ref a32), .val (.int (0 : Int32))] [(.int (own_ins v5 v21 v12 v30 px py))])
    refine g_iload K W at_95 rfl (pc' := 97) rfl ?_
    refine g_icmp_eq K W at_97 (pt := 102) rfl (pf := 100) rfl (fun hc97 => ?_) (fun hc97 => absurd (by have r2 := (not_congr (own_clamp q1)).mp hc60; unfold own_ins; rw [if_pos]; by_cases r : px < v5; exact Or.inl r; by_cases r' : v12 < px; exact Or.inr (Or.inl r'); exact absurd ⟨r, r'⟩ r2) hc97)
    exact hJ102 (0 : Int32) _ (W.mono (by decide) (by decide))
set_option maxHeartbeats 40000000 in
theorem comes_1 {Post : Tables → Env → Array Value → State → Outcome → State → Prop} (hpost : ∀ tb e args s v u, (limb_1_1.after args s (.returned v) u = true ∧ limb_1_2.after args s (.returned v) u = true ∧ True) → FrameEnd s (.returned v) u (Jvm.fieldLocs frame_1_writes args s ++ Jvm.arrayLocs frame_1_arrays args s ++ Jvm.staticLocs frame_1_statics s) 16 128 → Post tb e args s (.returned v) u) :
    ArmFor flags0 classFile x code maxLocals ret World_1 tables_1 room_1 Calls_1 rest_1 Pre_1 Post := by
  intro l hfl _ _ p e ha hc hk s m args below hf hA hF happ hP
  obtain ⟨hcalls, hrest, hpre⟩ := hP
  obtain ⟨-, -, -, hnamed, -, -, -, hat⟩ := (Spec.applies_iff hf).mp happ
  obtain ⟨hg, hn⟩ := and_e (Cond.before_iff.mp (show (Jvm.Cond.and given_1 narrow_1).before args s = true from hpre))
  obtain ⟨hcnt, hg⟩ := and_e hg
  obtain ⟨hi0, hg⟩ := and_e hg
  obtain ⟨hi1, hg⟩ := and_e hg
  obtain ⟨hi2, hg⟩ := and_e hg
  obtain ⟨hi3, hg⟩ := and_e hg
  obtain ⟨hi4, hg⟩ := and_e hg
  have hi5 := hg
  obtain ⟨w0, w1, w2, w3, w4, w5, rfl⟩ : ∃ w0 w1 w2 w3 w4 w5 : Value, args = #[w0, w1, w2, w3, w4, w5] := by
    have hs : args.size = 6 := by simpa [Cond.value, given_1] using hcnt
    obtain ⟨L⟩ := args
    match L, hs with
    | [w0, w1, w2, w3, w4, w5], _ => exact ⟨w0, w1, w2, w3, w4, w5, rfl⟩
  have hw := fun d (hd : d ∈ tables_1) => atoms_spec (ws := Jvm.Cond.code x code maxLocals ret :: tables_1) hat d (List.mem_cons_of_mem _ hd)
  obtain ⟨i0, ei0⟩ := isL_v hi0
  obtain rfl : w0 = (.long i0) := Option.some.inj ei0
  obtain ⟨i1, ei1⟩ := isL_v hi1
  obtain rfl : w1 = (.long i1) := Option.some.inj ei1
  obtain ⟨i2, ei2⟩ := isL_v hi2
  obtain rfl : w2 = (.long i2) := Option.some.inj ei2
  obtain ⟨i3, ei3⟩ := isL_v hi3
  obtain rfl : w3 = (.long i3) := Option.some.inj ei3
  obtain ⟨i4, ei4⟩ := isL_v hi4
  obtain rfl : w4 = (.long i4) := Option.some.inj ei4
  obtain ⟨i5, ei5⟩ := isL_v hi5
  obtain rfl : w5 = (.long i5) := Option.some.inj ei5
  obtain ⟨n, o, h1, h2, h3, v, L, rfl, ⟨hv, N⟩, hq⟩ := c0 l s _ hw s.heap.size s.heap (Nat.le_refl _) i0 i1 i2 i3 i4 i5 tables_1 p e ha hc hk s m _ below hf ((Spec.applies_iff_loose hf).mp happ).1 ⟨rfl, State.Warmed39.refl s, rfl⟩ trivial
  obtain rfl : v = some (.int 1) := hv
  refine ⟨n, _, h1, h2, h3, hpost _ _ _ _ _ _ ⟨Cond.after_iff.mpr rfl, Cond.after_iff.mpr (eq_i res_at (Term.int_eval (1)) rfl), trivial⟩ ⟨hq.1, hq.2.1, (hq.2.2.sift fun y hy => Or.inr (N y hy)).mono (by decide) (by decide)⟩⟩
theorem main_1_1 : Claimed_1_1 := comes_1 fun _ _ _ _ _ _ h hF => ⟨h.1, hF⟩
theorem main_1_2 : Claimed_1_2 := comes_1 fun _ _ _ _ _ _ h hF => ⟨h.2.1, hF⟩
end Jvm.Pilot.@@N@@
namespace Jvm.Pilot.@@N@@
open Jvm Jvm.ClassFile Sem Op Lib Jvm.Free Jvm.Stand Jvm.Pilot.@@N@@.Jvm.D
/-! MADE BY PROGRAM (witnessworld.py) out of the Statement's table words and the real class files: 13 classes; the members and pool entries that the words name. The judged class is class 1, her method 1. -/
namespace start1
open Jvm.ClassFile
def u (s : String) : CpInfo := .utf8 (stringToUtf16 s)
/-- a pool by its gaps: so many unusable entries, then the entry; so many at the end -/
def gap : Nat → List CpInfo → List CpInfo
  | 0, r => r
  | n + 1, r => .unusable :: gap n r
def poolList (es : List (Nat × CpInfo)) (last : Nat) : List CpInfo := es.foldr (fun e r => gap e.1 (e.2 :: r)) (gap last [])
def pool (es : List (Nat × CpInfo)) (last : Nat) : Array CpInfo := ⟨poolList es last⟩
def fileOf (pool : Array CpInfo) (this : Nat) (attrs : Array Attribute := #[]) (ms : Array MethodInfo := #[]) (fl : Nat := 33) (sup : Nat := 0) (ifs : Array Nat := #[]) (fds : Array FieldInfo := #[]) : ClassFile where
  minorVersion := 0
  majorVersion := 65
  constantPool := pool
  accessFlags := fl
  thisClass := this
  superClass := sup
  interfaces := ifs
  fields := fds
  methods := ms
  attributes := attrs
def plain (name : String) (sup : Option ClassId) : Class where
  name := name
  kind := .ordinary
  loader := none
  accessFlags := 33
  super := sup
  interfaces := #[]
  cf := none
  fields := #[]
  methods := #[]
  instanceTypes := #[]
  staticTypes := #[]
  resolved := #[]
  callSites := []
  init := .initialized
  statics := none
  mirror := none

def pool0 : Array CpInfo := pool [(5, u "<init>"), (0, u "()V"), (1, .class_ 10), (1, u "java/lang/Object")] 113

def k0c0 : Code := { maxStack := 0, maxLocals := 1, code := object_method_1_code, exceptionTable := #[], attributes := #[] }
def k0m0 : Method := { name := "<init>", desc := "()V", sig := { parameters := [], returnType := none }, accessFlags := 1, code := some k0c0 }
/-- java/lang/Object -/
def k0 : Class := { plain "java/lang/Object" none with
  accessFlags := 33
  interfaces := #[]
  cf := some (fileOf pool0 8 #[] #[{ accessFlags := 1, nameIndex := 5, descriptorIndex := 6, attributes := #[] }] 33 0 #[] #[])
  fields := #[]
  methods := #[k0m0]
  instanceTypes := #[]
  staticTypes := #[]
  resolved := Array.replicate 124 none
  statics := none }

def pool1 : Array CpInfo := pool [(2, .class_ 4), (1, u "java/lang/Object"), (0, u "<init>"), (0, u "()V"), (0, .methodref 8 9), (0, .class_ 10), (0, .nameAndType 11 12), (0, u "java/lang/Math"), (0, u "min"), (0, u "(JJ)J"), (0, .methodref 8 14), (0, .nameAndType 15 12), (0, u "max"), (0, .class_ 17), (0, u "com/example/cast_to_area/casttoarea/Rectangle"), (0, .methodref 16 19), (0, .nameAndType 5 20), (0, u "(JJJJ)V"), (0, .methodref 22 23), (0, .class_ 24), (0, .nameAndType 25 26), (0, u "com/example/cast_to_area/casttoarea/RectangleContainsPinLaw"), (0, u "clamp"), (0, u "(JJJ)J"), (0, .methodref 16 28), (0, .nameAndType 29 30), (0, u "contains"), (0, u "(JJ)Z"), (2, .long 9223372036854775808), (1, .long 9223372036854775807), (3, u "law"), (0, u "(JJJJJJ)Z")] 3

def k1m0 : Method := { name := "<init>", desc := "()V", sig := { parameters := [], returnType := none }, accessFlags := 1, code := none }
def k1c1 : Code := { maxStack := 10, maxLocals := 22, code := code, exceptionTable := #[], attributes := #[] }
def k1m1 : Method := { name := "law", desc := "(JJJJJJ)Z", sig := { parameters := [.long, .long, .long, .long, .long, .long], returnType := some .boolean }, accessFlags := 9, code := some k1c1 }
def k1c2 : Code := { maxStack := 6, maxLocals := 6, code := method_3_code, exceptionTable := #[], attributes := #[] }
def k1m2 : Method := { name := "clamp", desc := "(JJJ)J", sig := { parameters := [.long, .long, .long], returnType := some .long }, accessFlags := 10, code := some k1c2 }
/-- com/example/cast_to_area/casttoarea/RectangleContainsPinLaw -/
def k1 : Class := { plain "com/example/cast_to_area/casttoarea/RectangleContainsPinLaw" (some 0) with
  accessFlags := 49
  interfaces := #[]
  cf := some (fileOf pool1 22 #[] #[{ accessFlags := 1, nameIndex := 5, descriptorIndex := 6, attributes := #[] }, { accessFlags := 9, nameIndex := 39, descriptorIndex := 40, attributes := #[] }, { accessFlags := 10, nameIndex := 25, descriptorIndex := 26, attributes := #[] }] 49 2 #[] #[])
  fields := #[]
  methods := #[k1m0, k1m1, k1m2]
  instanceTypes := #[]
  staticTypes := #[]
  resolved := Array.replicate 44 none
  statics := none }

def pool2 : Array CpInfo := pool [(1, .class_ 2), (0, u "java/lang/Math"), (1, .class_ 6), (1, u "java/lang/Object"), (0, u "<init>"), (0, u "()V"), (89, .class_ 100), (1, u "java/lang/Math$RandomNumberGeneratorHolder"), (20, u "(JJ)J"), (50, u "negativeZeroFloatBits"), (0, u "J"), (2, u "negativeZeroDoubleBits"), (21, u "max"), (2, u "min"), (43, u "$assertionsDisabled"), (0, u "Z"), (91, u "twoToTheDoubleScaleDown"), (0, u "D"), (4, u "twoToTheDoubleScaleUp"), (9, u "E"), (3, u "PI"), (2, u "TAU"), (2, u "DEGREES_TO_RADIANS"), (0, u "RADIANS_TO_DEGREES")] 94

def k2m0 : Method := { name := "<init>", desc := "()V", sig := { parameters := [], returnType := none }, accessFlags := 2, code := none }
def k2c1 : Code := { maxStack := 4, maxLocals := 4, code := jdk_29_method_66_code, exceptionTable := #[], attributes := #[] }
def k2m1 : Method := { name := "max", desc := "(JJ)J", sig := { parameters := [.long, .long], returnType := some .long }, accessFlags := 9, code := some k2c1 }
def k2c2 : Code := { maxStack := 4, maxLocals := 4, code := jdk_29_method_70_code, exceptionTable := #[], attributes := #[] }
def k2m2 : Method := { name := "min", desc := "(JJ)J", sig := { parameters := [.long, .long], returnType := some .long }, accessFlags := 9, code := some k2c2 }
/-- java/lang/Math -/
def k2 : Class := { plain "java/lang/Math" (some 0) with
  accessFlags := 49
  interfaces := #[]
  cf := some (fileOf pool2 1 #[.nestMembers #[98]] #[{ accessFlags := 2, nameIndex := 7, descriptorIndex := 8, attributes := #[] }, { accessFlags := 9, nameIndex := 198, descriptorIndex := 121, attributes := #[] }, { accessFlags := 9, nameIndex := 201, descriptorIndex := 121, attributes := #[] }] 49 4 #[] #[{ accessFlags := 25, nameIndex := 354, descriptorIndex := 339, attributes := #[] }, { accessFlags := 25, nameIndex := 358, descriptorIndex := 339, attributes := #[] }, { accessFlags := 25, nameIndex := 361, descriptorIndex := 339, attributes := #[] }, { accessFlags := 26, nameIndex := 364, descriptorIndex := 339, attributes := #[] }, { accessFlags := 26, nameIndex := 365, descriptorIndex := 339, attributes := #[] }, { accessFlags := 26, nameIndex := 172, descriptorIndex := 173, attributes := #[] }, { accessFlags := 26, nameIndex := 176, descriptorIndex := 173, attributes := #[] }, { accessFlags := 8, nameIndex := 344, descriptorIndex := 339, attributes := #[] }, { accessFlags := 8, nameIndex := 338, descriptorIndex := 339, attributes := #[] }, { accessFlags := 4120, nameIndex := 245, descriptorIndex := 246, attributes := #[] }])
  fields := #[{ name := "E", type := .double, accessFlags := 25, slot := 0, constantValue := 0 }, { name := "PI", type := .double, accessFlags := 25, slot := 1, constantValue := 0 }, { name := "TAU", type := .double, accessFlags := 25, slot := 2, constantValue := 0 }, { name := "DEGREES_TO_RADIANS", type := .double, accessFlags := 26, slot := 3, constantValue := 0 }, { name := "RADIANS_TO_DEGREES", type := .double, accessFlags := 26, slot := 4, constantValue := 0 }, { name := "negativeZeroFloatBits", type := .long, accessFlags := 26, slot := 5, constantValue := 0 }, { name := "negativeZeroDoubleBits", type := .long, accessFlags := 26, slot := 6, constantValue := 0 }, { name := "twoToTheDoubleScaleUp", type := .double, accessFlags := 8, slot := 7, constantValue := 0 }, { name := "twoToTheDoubleScaleDown", type := .double, accessFlags := 8, slot := 8, constantValue := 0 }, { name := "$assertionsDisabled", type := .boolean, accessFlags := 4120, slot := 9, constantValue := 0 }]
  methods := #[k2m0, k2m1, k2m2]
  instanceTypes := #[]
  staticTypes := #[.double, .double, .double, .double, .double, .long, .long, .double, .double, .boolean]
  resolved := Array.replicate 460 none
  statics := none }

def pool3 : Array CpInfo := pool [(1, .methodref 2 3), (0, .class_ 4), (0, .nameAndType 5 6), (0, u "java/lang/Object"), (0, u "<init>"), (0, u "()V"), (0, .class_ 8), (0, u "java/lang/Record")] 13

def k3c0 : Code := { maxStack := 1, maxLocals := 1, code := jdk_30_method_1_code, exceptionTable := #[], attributes := #[] }
def k3m0 : Method := { name := "<init>", desc := "()V", sig := { parameters := [], returnType := none }, accessFlags := 4, code := some k3c0 }
/-- java/lang/Record -/
def k3 : Class := { plain "java/lang/Record" (some 0) with
  accessFlags := 1057
  interfaces := #[]
  cf := some (fileOf pool3 7 #[] #[{ accessFlags := 4, nameIndex := 5, descriptorIndex := 6, attributes := #[] }] 1057 2 #[] #[])
  fields := #[]
  methods := #[k3m0]
  instanceTypes := #[]
  staticTypes := #[]
  resolved := Array.replicate 22 none
  statics := none }

def pool4 : Array CpInfo := pool [(1, .class_ 2), (0, u "com/example/cast_to_area/casttoarea/AreaOfInterest"), (0, .class_ 4), (0, u "java/lang/Object")] 11

/-- com/example/cast_to_area/casttoarea/AreaOfInterest -/
def k4 : Class := { plain "com/example/cast_to_area/casttoarea/AreaOfInterest" (some 0) with
  accessFlags := 1537
  interfaces := #[]
  cf := some (fileOf pool4 1 #[] #[] 1537 3 #[] #[])
  fields := #[]
  methods := #[]
  instanceTypes := #[]
  staticTypes := #[]
  resolved := Array.replicate 16 none
  statics := none }

def pool5 : Array CpInfo := pool [(2, .class_ 4), (1, u "com/example/cast_to_area/casttoarea/Area"), (2, .class_ 8), (0, u "java/lang/Object"), (0, .class_ 10), (0, u "com/example/cast_to_area/casttoarea/AreaOfInterest")] 17

/-- com/example/cast_to_area/casttoarea/Area -/
def k5 : Class := { plain "com/example/cast_to_area/casttoarea/Area" (some 0) with
  accessFlags := 1537
  interfaces := #[4]
  cf := some (fileOf pool5 2 #[] #[] 1537 7 #[9] #[])
  fields := #[]
  methods := #[]
  instanceTypes := #[]
  staticTypes := #[]
  resolved := Array.replicate 28 none
  statics := none }

def pool6 : Array CpInfo := pool [(1, .methodref 2 3), (0, .class_ 4), (0, .nameAndType 5 6), (0, u "java/lang/Record"), (0, u "<init>"), (0, u "()V"), (9, .fieldref 17 18), (0, .class_ 19), (0, .nameAndType 20 21), (0, u "com/example/cast_to_area/casttoarea/Rectangle"), (0, u "minX"), (0, u "J"), (0, .fieldref 17 23), (0, .nameAndType 24 21), (0, u "minY"), (0, .fieldref 17 26), (0, .nameAndType 27 21), (0, u "maxX"), (0, .fieldref 17 29), (0, .nameAndType 30 21), (0, u "maxY"), (2, u "(JJJJ)V"), (18, .class_ 53), (0, u "com/example/cast_to_area/casttoarea/Area"), (6, u "contains"), (0, u "(JJ)Z")] 37

def k6c0 : Code := { maxStack := 10, maxLocals := 9, code := prog_15_method_1_code, exceptionTable := #[], attributes := #[] }
def k6m0 : Method := { name := "<init>", desc := "(JJJJ)V", sig := { parameters := [.long, .long, .long, .long], returnType := none }, accessFlags := 1, code := some k6c0 }
def k6c1 : Code := { maxStack := 4, maxLocals := 5, code := prog_15_method_3_code, exceptionTable := #[], attributes := #[] }
def k6m1 : Method := { name := "contains", desc := "(JJ)Z", sig := { parameters := [.long, .long], returnType := some .boolean }, accessFlags := 1, code := some k6c1 }
/-- com/example/cast_to_area/casttoarea/Rectangle -/
def k6 : Class := { plain "com/example/cast_to_area/casttoarea/Rectangle" (some 3) with
  accessFlags := 49
  interfaces := #[5]
  cf := some (fileOf pool6 17 #[] #[{ accessFlags := 1, nameIndex := 5, descriptorIndex := 33, attributes := #[] }, { accessFlags := 1, nameIndex := 60, descriptorIndex := 61, attributes := #[] }] 49 2 #[52] #[{ accessFlags := 18, nameIndex := 20, descriptorIndex := 21, attributes := #[] }, { accessFlags := 18, nameIndex := 24, descriptorIndex := 21, attributes := #[] }, { accessFlags := 18, nameIndex := 27, descriptorIndex := 21, attributes := #[] }, { accessFlags := 18, nameIndex := 30, descriptorIndex := 21, attributes := #[] }])
  fields := #[{ name := "minX", type := .long, accessFlags := 18, slot := 0, constantValue := 0 }, { name := "minY", type := .long, accessFlags := 18, slot := 1, constantValue := 0 }, { name := "maxX", type := .long, accessFlags := 18, slot := 2, constantValue := 0 }, { name := "maxY", type := .long, accessFlags := 18, slot := 3, constantValue := 0 }]
  methods := #[k6m0, k6m1]
  instanceTypes := #[.long, .long, .long, .long]
  staticTypes := #[]
  resolved := Array.replicate 99 none
  statics := none }

def pool7 : Array CpInfo := pool [(1, u "java/lang/Cloneable"), (0, .class_ 1), (0, u "java/lang/Object"), (0, .class_ 3)] 3

/-- java/lang/Cloneable -/
def k7 : Class := { plain "java/lang/Cloneable" (some 0) with
  accessFlags := 1537
  interfaces := #[]
  cf := some (fileOf pool7 2 #[] #[] 1537 4 #[] #[])
  fields := #[]
  methods := #[]
  instanceTypes := #[]
  staticTypes := #[]
  resolved := Array.replicate 8 none
  statics := none }

def pool8 : Array CpInfo := pool [(1, u "java/io/Serializable"), (0, .class_ 1), (0, u "java/lang/Object"), (0, .class_ 3)] 3

/-- java/io/Serializable -/
def k8 : Class := { plain "java/io/Serializable" (some 0) with
  accessFlags := 1537
  interfaces := #[]
  cf := some (fileOf pool8 2 #[] #[] 1537 4 #[] #[])
  fields := #[]
  methods := #[]
  instanceTypes := #[]
  staticTypes := #[]
  resolved := Array.replicate 8 none
  statics := none }

/-- the primitive byte -/
def k9 : Class := { plain "byte" none with kind := .primitive 'B', accessFlags := 0x411 }
/-- [B -/
def k10 : Class := { plain "[B" (some 0) with kind := .array 9 .byte, interfaces := #[7, 8], accessFlags := 1041 }

/-- the primitive int -/
def k11 : Class := { plain "int" none with kind := .primitive 'I', accessFlags := 0x411 }
/-- [I -/
def k12 : Class := { plain "[I" (some 0) with kind := .array 11 .int, interfaces := #[7, 8], accessFlags := 1041 }

def heap : Heap := #[]
def classes : Array Class := #[k0, k1, k2, k3, k4, k5, k6, k7, k8, k9, k10, k11, k12]
def interned : List (Array UInt16 × Addr) := []
def slotsUsed : Nat := 0
def theMethod : MethodId := ⟨1, 1⟩
def args0 : Array Value := #[.long 0, .long 1, .long 2, .long 3, .long 4, .long 5]
def aboutOver (below : List Frame) : State where
  vm := { classes := classes, interned := interned.toArray }
  heap := heap
  slotsUsed := slotsUsed
  threads := #[{ frames := .invoking theMethod args0 :: below }]
def below0 : List Frame := [.native { method := ⟨0, 0⟩, args := #[] }]
def about1 : State := aboutOver below0
def p0 : Program := .bare "" "" ""
def e0 : Env := launch0.env 0 0 0
theorem w_frames : about1.frames = Frame.invoking theMethod args0 :: below0 := rfl
set_option maxRecDepth 65536 in
theorem w_args : argsFit about1.vm theMethod args0 = true := by decide +kernel
set_option maxRecDepth 65536 in
theorem w_heap : heapFits about1 = true := by decide +kernel
set_option maxRecDepth 65536 in
theorem w_runnable : about1.curStatus? = some .runnable := by decide +kernel
set_option maxRecDepth 65536 in
theorem w_alone : about1.alone = true := by decide +kernel
set_option maxRecDepth 65536 in
theorem w_named : about1.methodNamed? x = some theMethod := by decide +kernel
set_option maxRecDepth 65536 in
theorem w_hears : about1.hears theMethod below0 = true := by decide +kernel
set_option maxRecDepth 65536 in
theorem w_ripe : about1.ripe theMethod args0 below0 = true := by decide +kernel
theorem w_running : about1.status = .running := rfl
set_option maxRecDepth 65536 in
theorem w_room : about1.hasRoom e0.platform room_1 = true :=
  launch0.hasRoom_least _ room_1 (by decide +kernel) (by decide +kernel) (by decide +kernel) (by decide +kernel) (by decide +kernel) (by decide +kernel)
theorem allAtoms_all (ts : List Jvm.Cond) (a : Array Jvm.Value) (st : Jvm.State) : (allAtoms ts).before a st = ts.all (fun c => c.before a st) := by
  induction ts with
  | nil => rfl
  | cons c t ih =>
    show (Jvm.Cond.and c (allAtoms t)).before a st = _
    rw [Jvm.Cond.before_and, ih, List.all_cons]
def words1 : List Jvm.Cond := Jvm.Cond.code x code maxLocals ret :: tables_1
/-- a 'code' word, met by the world's own term for the bytes: nothing is compared byte by byte -/
theorem code_word {y : MethodName} {bytes : ByteArray} {mx : Nat} {rt : Option FieldType} {a : Array Value} {s : State} {m : MethodId} {meth : Method} {c : Code} (h1 : s.methodNamed? y = some m) (h2 : s.vm.method? m = some meth) (h3 : meth.code = some c) (h4 : c.code = bytes)
    (h5 : (c.maxLocals == mx && c.exceptionTable.isEmpty && decide (c.maxStack ≤ mostOperands) && decide (meth.sig.returnType = rt) && !meth.locks && decide (parseMethodDescriptor y.desc = some meth.sig)) = true) : (Jvm.Cond.code y bytes mx rt).before a s = true := by
  simp only [Bool.and_eq_true, beq_iff_eq, Bool.not_eq_true', decide_eq_true_eq] at h5
  obtain ⟨⟨⟨⟨⟨g1, g2⟩, g3⟩, g4⟩, g5⟩, g6⟩ := h5
  simp [Cond.before, Cond.holds, Cond.value, h1, h2, h3, h4, g1, g2, g3, g4, g5, g6]
def isCode : Jvm.Cond → Bool
  | .code _ _ _ _ => true
  | _ => false
theorem all_split {L : List Jvm.Cond} {P : Jvm.Cond → Bool} (h1 : L.all (fun c => isCode c || P c) = true) (h2 : ∀ c ∈ L.filter isCode, P c = true) : L.all P = true := by
  refine List.all_eq_true.mpr fun c hc => ?_
  have h := List.all_eq_true.mp h1 c hc
  rcases Bool.eq_false_or_eq_true (isCode c) with hi | hi
  · exact h2 c (List.mem_filter.mpr ⟨hc, hi⟩)
  · simpa [hi] using h
set_option maxRecDepth 65536 in
theorem w_c0 : (Jvm.Cond.code x code maxLocals ret).before args0 about1 = true := code_word (m := ⟨1, 1⟩) (meth := k1m1) (c := k1c1) (by decide +kernel) rfl rfl rfl (by decide +kernel)
set_option maxRecDepth 65536 in
theorem w_c1 : (Jvm.Cond.code ({ cls := "java/lang/Math", name := "min", desc := "(JJ)J" } : Jvm.MethodName) jdk_29_method_70_code (4 : Nat) (Option.some Jvm.ClassFile.FieldType.long)).before args0 about1 = true := code_word (m := ⟨2, 2⟩) (meth := k2m2) (c := k2c2) (by decide +kernel) rfl rfl rfl (by decide +kernel)
set_option maxRecDepth 65536 in
theorem w_c2 : (Jvm.Cond.code ({ cls := "java/lang/Math", name := "max", desc := "(JJ)J" } : Jvm.MethodName) jdk_29_method_66_code (4 : Nat) (Option.some Jvm.ClassFile.FieldType.long)).before args0 about1 = true := code_word (m := ⟨2, 1⟩) (meth := k2m1) (c := k2c1) (by decide +kernel) rfl rfl rfl (by decide +kernel)
set_option maxRecDepth 65536 in
theorem w_c3 : (Jvm.Cond.code ({ cls := "com/example/cast_to_area/casttoarea/Rectangle", name := "<init>", desc := "(JJJJ)V" } : Jvm.MethodName) prog_15_method_1_code (9 : Nat) (Option.none : Option Jvm.ClassFile.FieldType)).before args0 about1 = true := code_word (m := ⟨6, 0⟩) (meth := k6m0) (c := k6c0) (by decide +kernel) rfl rfl rfl (by decide +kernel)
set_option maxRecDepth 65536 in
theorem w_c4 : (Jvm.Cond.code ({ cls := "java/lang/Record", name := "<init>", desc := "()V" } : Jvm.MethodName) jdk_30_method_1_code (1 : Nat) (Option.none : Option Jvm.ClassFile.FieldType)).before args0 about1 = true := code_word (m := ⟨3, 0⟩) (meth := k3m0) (c := k3c0) (by decide +kernel) rfl rfl rfl (by decide +kernel)
set_option maxRecDepth 65536 in
theorem w_c5 : (Jvm.Cond.code ({ cls := "java/lang/Object", name := "<init>", desc := "()V" } : Jvm.MethodName) object_method_1_code (1 : Nat) (Option.none : Option Jvm.ClassFile.FieldType)).before args0 about1 = true := code_word (m := ⟨0, 0⟩) (meth := k0m0) (c := k0c0) (by decide +kernel) rfl rfl rfl (by decide +kernel)
set_option maxRecDepth 65536 in
theorem w_c6 : (Jvm.Cond.code ({ cls := "com/example/cast_to_area/casttoarea/RectangleContainsPinLaw", name := "clamp", desc := "(JJJ)J" } : Jvm.MethodName) method_3_code (6 : Nat) (Option.some Jvm.ClassFile.FieldType.long)).before args0 about1 = true := code_word (m := ⟨1, 2⟩) (meth := k1m2) (c := k1c2) (by decide +kernel) rfl rfl rfl (by decide +kernel)
set_option maxRecDepth 65536 in
theorem w_c7 : (Jvm.Cond.code ({ cls := "com/example/cast_to_area/casttoarea/Rectangle", name := "contains", desc := "(JJ)Z" } : Jvm.MethodName) prog_15_method_3_code (5 : Nat) (Option.some Jvm.ClassFile.FieldType.boolean)).before args0 about1 = true := code_word (m := ⟨6, 1⟩) (meth := k6m1) (c := k6c1) (by decide +kernel) rfl rfl rfl (by decide +kernel)
def codes1 : List Jvm.Cond := [Jvm.Cond.code x code maxLocals ret, Jvm.Cond.code ({ cls := "java/lang/Math", name := "min", desc := "(JJ)J" } : Jvm.MethodName) jdk_29_method_70_code (4 : Nat) (Option.some Jvm.ClassFile.FieldType.long), Jvm.Cond.code ({ cls := "java/lang/Math", name := "max", desc := "(JJ)J" } : Jvm.MethodName) jdk_29_method_66_code (4 : Nat) (Option.some Jvm.ClassFile.FieldType.long), Jvm.Cond.code ({ cls := "com/example/cast_to_area/casttoarea/Rectangle", name := "<init>", desc := "(JJJJ)V" } : Jvm.MethodName) prog_15_method_1_code (9 : Nat) (Option.none : Option Jvm.ClassFile.FieldType), Jvm.Cond.code ({ cls := "java/lang/Record", name := "<init>", desc := "()V" } : Jvm.MethodName) jdk_30_method_1_code (1 : Nat) (Option.none : Option Jvm.ClassFile.FieldType), Jvm.Cond.code ({ cls := "java/lang/Object", name := "<init>", desc := "()V" } : Jvm.MethodName) object_method_1_code (1 : Nat) (Option.none : Option Jvm.ClassFile.FieldType), Jvm.Cond.code ({ cls := "com/example/cast_to_area/casttoarea/RectangleContainsPinLaw", name := "clamp", desc := "(JJJ)J" } : Jvm.MethodName) method_3_code (6 : Nat) (Option.some Jvm.ClassFile.FieldType.long), Jvm.Cond.code ({ cls := "com/example/cast_to_area/casttoarea/Rectangle", name := "contains", desc := "(JJ)Z" } : Jvm.MethodName) prog_15_method_3_code (5 : Nat) (Option.some Jvm.ClassFile.FieldType.boolean)]
set_option maxRecDepth 65536 in
theorem codes_eq : words1.filter isCode = codes1 := rfl
theorem w_codes : ∀ c ∈ words1.filter isCode, c.before args0 about1 = true := by
  rw [codes_eq]
  intro c hc
  simp only [codes1, List.mem_cons, List.not_mem_nil, or_false] at hc
  rcases hc with rfl | rfl | rfl | rfl | rfl | rfl | rfl | rfl
  · exact w_c0
  · exact w_c1
  · exact w_c2
  · exact w_c3
  · exact w_c4
  · exact w_c5
  · exact w_c6
  · exact w_c7
set_option maxRecDepth 65536 in
theorem w_t1 : (words1.take 24).all (fun c => isCode c || c.before args0 about1) = true := by decide +kernel
set_option maxRecDepth 65536 in
theorem w_t2 : (words1.drop 24).all (fun c => isCode c || c.before args0 about1) = true := by decide +kernel
theorem w_tables : (allAtoms (Jvm.Cond.code x code maxLocals ret :: tables_1)).before args0 about1 = true := by
  rw [allAtoms_all]
  show words1.all (fun c => c.before args0 about1) = true
  refine all_split ?_ w_codes
  rw [← List.take_append_drop 24 words1, List.all_append, w_t1, w_t2]
  rfl
set_option maxRecDepth 65536 in
theorem w_case : (Jvm.Cond.and given_1 narrow_1).before args0 about1 = true := by decide +kernel
theorem w_applies : (headSpec (Jvm.Cond.code x code maxLocals ret :: tables_1) room_1).applies x e0.platform about1 = true :=
  (Spec.applies_iff w_frames).mpr ⟨w_running, w_runnable, w_alone, w_named, w_hears, w_ripe, w_room, w_tables⟩
theorem atStart : AtStart classFile x code maxLocals ret World_1 tables_1 room_1 Calls_1 rest_1 Pre_1 launch0 p0 e0 about1 theMethod args0 below0 :=
  ⟨lists_1, trivial, launch0.admits_env _ _ _, launch0.least_env, fairChoices_fair.cas, fairChoices_fair.clock, w_frames, w_args, w_heap, w_applies, trivial, trivial, w_case⟩
end start1
theorem witness_1 : WitnessClaimed_1 := ⟨start1.p0, start1.e0, start1.about1, start1.theMethod, start1.args0, start1.below0, start1.atStart⟩
end Jvm.Pilot.@@N@@
