import JvmDerived
import JvmDerived.Pilot.@@N@@Statement
import JvmDerived.Pilot.@@N@@Code
set_option linter.unusedVariables false
set_option linter.unusedSimpArgs false
set_option maxRecDepth 65536
namespace Jvm.Pilot.@@N@@
open Jvm Jvm.ClassFile Sem Op Lib Jvm.Free Jvm.Stand Jvm.LawKit Jvm.RoadKit Bundle Jvm.Pilot.@@N@@.Jvm.D
section OwnBase
/-- where a walk stands: the Stand, that nothing old was written, the heap -/
def Wd (p : Program) (l : Launch) (e : Env) (R : Room) (s : State) (m : MethodId) (args : Array Value) (below : List Frame) (meth : Method) (c : Code) (n0 : Nat) (T : State) (h : Heap) (cs ss : Nat) : Prop :=
  ∃ locs, Stand p l e R s m args below meth c T locs cs ss ∧ Fr n0 locs ∧ T.heap = h ∧ n0 ≤ s.heap.size
/-- from the frame g on the body comes to its end, and Q holds of what it returns and of the heap -/
def Go (p : Program) (e : Env) (below : List Frame) (s : State) (n0 : Nat) (Q : Option Value → Heap → Prop) (rc rs : Nat) (T : State) (g : JFrame) : Prop :=
  ∃ s₂ o, Steps p.tables e below (T.setTop g) s₂ ∧ s₂.status = .running ∧ Ended s₂ below o ∧ ∃ v L, o = .returned v ∧ (Q v s₂.heap ∧ Fr n0 L) ∧ FrameEnd s o s₂ L rc rs
/-- what a walk knows of the body that it walks -/
def Cx (p : Program) (s : State) (m : MethodId) (meth : Method) (c : Code) (Z : State) (own nm : String) (bytes : ByteArray) (maxL : Nat) (ret : Option FieldType) : Prop :=
  p.tables.exec = Jvm.exec ∧ Z.Warmed39 s.vm ∧ c.code = bytes ∧ c.maxLocals = maxL ∧ s.vm.findClass own = some m.cls ∧ meth.sig.returnType = ret ∧ meth.locks = false ∧ meth.name = nm
/-- a body's contract -/
def Mt (l : Launch) (Z : State) (y : MethodName) (bytes : ByteArray) (maxL : Nat) (ret : Option FieldType) (rm : Room) (n0 : Nat) (as' : Array Value) (h0 : Heap) (Q : Option Value → Heap → Prop) : Prop :=
  ∀ ws : List Jvm.Cond, MetFree l y (head1 (Jvm.Cond.code y bytes maxL ret :: ws) rm) (fun a U => a = as' ∧ Z.Warmed39 U.vm ∧ U.heap = h0) (fun _ _ _ _ _ => True) (fun _ U o U' => ∃ v L, o = .returned v ∧ (Q v U'.heap ∧ Fr n0 L) ∧ FrameEnd U o U' L rm.cells rm.slots)
variable {p : Program} {l : Launch} {e : Env} {R : Room} {s : State} {m : MethodId} {args : Array Value} {below : List Frame} {meth : Method} {c : Code} {Z : State} {own nm : String} {bytes : ByteArray} {maxL : Nat} {ret : Option FieldType} {T : State} {h : Heap} {cs ss n0 : Nat} {Q : Option Value → Heap → Prop} {rc rs : Nat} {pc pc' pf pt : Nat} {Ls Ls' : Array Slot} {st rest : List Value} {a0 : Array Value}
theorem Go.stp {T' : State} {g g' : JFrame} (q : ∀ target, Steps p.tables e below (T'.setTop g') target → Steps p.tables e below (T.setTop g) target) (G : Go p e below s n0 Q rc rs T' g') : Go p e below s n0 Q rc rs T g := by
  obtain ⟨s₂, o, h1, r⟩ := G
  exact ⟨s₂, o, q _ h1, r⟩
theorem Wd.mono {cs' ss' : Nat} (W : Wd p l e R s m args below meth c n0 T h cs ss) (h1 : cs ≤ cs') (h2 : ss ≤ ss') : Wd p l e R s m args below meth c n0 T h cs' ss' := by
  obtain ⟨locs, X, r⟩ := W
  exact ⟨locs, ⟨X.admits, X.cas, X.clock, X.frames, X.room, X.hears, X.method, X.code, X.here, X.tail, X.warmed, X.limits, X.bytes, X.same.mono h1 h2⟩, r⟩
theorem met_of {y : MethodName} {rm : Room} {as' : Array Value} {h0 : Heap} (hpl : plainFor y = true) (hent : ∀ m, entryFrame m as' maxL = mkF m 0 Ls []) (hn : n0 ≤ h0.size)
    (H : ∀ p e s m below meth c T, Cx p s m meth c Z y.cls y.name bytes maxL ret → Wd p l e rm s m as' below meth c n0 T h0 0 0 → Go p e below s n0 Q rm.cells rm.slots T (mkF m 0 Ls [])) :
    Mt l Z y bytes maxL ret rm n0 as' h0 Q := by
  intro ws
  refine MetFree.of_bodySF hpl hisR ?_
  intro p e s m args below meth c s₁ Bd hml0 hP hK
  obtain ⟨rfl, hZ, hh⟩ := hP
  have X0 := Stand.of_body Bd
  have e0 : s₁.heap = h0 := by rw [← hh, Bd.state]; rfl
  have G := H p e s m below meth c s₁ ⟨Bd.exec, hZ, Bd.bytes, hml0, findClass_of_methodNamed Bd.named, Bd.returns, Bd.notSynchronized, (name_of_methodNamed Bd.named Bd.method).1⟩ ⟨[], X0, Fr.nil n0, e0, by rw [hh]; exact hn⟩
  obtain ⟨s₂, o, h1, h2, h3, v, L, h4, h5, h6⟩ := G
  exact ⟨s₂, o, castTop (hent m) h1, h2, h3, v, L, h4, h5, h6⟩
/-! the single steps -/
theorem g_iload (K : Cx p s m meth c Z own nm bytes maxL ret) (W : Wd p l e R s m args below meth c n0 T h cs ss) {k : Nat} {v : Int32} (hd : decode bytes pc = .ok (.iload k, 2)) (hl : Ls[k]? = some (.val (.int v))) (hp : pc + 2 = pc') (G : Go p e below s n0 Q rc rs T (mkF m pc' Ls (.int v :: st))) : Go p e below s n0 Q rc rs T (mkF m pc Ls st) := by
  obtain ⟨_, X, -⟩ := W; subst hp
  exact Go.stp (g' := mkF m (pc + 2) Ls (.int v :: st)) (fun _ hr => XS.iload X.here K.1 rfl (hb K.2.2.1 hd) hl hr) G
theorem g_iloadN (K : Cx p s m meth c Z own nm bytes maxL ret) (W : Wd p l e R s m args below meth c n0 T h cs ss) {k : Fin 4} {v : Int32} (hd : decode bytes pc = .ok (.iload_n k, 1)) (hl : Ls[k.val]? = some (.val (.int v))) (hp : pc + 1 = pc') (G : Go p e below s n0 Q rc rs T (mkF m pc' Ls (.int v :: st))) : Go p e below s n0 Q rc rs T (mkF m pc Ls st) := by
  obtain ⟨_, X, -⟩ := W; subst hp
  exact Go.stp (g' := mkF m (pc + 1) Ls (.int v :: st)) (fun _ hr => XS.iloadN X.here K.1 rfl (hb K.2.2.1 hd) hl hr) G
theorem g_lload (K : Cx p s m meth c Z own nm bytes maxL ret) (W : Wd p l e R s m args below meth c n0 T h cs ss) {k : Nat} {v : Int64} (hd : decode bytes pc = .ok (.lload k, 2)) (hl : Ls[k]? = some (.val (.long v))) (hp : pc + 2 = pc') (G : Go p e below s n0 Q rc rs T (mkF m pc' Ls (.long v :: st))) : Go p e below s n0 Q rc rs T (mkF m pc Ls st) := by
  obtain ⟨_, X, -⟩ := W; subst hp
  exact Go.stp (g' := mkF m (pc + 2) Ls (.long v :: st)) (fun _ hr => XS.lload X.here K.1 rfl (hb K.2.2.1 hd) hl hr) G
theorem g_lloadN (K : Cx p s m meth c Z own nm bytes maxL ret) (W : Wd p l e R s m args below meth c n0 T h cs ss) {k : Fin 4} {v : Int64} (hd : decode bytes pc = .ok (.lload_n k, 1)) (hl : Ls[k.val]? = some (.val (.long v))) (hp : pc + 1 = pc') (G : Go p e below s n0 Q rc rs T (mkF m pc' Ls (.long v :: st))) : Go p e below s n0 Q rc rs T (mkF m pc Ls st) := by
  obtain ⟨_, X, -⟩ := W; subst hp
  exact Go.stp (g' := mkF m (pc + 1) Ls (.long v :: st)) (fun _ hr => XS.lloadN X.here K.1 rfl (hb K.2.2.1 hd) hl hr) G
theorem g_aload (K : Cx p s m meth c Z own nm bytes maxL ret) (W : Wd p l e R s m args below meth c n0 T h cs ss) {k : Nat} {v : Value} (hd : decode bytes pc = .ok (.aload k, 2)) (hl : Ls[k]? = some (.val v)) (hv : v.isRef = true) (hp : pc + 2 = pc') (G : Go p e below s n0 Q rc rs T (mkF m pc' Ls (v :: st))) : Go p e below s n0 Q rc rs T (mkF m pc Ls st) := by
  obtain ⟨_, X, -⟩ := W; subst hp
  exact Go.stp (g' := mkF m (pc + 2) Ls (v :: st)) (fun _ hr => XS.aload X.here K.1 rfl (hb K.2.2.1 hd) hl hv hr) G
theorem g_aloadN (K : Cx p s m meth c Z own nm bytes maxL ret) (W : Wd p l e R s m args below meth c n0 T h cs ss) {k : Fin 4} {v : Value} (hd : decode bytes pc = .ok (.aload_n k, 1)) (hl : Ls[k.val]? = some (.val v)) (hv : v.isRef = true) (hp : pc + 1 = pc') (G : Go p e below s n0 Q rc rs T (mkF m pc' Ls (v :: st))) : Go p e below s n0 Q rc rs T (mkF m pc Ls st) := by
  obtain ⟨_, X, -⟩ := W; subst hp
  exact Go.stp (g' := mkF m (pc + 1) Ls (v :: st)) (fun _ hr => XS.aloadN X.here K.1 rfl (hb K.2.2.1 hd) hl hv hr) G
theorem g_istore (K : Cx p s m meth c Z own nm bytes maxL ret) (W : Wd p l e R s m args below meth c n0 T h cs ss) {k : Nat} {x : Int32} (hd : decode bytes pc = .ok (.istore k, 2)) (hl : storeLocals Ls k (.int x) = some Ls') (hp : pc + 2 = pc') (G : Go p e below s n0 Q rc rs T (mkF m pc' Ls' st)) : Go p e below s n0 Q rc rs T (mkF m pc Ls (.int x :: st)) := by
  obtain ⟨_, X, -⟩ := W; subst hp
  exact Go.stp (g' := mkF m (pc + 2) Ls' st) (fun _ hr => XS.istore X.here K.1 rfl (hb K.2.2.1 hd) rfl hl hr) G
theorem g_istoreN (K : Cx p s m meth c Z own nm bytes maxL ret) (W : Wd p l e R s m args below meth c n0 T h cs ss) {k : Fin 4} {x : Int32} (hd : decode bytes pc = .ok (.istore_n k, 1)) (hl : storeLocals Ls k.val (.int x) = some Ls') (hp : pc + 1 = pc') (G : Go p e below s n0 Q rc rs T (mkF m pc' Ls' st)) : Go p e below s n0 Q rc rs T (mkF m pc Ls (.int x :: st)) := by
  obtain ⟨_, X, -⟩ := W; subst hp
  exact Go.stp (g' := mkF m (pc + 1) Ls' st) (fun _ hr => XS.istoreN X.here K.1 rfl (hb K.2.2.1 hd) rfl hl hr) G
theorem g_lstore (K : Cx p s m meth c Z own nm bytes maxL ret) (W : Wd p l e R s m args below meth c n0 T h cs ss) {k : Nat} {x : Int64} (hd : decode bytes pc = .ok (.lstore k, 2)) (hl : storeLocals Ls k (.long x) = some Ls') (hp : pc + 2 = pc') (G : Go p e below s n0 Q rc rs T (mkF m pc' Ls' st)) : Go p e below s n0 Q rc rs T (mkF m pc Ls (.long x :: st)) := by
  obtain ⟨_, X, -⟩ := W; subst hp
  exact Go.stp (g' := mkF m (pc + 2) Ls' st) (fun _ hr => XS.lstore X.here K.1 rfl (hb K.2.2.1 hd) rfl hl hr) G
theorem g_lstoreN (K : Cx p s m meth c Z own nm bytes maxL ret) (W : Wd p l e R s m args below meth c n0 T h cs ss) {k : Fin 4} {x : Int64} (hd : decode bytes pc = .ok (.lstore_n k, 1)) (hl : storeLocals Ls k.val (.long x) = some Ls') (hp : pc + 1 = pc') (G : Go p e below s n0 Q rc rs T (mkF m pc' Ls' st)) : Go p e below s n0 Q rc rs T (mkF m pc Ls (.long x :: st)) := by
  obtain ⟨_, X, -⟩ := W; subst hp
  exact Go.stp (g' := mkF m (pc + 1) Ls' st) (fun _ hr => XS.lstoreN X.here K.1 rfl (hb K.2.2.1 hd) rfl hl hr) G
theorem g_astore (K : Cx p s m meth c Z own nm bytes maxL ret) (W : Wd p l e R s m args below meth c n0 T h cs ss) {k : Nat} {x : Value} (hd : decode bytes pc = .ok (.astore k, 2)) (hv : x.isRef = true) (hl : storeLocals Ls k x = some Ls') (hp : pc + 2 = pc') (G : Go p e below s n0 Q rc rs T (mkF m pc' Ls' st)) : Go p e below s n0 Q rc rs T (mkF m pc Ls (x :: st)) := by
  obtain ⟨_, X, -⟩ := W; subst hp
  exact Go.stp (g' := mkF m (pc + 2) Ls' st) (fun _ hr => XS.astore X.here K.1 rfl (hb K.2.2.1 hd) rfl hv hl hr) G
theorem g_astoreN (K : Cx p s m meth c Z own nm bytes maxL ret) (W : Wd p l e R s m args below meth c n0 T h cs ss) {k : Fin 4} {x : Value} (hd : decode bytes pc = .ok (.astore_n k, 1)) (hv : x.isRef = true) (hl : storeLocals Ls k.val x = some Ls') (hp : pc + 1 = pc') (G : Go p e below s n0 Q rc rs T (mkF m pc' Ls' st)) : Go p e below s n0 Q rc rs T (mkF m pc Ls (x :: st)) := by
  obtain ⟨_, X, -⟩ := W; subst hp
  exact Go.stp (g' := mkF m (pc + 1) Ls' st) (fun _ hr => XS.astoreN X.here K.1 rfl (hb K.2.2.1 hd) rfl hv hl hr) G
theorem g_iconst (K : Cx p s m meth c Z own nm bytes maxL ret) (W : Wd p l e R s m args below meth c n0 T h cs ss) {i : Int} {v : Int32} (hd : decode bytes pc = .ok (.iconst i, 1)) (hv : Int32.ofInt i = v) (hp : pc + 1 = pc') (G : Go p e below s n0 Q rc rs T (mkF m pc' Ls (.int v :: st))) : Go p e below s n0 Q rc rs T (mkF m pc Ls st) := by
  obtain ⟨_, X, -⟩ := W; subst hp hv
  exact Go.stp (g' := mkF m (pc + 1) Ls (.int (Int32.ofInt i) :: st)) (fun _ hr => XS.iconst X.here K.1 rfl (hb K.2.2.1 hd) hr) G
theorem g_bipush (K : Cx p s m meth c Z own nm bytes maxL ret) (W : Wd p l e R s m args below meth c n0 T h cs ss) {i : Int} {v : Int32} (hd : decode bytes pc = .ok (.bipush i, 2)) (hv : (Int8.ofInt i).toInt32 = v) (hp : pc + 2 = pc') (G : Go p e below s n0 Q rc rs T (mkF m pc' Ls (.int v :: st))) : Go p e below s n0 Q rc rs T (mkF m pc Ls st) := by
  obtain ⟨_, X, -⟩ := W; subst hp hv
  exact Go.stp (g' := mkF m (pc + 2) Ls (.int ((Int8.ofInt i).toInt32) :: st)) (fun _ hr => XS.bipush X.here K.1 rfl (hb K.2.2.1 hd) hr) G
theorem g_sipush (K : Cx p s m meth c Z own nm bytes maxL ret) (W : Wd p l e R s m args below meth c n0 T h cs ss) {i : Int} {v : Int32} (hd : decode bytes pc = .ok (.sipush i, 3)) (hv : (Int16.ofInt i).toInt32 = v) (hp : pc + 3 = pc') (G : Go p e below s n0 Q rc rs T (mkF m pc' Ls (.int v :: st))) : Go p e below s n0 Q rc rs T (mkF m pc Ls st) := by
  obtain ⟨_, X, -⟩ := W; subst hp hv
  exact Go.stp (g' := mkF m (pc + 3) Ls (.int ((Int16.ofInt i).toInt32) :: st)) (fun _ hr => XS.sipush X.here K.1 rfl (hb K.2.2.1 hd) hr) G
theorem g_lconst (K : Cx p s m meth c Z own nm bytes maxL ret) (W : Wd p l e R s m args below meth c n0 T h cs ss) {k : Fin 2} {v : Int64} (hd : decode bytes pc = .ok (.lconst k, 1)) (hv : Int64.ofNat k = v) (hp : pc + 1 = pc') (G : Go p e below s n0 Q rc rs T (mkF m pc' Ls (.long v :: st))) : Go p e below s n0 Q rc rs T (mkF m pc Ls st) := by
  obtain ⟨_, X, -⟩ := W; subst hp hv
  exact Go.stp (g' := mkF m (pc + 1) Ls (.long (Int64.ofNat k) :: st)) (fun _ hr => XS.lconst X.here K.1 rfl (hb K.2.2.1 hd) hr) G
theorem g_null (K : Cx p s m meth c Z own nm bytes maxL ret) (W : Wd p l e R s m args below meth c n0 T h cs ss) (hd : decode bytes pc = .ok (.aconst_null, 1)) (hp : pc + 1 = pc') (G : Go p e below s n0 Q rc rs T (mkF m pc' Ls (.null :: st))) : Go p e below s n0 Q rc rs T (mkF m pc Ls st) := by
  obtain ⟨_, X, -⟩ := W; subst hp
  exact Go.stp (g' := mkF m (pc + 1) Ls (.null :: st)) (fun _ hr => XS.aconstNull X.here K.1 rfl (hb K.2.2.1 hd) hr) G
theorem g_ldc (K : Cx p s m meth c Z own nm bytes maxL ret) (W : Wd p l e R s m args below meth c n0 T h cs ss) {index : Nat} {v : Int32} (w : (Jvm.Cond.constant own index v).before a0 Z = true) (hd : decode bytes pc = .ok (.ldc index, 2)) (hp : pc + 2 = pc') (G : Go p e below s n0 Q rc rs T (mkF m pc' Ls (.int v :: st))) : Go p e below s n0 Q rc rs T (mkF m pc Ls st) := by
  obtain ⟨_, X, -⟩ := W; subst hp
  exact Go.stp (g' := mkF m (pc + 2) Ls (.int v :: st)) (X.ldcInt K.1 K.2.2.2.2.1 (mvT K.2.1 w) (g := mkF m pc Ls st) rfl (hb K.2.2.1 hd)) G
theorem g_ldc2 (K : Cx p s m meth c Z own nm bytes maxL ret) (W : Wd p l e R s m args below meth c n0 T h cs ss) {index : Nat} {v : Int64} (w : (Jvm.Cond.constantLong own index v).before a0 Z = true) (hd : decode bytes pc = .ok (.ldc2_w index, 3)) (hp : pc + 3 = pc') (G : Go p e below s n0 Q rc rs T (mkF m pc' Ls (.long v :: st))) : Go p e below s n0 Q rc rs T (mkF m pc Ls st) := by
  obtain ⟨_, X, -⟩ := W; subst hp
  exact Go.stp (g' := mkF m (pc + 3) Ls (.long v :: st)) (X.ldc2Long K.1 K.2.2.2.2.1 (mvT K.2.1 w) (g := mkF m pc Ls st) rfl (hb K.2.2.1 hd)) G
theorem g_iadd (K : Cx p s m meth c Z own nm bytes maxL ret) (W : Wd p l e R s m args below meth c n0 T h cs ss) {x y : Int32} (hd : decode bytes pc = .ok (.iadd, 1)) (hp : pc + 1 = pc') (G : Go p e below s n0 Q rc rs T (mkF m pc' Ls (.int (x + y) :: st))) : Go p e below s n0 Q rc rs T (mkF m pc Ls (.int y :: .int x :: st)) := by
  obtain ⟨_, X, -⟩ := W; subst hp
  exact Go.stp (g' := mkF m (pc + 1) Ls (.int (x + y) :: st)) (fun _ hr => XS.iadd X.here K.1 rfl (hb K.2.2.1 hd) rfl hr) G
theorem g_isub (K : Cx p s m meth c Z own nm bytes maxL ret) (W : Wd p l e R s m args below meth c n0 T h cs ss) {x y : Int32} (hd : decode bytes pc = .ok (.isub, 1)) (hp : pc + 1 = pc') (G : Go p e below s n0 Q rc rs T (mkF m pc' Ls (.int (x - y) :: st))) : Go p e below s n0 Q rc rs T (mkF m pc Ls (.int y :: .int x :: st)) := by
  obtain ⟨_, X, -⟩ := W; subst hp
  exact Go.stp (g' := mkF m (pc + 1) Ls (.int (x - y) :: st)) (fun _ hr => XS.isub X.here K.1 rfl (hb K.2.2.1 hd) rfl hr) G
theorem g_imul (K : Cx p s m meth c Z own nm bytes maxL ret) (W : Wd p l e R s m args below meth c n0 T h cs ss) {x y : Int32} (hd : decode bytes pc = .ok (.imul, 1)) (hp : pc + 1 = pc') (G : Go p e below s n0 Q rc rs T (mkF m pc' Ls (.int (x * y) :: st))) : Go p e below s n0 Q rc rs T (mkF m pc Ls (.int y :: .int x :: st)) := by
  obtain ⟨_, X, -⟩ := W; subst hp
  exact Go.stp (g' := mkF m (pc + 1) Ls (.int (x * y) :: st)) (fun _ hr => XS.imul X.here K.1 rfl (hb K.2.2.1 hd) rfl hr) G
theorem g_iand (K : Cx p s m meth c Z own nm bytes maxL ret) (W : Wd p l e R s m args below meth c n0 T h cs ss) {x y : Int32} (hd : decode bytes pc = .ok (.iand, 1)) (hp : pc + 1 = pc') (G : Go p e below s n0 Q rc rs T (mkF m pc' Ls (.int (x &&& y) :: st))) : Go p e below s n0 Q rc rs T (mkF m pc Ls (.int y :: .int x :: st)) := by
  obtain ⟨_, X, -⟩ := W; subst hp
  exact Go.stp (g' := mkF m (pc + 1) Ls (.int (x &&& y) :: st)) (fun _ hr => XS.iand X.here K.1 rfl (hb K.2.2.1 hd) rfl hr) G
theorem g_ior (K : Cx p s m meth c Z own nm bytes maxL ret) (W : Wd p l e R s m args below meth c n0 T h cs ss) {x y : Int32} (hd : decode bytes pc = .ok (.ior, 1)) (hp : pc + 1 = pc') (G : Go p e below s n0 Q rc rs T (mkF m pc' Ls (.int (x ||| y) :: st))) : Go p e below s n0 Q rc rs T (mkF m pc Ls (.int y :: .int x :: st)) := by
  obtain ⟨_, X, -⟩ := W; subst hp
  exact Go.stp (g' := mkF m (pc + 1) Ls (.int (x ||| y) :: st)) (fun _ hr => XS.ior X.here K.1 rfl (hb K.2.2.1 hd) rfl hr) G
theorem g_ixor (K : Cx p s m meth c Z own nm bytes maxL ret) (W : Wd p l e R s m args below meth c n0 T h cs ss) {x y : Int32} (hd : decode bytes pc = .ok (.ixor, 1)) (hp : pc + 1 = pc') (G : Go p e below s n0 Q rc rs T (mkF m pc' Ls (.int (x ^^^ y) :: st))) : Go p e below s n0 Q rc rs T (mkF m pc Ls (.int y :: .int x :: st)) := by
  obtain ⟨_, X, -⟩ := W; subst hp
  exact Go.stp (g' := mkF m (pc + 1) Ls (.int (x ^^^ y) :: st)) (fun _ hr => XS.ixor X.here K.1 rfl (hb K.2.2.1 hd) rfl hr) G
theorem g_ishl (K : Cx p s m meth c Z own nm bytes maxL ret) (W : Wd p l e R s m args below meth c n0 T h cs ss) {x y : Int32} (hd : decode bytes pc = .ok (.ishl, 1)) (hp : pc + 1 = pc') (G : Go p e below s n0 Q rc rs T (mkF m pc' Ls (.int (x <<< (y &&& 31)) :: st))) : Go p e below s n0 Q rc rs T (mkF m pc Ls (.int y :: .int x :: st)) := by
  obtain ⟨_, X, -⟩ := W; subst hp
  exact Go.stp (g' := mkF m (pc + 1) Ls (.int (x <<< (y &&& 31)) :: st)) (fun _ hr => XS.ishl X.here K.1 rfl (hb K.2.2.1 hd) rfl hr) G
theorem g_ishr (K : Cx p s m meth c Z own nm bytes maxL ret) (W : Wd p l e R s m args below meth c n0 T h cs ss) {x y : Int32} (hd : decode bytes pc = .ok (.ishr, 1)) (hp : pc + 1 = pc') (G : Go p e below s n0 Q rc rs T (mkF m pc' Ls (.int (x >>> (y &&& 31)) :: st))) : Go p e below s n0 Q rc rs T (mkF m pc Ls (.int y :: .int x :: st)) := by
  obtain ⟨_, X, -⟩ := W; subst hp
  exact Go.stp (g' := mkF m (pc + 1) Ls (.int (x >>> (y &&& 31)) :: st)) (fun _ hr => XS.ishr X.here K.1 rfl (hb K.2.2.1 hd) rfl hr) G
theorem g_iushr (K : Cx p s m meth c Z own nm bytes maxL ret) (W : Wd p l e R s m args below meth c n0 T h cs ss) {x y : Int32} (hd : decode bytes pc = .ok (.iushr, 1)) (hp : pc + 1 = pc') (G : Go p e below s n0 Q rc rs T (mkF m pc' Ls (.int ((x.toUInt32 >>> (y &&& 31).toUInt32).toInt32) :: st))) : Go p e below s n0 Q rc rs T (mkF m pc Ls (.int y :: .int x :: st)) := by
  obtain ⟨_, X, -⟩ := W; subst hp
  exact Go.stp (g' := mkF m (pc + 1) Ls (.int ((x.toUInt32 >>> (y &&& 31).toUInt32).toInt32) :: st)) (fun _ hr => XS.iushr X.here K.1 rfl (hb K.2.2.1 hd) rfl hr) G
theorem g_idiv (K : Cx p s m meth c Z own nm bytes maxL ret) (W : Wd p l e R s m args below meth c n0 T h cs ss) {x y : Int32} (hy : y ≠ 0) (hd : decode bytes pc = .ok (.idiv, 1)) (hp : pc + 1 = pc') (G : Go p e below s n0 Q rc rs T (mkF m pc' Ls (.int (x / y) :: st))) : Go p e below s n0 Q rc rs T (mkF m pc Ls (.int y :: .int x :: st)) := by
  obtain ⟨_, X, -⟩ := W; subst hp
  exact Go.stp (g' := mkF m (pc + 1) Ls (.int (x / y) :: st)) (fun _ hr => XS.idiv X.here K.1 rfl (hb K.2.2.1 hd) rfl hy hr) G
theorem g_irem (K : Cx p s m meth c Z own nm bytes maxL ret) (W : Wd p l e R s m args below meth c n0 T h cs ss) {x y : Int32} (hy : y ≠ 0) (hd : decode bytes pc = .ok (.irem, 1)) (hp : pc + 1 = pc') (G : Go p e below s n0 Q rc rs T (mkF m pc' Ls (.int (x % y) :: st))) : Go p e below s n0 Q rc rs T (mkF m pc Ls (.int y :: .int x :: st)) := by
  obtain ⟨_, X, -⟩ := W; subst hp
  exact Go.stp (g' := mkF m (pc + 1) Ls (.int (x % y) :: st)) (fun _ hr => iremM X K.1 rfl (hb K.2.2.1 hd) rfl hy hr) G
theorem g_ladd (K : Cx p s m meth c Z own nm bytes maxL ret) (W : Wd p l e R s m args below meth c n0 T h cs ss) {x y : Int64} (hd : decode bytes pc = .ok (.ladd, 1)) (hp : pc + 1 = pc') (G : Go p e below s n0 Q rc rs T (mkF m pc' Ls (.long (x + y) :: st))) : Go p e below s n0 Q rc rs T (mkF m pc Ls (.long y :: .long x :: st)) := by
  obtain ⟨_, X, -⟩ := W; subst hp
  exact Go.stp (g' := mkF m (pc + 1) Ls (.long (x + y) :: st)) (fun _ hr => XS.ladd X.here K.1 rfl (hb K.2.2.1 hd) rfl hr) G
theorem g_lsub (K : Cx p s m meth c Z own nm bytes maxL ret) (W : Wd p l e R s m args below meth c n0 T h cs ss) {x y : Int64} (hd : decode bytes pc = .ok (.lsub, 1)) (hp : pc + 1 = pc') (G : Go p e below s n0 Q rc rs T (mkF m pc' Ls (.long (x - y) :: st))) : Go p e below s n0 Q rc rs T (mkF m pc Ls (.long y :: .long x :: st)) := by
  obtain ⟨_, X, -⟩ := W; subst hp
  exact Go.stp (g' := mkF m (pc + 1) Ls (.long (x - y) :: st)) (fun _ hr => XS.lsub X.here K.1 rfl (hb K.2.2.1 hd) rfl hr) G
theorem g_lmul (K : Cx p s m meth c Z own nm bytes maxL ret) (W : Wd p l e R s m args below meth c n0 T h cs ss) {x y : Int64} (hd : decode bytes pc = .ok (.lmul, 1)) (hp : pc + 1 = pc') (G : Go p e below s n0 Q rc rs T (mkF m pc' Ls (.long (x * y) :: st))) : Go p e below s n0 Q rc rs T (mkF m pc Ls (.long y :: .long x :: st)) := by
  obtain ⟨_, X, -⟩ := W; subst hp
  exact Go.stp (g' := mkF m (pc + 1) Ls (.long (x * y) :: st)) (fun _ hr => XS.lmul X.here K.1 rfl (hb K.2.2.1 hd) rfl hr) G
theorem g_land (K : Cx p s m meth c Z own nm bytes maxL ret) (W : Wd p l e R s m args below meth c n0 T h cs ss) {x y : Int64} (hd : decode bytes pc = .ok (.land, 1)) (hp : pc + 1 = pc') (G : Go p e below s n0 Q rc rs T (mkF m pc' Ls (.long (x &&& y) :: st))) : Go p e below s n0 Q rc rs T (mkF m pc Ls (.long y :: .long x :: st)) := by
  obtain ⟨_, X, -⟩ := W; subst hp
  exact Go.stp (g' := mkF m (pc + 1) Ls (.long (x &&& y) :: st)) (fun _ hr => XS.land X.here K.1 rfl (hb K.2.2.1 hd) rfl hr) G
theorem g_lor (K : Cx p s m meth c Z own nm bytes maxL ret) (W : Wd p l e R s m args below meth c n0 T h cs ss) {x y : Int64} (hd : decode bytes pc = .ok (.lor, 1)) (hp : pc + 1 = pc') (G : Go p e below s n0 Q rc rs T (mkF m pc' Ls (.long (x ||| y) :: st))) : Go p e below s n0 Q rc rs T (mkF m pc Ls (.long y :: .long x :: st)) := by
  obtain ⟨_, X, -⟩ := W; subst hp
  exact Go.stp (g' := mkF m (pc + 1) Ls (.long (x ||| y) :: st)) (fun _ hr => XS.lor X.here K.1 rfl (hb K.2.2.1 hd) rfl hr) G
theorem g_lxor (K : Cx p s m meth c Z own nm bytes maxL ret) (W : Wd p l e R s m args below meth c n0 T h cs ss) {x y : Int64} (hd : decode bytes pc = .ok (.lxor, 1)) (hp : pc + 1 = pc') (G : Go p e below s n0 Q rc rs T (mkF m pc' Ls (.long (x ^^^ y) :: st))) : Go p e below s n0 Q rc rs T (mkF m pc Ls (.long y :: .long x :: st)) := by
  obtain ⟨_, X, -⟩ := W; subst hp
  exact Go.stp (g' := mkF m (pc + 1) Ls (.long (x ^^^ y) :: st)) (fun _ hr => XS.lxor X.here K.1 rfl (hb K.2.2.1 hd) rfl hr) G
theorem g_lshl (K : Cx p s m meth c Z own nm bytes maxL ret) (W : Wd p l e R s m args below meth c n0 T h cs ss) {x : Int64} {y : Int32} (hd : decode bytes pc = .ok (.lshl, 1)) (hp : pc + 1 = pc') (G : Go p e below s n0 Q rc rs T (mkF m pc' Ls (.long (x <<< (y &&& 0x3f).toInt64) :: st))) : Go p e below s n0 Q rc rs T (mkF m pc Ls (.int y :: .long x :: st)) := by
  obtain ⟨_, X, -⟩ := W; subst hp
  exact Go.stp (g' := mkF m (pc + 1) Ls (.long (x <<< (y &&& 0x3f).toInt64) :: st)) (fun _ hr => XS.lshl X.here K.1 rfl (hb K.2.2.1 hd) rfl hr) G
theorem g_lshr (K : Cx p s m meth c Z own nm bytes maxL ret) (W : Wd p l e R s m args below meth c n0 T h cs ss) {x : Int64} {y : Int32} (hd : decode bytes pc = .ok (.lshr, 1)) (hp : pc + 1 = pc') (G : Go p e below s n0 Q rc rs T (mkF m pc' Ls (.long (x >>> (y &&& 0x3f).toInt64) :: st))) : Go p e below s n0 Q rc rs T (mkF m pc Ls (.int y :: .long x :: st)) := by
  obtain ⟨_, X, -⟩ := W; subst hp
  exact Go.stp (g' := mkF m (pc + 1) Ls (.long (x >>> (y &&& 0x3f).toInt64) :: st)) (fun _ hr => XS.lshr X.here K.1 rfl (hb K.2.2.1 hd) rfl hr) G
theorem g_lushr (K : Cx p s m meth c Z own nm bytes maxL ret) (W : Wd p l e R s m args below meth c n0 T h cs ss) {x : Int64} {y : Int32} (hd : decode bytes pc = .ok (.lushr, 1)) (hp : pc + 1 = pc') (G : Go p e below s n0 Q rc rs T (mkF m pc' Ls (.long ((x.toUInt64 >>> (y &&& 0x3f).toInt64.toUInt64).toInt64) :: st))) : Go p e below s n0 Q rc rs T (mkF m pc Ls (.int y :: .long x :: st)) := by
  obtain ⟨_, X, -⟩ := W; subst hp
  exact Go.stp (g' := mkF m (pc + 1) Ls (.long ((x.toUInt64 >>> (y &&& 0x3f).toInt64.toUInt64).toInt64) :: st)) (fun _ hr => XS.lushr X.here K.1 rfl (hb K.2.2.1 hd) rfl hr) G
theorem g_ldiv (K : Cx p s m meth c Z own nm bytes maxL ret) (W : Wd p l e R s m args below meth c n0 T h cs ss) {x y : Int64} (hy : y ≠ 0) (hd : decode bytes pc = .ok (.ldiv, 1)) (hp : pc + 1 = pc') (G : Go p e below s n0 Q rc rs T (mkF m pc' Ls (.long (x / y) :: st))) : Go p e below s n0 Q rc rs T (mkF m pc Ls (.long y :: .long x :: st)) := by
  obtain ⟨_, X, -⟩ := W; subst hp
  exact Go.stp (g' := mkF m (pc + 1) Ls (.long (x / y) :: st)) (fun _ hr => XS.ldiv X.here K.1 rfl (hb K.2.2.1 hd) rfl hy hr) G
theorem g_lrem (K : Cx p s m meth c Z own nm bytes maxL ret) (W : Wd p l e R s m args below meth c n0 T h cs ss) {x y : Int64} (hy : y ≠ 0) (hd : decode bytes pc = .ok (.lrem, 1)) (hp : pc + 1 = pc') (G : Go p e below s n0 Q rc rs T (mkF m pc' Ls (.long (x - (x / y) * y) :: st))) : Go p e below s n0 Q rc rs T (mkF m pc Ls (.long y :: .long x :: st)) := by
  obtain ⟨_, X, -⟩ := W; subst hp
  exact Go.stp (g' := mkF m (pc + 1) Ls (.long (x - (x / y) * y) :: st)) (fun _ hr => XS.lrem X.here K.1 rfl (hb K.2.2.1 hd) rfl hy hr) G
theorem g_ineg (K : Cx p s m meth c Z own nm bytes maxL ret) (W : Wd p l e R s m args below meth c n0 T h cs ss) {x : Int32} (hd : decode bytes pc = .ok (.ineg, 1)) (hp : pc + 1 = pc') (G : Go p e below s n0 Q rc rs T (mkF m pc' Ls (.int (-x) :: st))) : Go p e below s n0 Q rc rs T (mkF m pc Ls (.int x :: st)) := by
  obtain ⟨_, X, -⟩ := W; subst hp
  exact Go.stp (g' := mkF m (pc + 1) Ls (.int (-x) :: st)) (fun _ hr => XS.ineg X.here K.1 rfl (hb K.2.2.1 hd) rfl hr) G
theorem g_i2b (K : Cx p s m meth c Z own nm bytes maxL ret) (W : Wd p l e R s m args below meth c n0 T h cs ss) {x : Int32} (hd : decode bytes pc = .ok (.i2b, 1)) (hp : pc + 1 = pc') (G : Go p e below s n0 Q rc rs T (mkF m pc' Ls (.int (x.toInt8.toInt32) :: st))) : Go p e below s n0 Q rc rs T (mkF m pc Ls (.int x :: st)) := by
  obtain ⟨_, X, -⟩ := W; subst hp
  exact Go.stp (g' := mkF m (pc + 1) Ls (.int (x.toInt8.toInt32) :: st)) (fun _ hr => XS.i2b X.here K.1 rfl (hb K.2.2.1 hd) rfl hr) G
theorem g_i2c (K : Cx p s m meth c Z own nm bytes maxL ret) (W : Wd p l e R s m args below meth c n0 T h cs ss) {x : Int32} (hd : decode bytes pc = .ok (.i2c, 1)) (hp : pc + 1 = pc') (G : Go p e below s n0 Q rc rs T (mkF m pc' Ls (.int (x.toUInt32.toUInt16.toUInt32.toInt32) :: st))) : Go p e below s n0 Q rc rs T (mkF m pc Ls (.int x :: st)) := by
  obtain ⟨_, X, -⟩ := W; subst hp
  exact Go.stp (g' := mkF m (pc + 1) Ls (.int (x.toUInt32.toUInt16.toUInt32.toInt32) :: st)) (fun _ hr => XS.i2c X.here K.1 rfl (hb K.2.2.1 hd) rfl hr) G
theorem g_i2s (K : Cx p s m meth c Z own nm bytes maxL ret) (W : Wd p l e R s m args below meth c n0 T h cs ss) {x : Int32} (hd : decode bytes pc = .ok (.i2s, 1)) (hp : pc + 1 = pc') (G : Go p e below s n0 Q rc rs T (mkF m pc' Ls (.int (x.toInt16.toInt32) :: st))) : Go p e below s n0 Q rc rs T (mkF m pc Ls (.int x :: st)) := by
  obtain ⟨_, X, -⟩ := W; subst hp
  exact Go.stp (g' := mkF m (pc + 1) Ls (.int (x.toInt16.toInt32) :: st)) (fun _ hr => XS.i2s X.here K.1 rfl (hb K.2.2.1 hd) rfl hr) G
theorem g_i2l (K : Cx p s m meth c Z own nm bytes maxL ret) (W : Wd p l e R s m args below meth c n0 T h cs ss) {x : Int32} (hd : decode bytes pc = .ok (.i2l, 1)) (hp : pc + 1 = pc') (G : Go p e below s n0 Q rc rs T (mkF m pc' Ls (.long (x.toInt64) :: st))) : Go p e below s n0 Q rc rs T (mkF m pc Ls (.int x :: st)) := by
  obtain ⟨_, X, -⟩ := W; subst hp
  exact Go.stp (g' := mkF m (pc + 1) Ls (.long (x.toInt64) :: st)) (fun _ hr => XS.i2l X.here K.1 rfl (hb K.2.2.1 hd) rfl hr) G
theorem g_l2i (K : Cx p s m meth c Z own nm bytes maxL ret) (W : Wd p l e R s m args below meth c n0 T h cs ss) {x : Int64} (hd : decode bytes pc = .ok (.l2i, 1)) (hp : pc + 1 = pc') (G : Go p e below s n0 Q rc rs T (mkF m pc' Ls (.int (x.toInt32) :: st))) : Go p e below s n0 Q rc rs T (mkF m pc Ls (.long x :: st)) := by
  obtain ⟨_, X, -⟩ := W; subst hp
  exact Go.stp (g' := mkF m (pc + 1) Ls (.int (x.toInt32) :: st)) (fun _ hr => XS.l2i X.here K.1 rfl (hb K.2.2.1 hd) rfl hr) G
theorem g_lneg (K : Cx p s m meth c Z own nm bytes maxL ret) (W : Wd p l e R s m args below meth c n0 T h cs ss) {x : Int64} (hd : decode bytes pc = .ok (.lneg, 1)) (hp : pc + 1 = pc') (G : Go p e below s n0 Q rc rs T (mkF m pc' Ls (.long (-x) :: st))) : Go p e below s n0 Q rc rs T (mkF m pc Ls (.long x :: st)) := by
  obtain ⟨_, X, -⟩ := W; subst hp
  exact Go.stp (g' := mkF m (pc + 1) Ls (.long (-x) :: st)) (fun _ hr => XS.lneg X.here K.1 rfl (hb K.2.2.1 hd) rfl hr) G
theorem g_iinc (K : Cx p s m meth c Z own nm bytes maxL ret) (W : Wd p l e R s m args below meth c n0 T h cs ss) {k : Nat} {cst : Int} {x : Int32} (hd : decode bytes pc = .ok (.iinc k cst, 3)) (hl : Ls[k]? = some (.val (.int x))) (hl' : storeLocals Ls k (.int (x + Int32.ofInt cst)) = some Ls') (hp : pc + 3 = pc') (G : Go p e below s n0 Q rc rs T (mkF m pc' Ls' st)) : Go p e below s n0 Q rc rs T (mkF m pc Ls st) := by
  obtain ⟨_, X, -⟩ := W; subst hp
  exact Go.stp (g' := mkF m (pc + 3) Ls' st) (fun _ hr => XS.iinc X.here K.1 rfl (hb K.2.2.1 hd) hl hl' hr) G
theorem g_dup (K : Cx p s m meth c Z own nm bytes maxL ret) (W : Wd p l e R s m args below meth c n0 T h cs ss) {x : Value} (hd : decode bytes pc = .ok (.dup, 1)) (hc : x.category = 1) (hp : pc + 1 = pc') (G : Go p e below s n0 Q rc rs T (mkF m pc' Ls (x :: x :: st))) : Go p e below s n0 Q rc rs T (mkF m pc Ls (x :: st)) := by
  obtain ⟨_, X, -⟩ := W; subst hp
  exact Go.stp (g' := mkF m (pc + 1) Ls (x :: x :: st)) (fun _ hr => XS.dup X.here K.1 rfl (hb K.2.2.1 hd) rfl hc hr) G
theorem g_pop (K : Cx p s m meth c Z own nm bytes maxL ret) (W : Wd p l e R s m args below meth c n0 T h cs ss) {x : Value} (hd : decode bytes pc = .ok (.pop, 1)) (hc : x.category = 1) (hp : pc + 1 = pc') (G : Go p e below s n0 Q rc rs T (mkF m pc' Ls st)) : Go p e below s n0 Q rc rs T (mkF m pc Ls (x :: st)) := by
  obtain ⟨_, X, -⟩ := W; subst hp
  exact Go.stp (g' := mkF m (pc + 1) Ls st) (fun _ hr => XS.pop X.here K.1 rfl (hb K.2.2.1 hd) rfl hc hr) G
theorem g_dup_x1 (K : Cx p s m meth c Z own nm bytes maxL ret) (W : Wd p l e R s m args below meth c n0 T h cs ss) {x y : Value} (hd : decode bytes pc = .ok (.dup_x1, 1)) (hc : x.category = 1) (hc2 : y.category = 1) (hp : pc + 1 = pc') (G : Go p e below s n0 Q rc rs T (mkF m pc' Ls (x :: y :: x :: st))) : Go p e below s n0 Q rc rs T (mkF m pc Ls (x :: y :: st)) := by
  obtain ⟨_, X, -⟩ := W; subst hp
  exact Go.stp (g' := mkF m (pc + 1) Ls (x :: y :: x :: st)) (fun _ hr => XS.dupX1 X.here K.1 rfl (hb K.2.2.1 hd) rfl hc hc2 hr) G
theorem g_dup2 (K : Cx p s m meth c Z own nm bytes maxL ret) (W : Wd p l e R s m args below meth c n0 T h cs ss) {x y : Value} (hd : decode bytes pc = .ok (.dup2, 1)) (hc : x.category = 1) (hc2 : y.category = 1) (hp : pc + 1 = pc') (G : Go p e below s n0 Q rc rs T (mkF m pc' Ls (x :: y :: x :: y :: st))) : Go p e below s n0 Q rc rs T (mkF m pc Ls (x :: y :: st)) := by
  obtain ⟨_, X, -⟩ := W; subst hp
  exact Go.stp (g' := mkF m (pc + 1) Ls (x :: y :: x :: y :: st)) (fun _ hr => XT.dup2 X.here K.1 rfl (hb K.2.2.1 hd) rfl hc hc2 hr) G
theorem g_dup2L (K : Cx p s m meth c Z own nm bytes maxL ret) (W : Wd p l e R s m args below meth c n0 T h cs ss) {x : Int64} (hd : decode bytes pc = .ok (.dup2, 1)) (hp : pc + 1 = pc') (G : Go p e below s n0 Q rc rs T (mkF m pc' Ls (.long x :: .long x :: st))) : Go p e below s n0 Q rc rs T (mkF m pc Ls (.long x :: st)) := by
  obtain ⟨_, X, -⟩ := W; subst hp
  exact Go.stp (g' := mkF m (pc + 1) Ls (.long x :: .long x :: st)) (fun _ hr => XT.dup2L X.here K.1 rfl (hb K.2.2.1 hd) rfl hr) G
theorem own_jmp {o : Int} (ht : (pc : Int) + o = (pt : Int)) : 0 ≤ (pc : Int) + o ∧ ((pc : Int) + o).toNat = pt := by omega
theorem g_goto (K : Cx p s m meth c Z own nm bytes maxL ret) (W : Wd p l e R s m args below meth c n0 T h cs ss) {o : Int} (hd : decode bytes pc = .ok (.goto o, 3)) (ht : (pc : Int) + o = (pt : Int)) (G : Go p e below s n0 Q rc rs T (mkF m pt Ls st)) : Go p e below s n0 Q rc rs T (mkF m pc Ls st) := by
  obtain ⟨_, X, -⟩ := W
  exact Go.stp (g' := mkF m pt Ls st) (fun _ hr => XS.goto X.here K.1 rfl (pc0 := pc) rfl (hb K.2.2.1 hd) (own_jmp ht).1 (own_jmp ht).2 hr) G
theorem g_icmp_eq (K : Cx p s m meth c Z own nm bytes maxL ret) (W : Wd p l e R s m args below meth c n0 T h cs ss) {x y : Int32} {o : Int} (hd : decode bytes pc = .ok (.if_icmp .eq o, 3)) (ht : (pc : Int) + o = (pt : Int)) (hp : pc + 3 = pf) (Gp : x = y → Go p e below s n0 Q rc rs T (mkF m pt Ls st)) (Gn : ¬ (x = y) → Go p e below s n0 Q rc rs T (mkF m pf Ls st)) : Go p e below s n0 Q rc rs T (mkF m pc Ls (.int y :: .int x :: st)) := by
  obtain ⟨_, X, -⟩ := W; subst hp
  by_cases q : x = y
  · exact Go.stp (g' := mkF m pt Ls st) (fun _ hr => XS.icmpYes X.here K.1 rfl (pc0 := pc) rfl (hb K.2.2.1 hd) rfl (Jvm.Free.XT.ii_eq_t q) (own_jmp ht).1 (own_jmp ht).2 hr) (Gp q)
  · exact Go.stp (g' := mkF m (pc + 3) Ls st) (fun _ hr => XS.icmpNo X.here K.1 rfl (hb K.2.2.1 hd) rfl (Jvm.Free.XT.ii_eq_f q) hr) (Gn q)
theorem g_if_eq (K : Cx p s m meth c Z own nm bytes maxL ret) (W : Wd p l e R s m args below meth c n0 T h cs ss) {x : Int32} {o : Int} (hd : decode bytes pc = .ok (.ifCond .eq o, 3)) (ht : (pc : Int) + o = (pt : Int)) (hp : pc + 3 = pf) (Gp : x = 0 → Go p e below s n0 Q rc rs T (mkF m pt Ls st)) (Gn : ¬ (x = 0) → Go p e below s n0 Q rc rs T (mkF m pf Ls st)) : Go p e below s n0 Q rc rs T (mkF m pc Ls (.int x :: st)) := by
  obtain ⟨_, X, -⟩ := W; subst hp
  by_cases q : x = 0
  · exact Go.stp (g' := mkF m pt Ls st) (fun _ hr => XS.ifYes X.here K.1 rfl (pc0 := pc) rfl (hb K.2.2.1 hd) rfl (Jvm.Free.XT.i0_eq_t q) (own_jmp ht).1 (own_jmp ht).2 hr) (Gp q)
  · exact Go.stp (g' := mkF m (pc + 3) Ls st) (fun _ hr => XS.ifNo X.here K.1 rfl (hb K.2.2.1 hd) rfl (Jvm.Free.XT.i0_eq_f q) hr) (Gn q)
theorem g_lcmp_eq (K : Cx p s m meth c Z own nm bytes maxL ret) (W : Wd p l e R s m args below meth c n0 T h cs ss) {x y : Int64} {o : Int} {pc1 : Nat} (hd0 : decode bytes pc = .ok (.lcmp, 1)) (hp0 : pc + 1 = pc1) (hd : decode bytes pc1 = .ok (.ifCond .eq o, 3)) (ht : (pc1 : Int) + o = (pt : Int)) (hp : pc1 + 3 = pf) (Gp : x = y → Go p e below s n0 Q rc rs T (mkF m pt Ls st)) (Gn : ¬ (x = y) → Go p e below s n0 Q rc rs T (mkF m pf Ls st)) : Go p e below s n0 Q rc rs T (mkF m pc Ls (.long y :: .long x :: st)) := by
  obtain ⟨_, X, -⟩ := W; subst hp hp0
  refine Go.stp (g' := mkF m (pc + 1) Ls (.int (Jvm.Free.XT.cmpL x y) :: st)) (fun _ hr => XS.lcmp X.here K.1 rfl (hb K.2.2.1 hd0) rfl hr) ?_
  by_cases q : x = y
  · exact Go.stp (g' := mkF m pt Ls st) (fun _ hr => XS.ifYes X.here K.1 rfl (pc0 := pc + 1) rfl (hb K.2.2.1 hd) rfl (Jvm.Free.XT.ll_eq_t q) (own_jmp ht).1 (own_jmp ht).2 hr) (Gp q)
  · exact Go.stp (g' := mkF m (pc + 1 + 3) Ls st) (fun _ hr => XS.ifNo X.here K.1 rfl (hb K.2.2.1 hd) rfl (Jvm.Free.XT.ll_eq_f q) hr) (Gn q)
theorem g_icmp_ne (K : Cx p s m meth c Z own nm bytes maxL ret) (W : Wd p l e R s m args below meth c n0 T h cs ss) {x y : Int32} {o : Int} (hd : decode bytes pc = .ok (.if_icmp .ne o, 3)) (ht : (pc : Int) + o = (pt : Int)) (hp : pc + 3 = pf) (Gp : x = y → Go p e below s n0 Q rc rs T (mkF m pf Ls st)) (Gn : ¬ (x = y) → Go p e below s n0 Q rc rs T (mkF m pt Ls st)) : Go p e below s n0 Q rc rs T (mkF m pc Ls (.int y :: .int x :: st)) := by
  obtain ⟨_, X, -⟩ := W; subst hp
  by_cases q : x = y
  · exact Go.stp (g' := mkF m (pc + 3) Ls st) (fun _ hr => XS.icmpNo X.here K.1 rfl (hb K.2.2.1 hd) rfl (Jvm.Free.XT.ii_ne_f q) hr) (Gp q)
  · exact Go.stp (g' := mkF m pt Ls st) (fun _ hr => XS.icmpYes X.here K.1 rfl (pc0 := pc) rfl (hb K.2.2.1 hd) rfl (Jvm.Free.XT.ii_ne_t q) (own_jmp ht).1 (own_jmp ht).2 hr) (Gn q)
theorem g_if_ne (K : Cx p s m meth c Z own nm bytes maxL ret) (W : Wd p l e R s m args below meth c n0 T h cs ss) {x : Int32} {o : Int} (hd : decode bytes pc = .ok (.ifCond .ne o, 3)) (ht : (pc : Int) + o = (pt : Int)) (hp : pc + 3 = pf) (Gp : x = 0 → Go p e below s n0 Q rc rs T (mkF m pf Ls st)) (Gn : ¬ (x = 0) → Go p e below s n0 Q rc rs T (mkF m pt Ls st)) : Go p e below s n0 Q rc rs T (mkF m pc Ls (.int x :: st)) := by
  obtain ⟨_, X, -⟩ := W; subst hp
  by_cases q : x = 0
  · exact Go.stp (g' := mkF m (pc + 3) Ls st) (fun _ hr => XS.ifNo X.here K.1 rfl (hb K.2.2.1 hd) rfl (Jvm.Free.XT.i0_ne_f q) hr) (Gp q)
  · exact Go.stp (g' := mkF m pt Ls st) (fun _ hr => XS.ifYes X.here K.1 rfl (pc0 := pc) rfl (hb K.2.2.1 hd) rfl (Jvm.Free.XT.i0_ne_t q) (own_jmp ht).1 (own_jmp ht).2 hr) (Gn q)
theorem g_lcmp_ne (K : Cx p s m meth c Z own nm bytes maxL ret) (W : Wd p l e R s m args below meth c n0 T h cs ss) {x y : Int64} {o : Int} {pc1 : Nat} (hd0 : decode bytes pc = .ok (.lcmp, 1)) (hp0 : pc + 1 = pc1) (hd : decode bytes pc1 = .ok (.ifCond .ne o, 3)) (ht : (pc1 : Int) + o = (pt : Int)) (hp : pc1 + 3 = pf) (Gp : x = y → Go p e below s n0 Q rc rs T (mkF m pf Ls st)) (Gn : ¬ (x = y) → Go p e below s n0 Q rc rs T (mkF m pt Ls st)) : Go p e below s n0 Q rc rs T (mkF m pc Ls (.long y :: .long x :: st)) := by
  obtain ⟨_, X, -⟩ := W; subst hp hp0
  refine Go.stp (g' := mkF m (pc + 1) Ls (.int (Jvm.Free.XT.cmpL x y) :: st)) (fun _ hr => XS.lcmp X.here K.1 rfl (hb K.2.2.1 hd0) rfl hr) ?_
  by_cases q : x = y
  · exact Go.stp (g' := mkF m (pc + 1 + 3) Ls st) (fun _ hr => XS.ifNo X.here K.1 rfl (hb K.2.2.1 hd) rfl (Jvm.Free.XT.ll_ne_f q) hr) (Gp q)
  · exact Go.stp (g' := mkF m pt Ls st) (fun _ hr => XS.ifYes X.here K.1 rfl (pc0 := pc + 1) rfl (hb K.2.2.1 hd) rfl (Jvm.Free.XT.ll_ne_t q) (own_jmp ht).1 (own_jmp ht).2 hr) (Gn q)
theorem g_icmp_lt (K : Cx p s m meth c Z own nm bytes maxL ret) (W : Wd p l e R s m args below meth c n0 T h cs ss) {x y : Int32} {o : Int} (hd : decode bytes pc = .ok (.if_icmp .lt o, 3)) (ht : (pc : Int) + o = (pt : Int)) (hp : pc + 3 = pf) (Gp : x < y → Go p e below s n0 Q rc rs T (mkF m pt Ls st)) (Gn : ¬ (x < y) → Go p e below s n0 Q rc rs T (mkF m pf Ls st)) : Go p e below s n0 Q rc rs T (mkF m pc Ls (.int y :: .int x :: st)) := by
  obtain ⟨_, X, -⟩ := W; subst hp
  by_cases q : x < y
  · exact Go.stp (g' := mkF m pt Ls st) (fun _ hr => XS.icmpYes X.here K.1 rfl (pc0 := pc) rfl (hb K.2.2.1 hd) rfl (Jvm.Free.XT.ii_lt_t q) (own_jmp ht).1 (own_jmp ht).2 hr) (Gp q)
  · exact Go.stp (g' := mkF m (pc + 3) Ls st) (fun _ hr => XS.icmpNo X.here K.1 rfl (hb K.2.2.1 hd) rfl (Jvm.Free.XT.ii_lt_f q) hr) (Gn q)
theorem g_if_lt (K : Cx p s m meth c Z own nm bytes maxL ret) (W : Wd p l e R s m args below meth c n0 T h cs ss) {x : Int32} {o : Int} (hd : decode bytes pc = .ok (.ifCond .lt o, 3)) (ht : (pc : Int) + o = (pt : Int)) (hp : pc + 3 = pf) (Gp : x < 0 → Go p e below s n0 Q rc rs T (mkF m pt Ls st)) (Gn : ¬ (x < 0) → Go p e below s n0 Q rc rs T (mkF m pf Ls st)) : Go p e below s n0 Q rc rs T (mkF m pc Ls (.int x :: st)) := by
  obtain ⟨_, X, -⟩ := W; subst hp
  by_cases q : x < 0
  · exact Go.stp (g' := mkF m pt Ls st) (fun _ hr => XS.ifYes X.here K.1 rfl (pc0 := pc) rfl (hb K.2.2.1 hd) rfl (Jvm.Free.XT.i0_lt_t q) (own_jmp ht).1 (own_jmp ht).2 hr) (Gp q)
  · exact Go.stp (g' := mkF m (pc + 3) Ls st) (fun _ hr => XS.ifNo X.here K.1 rfl (hb K.2.2.1 hd) rfl (Jvm.Free.XT.i0_lt_f q) hr) (Gn q)
theorem g_lcmp_lt (K : Cx p s m meth c Z own nm bytes maxL ret) (W : Wd p l e R s m args below meth c n0 T h cs ss) {x y : Int64} {o : Int} {pc1 : Nat} (hd0 : decode bytes pc = .ok (.lcmp, 1)) (hp0 : pc + 1 = pc1) (hd : decode bytes pc1 = .ok (.ifCond .lt o, 3)) (ht : (pc1 : Int) + o = (pt : Int)) (hp : pc1 + 3 = pf) (Gp : x < y → Go p e below s n0 Q rc rs T (mkF m pt Ls st)) (Gn : ¬ (x < y) → Go p e below s n0 Q rc rs T (mkF m pf Ls st)) : Go p e below s n0 Q rc rs T (mkF m pc Ls (.long y :: .long x :: st)) := by
  obtain ⟨_, X, -⟩ := W; subst hp hp0
  refine Go.stp (g' := mkF m (pc + 1) Ls (.int (Jvm.Free.XT.cmpL x y) :: st)) (fun _ hr => XS.lcmp X.here K.1 rfl (hb K.2.2.1 hd0) rfl hr) ?_
  by_cases q : x < y
  · exact Go.stp (g' := mkF m pt Ls st) (fun _ hr => XS.ifYes X.here K.1 rfl (pc0 := pc + 1) rfl (hb K.2.2.1 hd) rfl (Jvm.Free.XT.ll_lt_t q) (own_jmp ht).1 (own_jmp ht).2 hr) (Gp q)
  · exact Go.stp (g' := mkF m (pc + 1 + 3) Ls st) (fun _ hr => XS.ifNo X.here K.1 rfl (hb K.2.2.1 hd) rfl (Jvm.Free.XT.ll_lt_f q) hr) (Gn q)
theorem g_icmp_ge (K : Cx p s m meth c Z own nm bytes maxL ret) (W : Wd p l e R s m args below meth c n0 T h cs ss) {x y : Int32} {o : Int} (hd : decode bytes pc = .ok (.if_icmp .ge o, 3)) (ht : (pc : Int) + o = (pt : Int)) (hp : pc + 3 = pf) (Gp : x < y → Go p e below s n0 Q rc rs T (mkF m pf Ls st)) (Gn : ¬ (x < y) → Go p e below s n0 Q rc rs T (mkF m pt Ls st)) : Go p e below s n0 Q rc rs T (mkF m pc Ls (.int y :: .int x :: st)) := by
  obtain ⟨_, X, -⟩ := W; subst hp
  by_cases q : x < y
  · exact Go.stp (g' := mkF m (pc + 3) Ls st) (fun _ hr => XS.icmpNo X.here K.1 rfl (hb K.2.2.1 hd) rfl (Jvm.Free.XT.ii_ge_f q) hr) (Gp q)
  · exact Go.stp (g' := mkF m pt Ls st) (fun _ hr => XS.icmpYes X.here K.1 rfl (pc0 := pc) rfl (hb K.2.2.1 hd) rfl (Jvm.Free.XT.ii_ge_t q) (own_jmp ht).1 (own_jmp ht).2 hr) (Gn q)
theorem g_if_ge (K : Cx p s m meth c Z own nm bytes maxL ret) (W : Wd p l e R s m args below meth c n0 T h cs ss) {x : Int32} {o : Int} (hd : decode bytes pc = .ok (.ifCond .ge o, 3)) (ht : (pc : Int) + o = (pt : Int)) (hp : pc + 3 = pf) (Gp : x < 0 → Go p e below s n0 Q rc rs T (mkF m pf Ls st)) (Gn : ¬ (x < 0) → Go p e below s n0 Q rc rs T (mkF m pt Ls st)) : Go p e below s n0 Q rc rs T (mkF m pc Ls (.int x :: st)) := by
  obtain ⟨_, X, -⟩ := W; subst hp
  by_cases q : x < 0
  · exact Go.stp (g' := mkF m (pc + 3) Ls st) (fun _ hr => XS.ifNo X.here K.1 rfl (hb K.2.2.1 hd) rfl (Jvm.Free.XT.i0_ge_f q) hr) (Gp q)
  · exact Go.stp (g' := mkF m pt Ls st) (fun _ hr => XS.ifYes X.here K.1 rfl (pc0 := pc) rfl (hb K.2.2.1 hd) rfl (Jvm.Free.XT.i0_ge_t q) (own_jmp ht).1 (own_jmp ht).2 hr) (Gn q)
theorem g_lcmp_ge (K : Cx p s m meth c Z own nm bytes maxL ret) (W : Wd p l e R s m args below meth c n0 T h cs ss) {x y : Int64} {o : Int} {pc1 : Nat} (hd0 : decode bytes pc = .ok (.lcmp, 1)) (hp0 : pc + 1 = pc1) (hd : decode bytes pc1 = .ok (.ifCond .ge o, 3)) (ht : (pc1 : Int) + o = (pt : Int)) (hp : pc1 + 3 = pf) (Gp : x < y → Go p e below s n0 Q rc rs T (mkF m pf Ls st)) (Gn : ¬ (x < y) → Go p e below s n0 Q rc rs T (mkF m pt Ls st)) : Go p e below s n0 Q rc rs T (mkF m pc Ls (.long y :: .long x :: st)) := by
  obtain ⟨_, X, -⟩ := W; subst hp hp0
  refine Go.stp (g' := mkF m (pc + 1) Ls (.int (Jvm.Free.XT.cmpL x y) :: st)) (fun _ hr => XS.lcmp X.here K.1 rfl (hb K.2.2.1 hd0) rfl hr) ?_
  by_cases q : x < y
  · exact Go.stp (g' := mkF m (pc + 1 + 3) Ls st) (fun _ hr => XS.ifNo X.here K.1 rfl (hb K.2.2.1 hd) rfl (Jvm.Free.XT.ll_ge_f q) hr) (Gp q)
  · exact Go.stp (g' := mkF m pt Ls st) (fun _ hr => XS.ifYes X.here K.1 rfl (pc0 := pc + 1) rfl (hb K.2.2.1 hd) rfl (Jvm.Free.XT.ll_ge_t q) (own_jmp ht).1 (own_jmp ht).2 hr) (Gn q)
theorem g_icmp_gt (K : Cx p s m meth c Z own nm bytes maxL ret) (W : Wd p l e R s m args below meth c n0 T h cs ss) {x y : Int32} {o : Int} (hd : decode bytes pc = .ok (.if_icmp .gt o, 3)) (ht : (pc : Int) + o = (pt : Int)) (hp : pc + 3 = pf) (Gp : y < x → Go p e below s n0 Q rc rs T (mkF m pt Ls st)) (Gn : ¬ (y < x) → Go p e below s n0 Q rc rs T (mkF m pf Ls st)) : Go p e below s n0 Q rc rs T (mkF m pc Ls (.int y :: .int x :: st)) := by
  obtain ⟨_, X, -⟩ := W; subst hp
  by_cases q : y < x
  · exact Go.stp (g' := mkF m pt Ls st) (fun _ hr => XS.icmpYes X.here K.1 rfl (pc0 := pc) rfl (hb K.2.2.1 hd) rfl (Jvm.Free.XT.ii_gt_t q) (own_jmp ht).1 (own_jmp ht).2 hr) (Gp q)
  · exact Go.stp (g' := mkF m (pc + 3) Ls st) (fun _ hr => XS.icmpNo X.here K.1 rfl (hb K.2.2.1 hd) rfl (Jvm.Free.XT.ii_gt_f q) hr) (Gn q)
theorem g_if_gt (K : Cx p s m meth c Z own nm bytes maxL ret) (W : Wd p l e R s m args below meth c n0 T h cs ss) {x : Int32} {o : Int} (hd : decode bytes pc = .ok (.ifCond .gt o, 3)) (ht : (pc : Int) + o = (pt : Int)) (hp : pc + 3 = pf) (Gp : 0 < x → Go p e below s n0 Q rc rs T (mkF m pt Ls st)) (Gn : ¬ (0 < x) → Go p e below s n0 Q rc rs T (mkF m pf Ls st)) : Go p e below s n0 Q rc rs T (mkF m pc Ls (.int x :: st)) := by
  obtain ⟨_, X, -⟩ := W; subst hp
  by_cases q : 0 < x
  · exact Go.stp (g' := mkF m pt Ls st) (fun _ hr => XS.ifYes X.here K.1 rfl (pc0 := pc) rfl (hb K.2.2.1 hd) rfl (Jvm.Free.XT.i0_gt_t q) (own_jmp ht).1 (own_jmp ht).2 hr) (Gp q)
  · exact Go.stp (g' := mkF m (pc + 3) Ls st) (fun _ hr => XS.ifNo X.here K.1 rfl (hb K.2.2.1 hd) rfl (Jvm.Free.XT.i0_gt_f q) hr) (Gn q)
theorem g_lcmp_gt (K : Cx p s m meth c Z own nm bytes maxL ret) (W : Wd p l e R s m args below meth c n0 T h cs ss) {x y : Int64} {o : Int} {pc1 : Nat} (hd0 : decode bytes pc = .ok (.lcmp, 1)) (hp0 : pc + 1 = pc1) (hd : decode bytes pc1 = .ok (.ifCond .gt o, 3)) (ht : (pc1 : Int) + o = (pt : Int)) (hp : pc1 + 3 = pf) (Gp : y < x → Go p e below s n0 Q rc rs T (mkF m pt Ls st)) (Gn : ¬ (y < x) → Go p e below s n0 Q rc rs T (mkF m pf Ls st)) : Go p e below s n0 Q rc rs T (mkF m pc Ls (.long y :: .long x :: st)) := by
  obtain ⟨_, X, -⟩ := W; subst hp hp0
  refine Go.stp (g' := mkF m (pc + 1) Ls (.int (Jvm.Free.XT.cmpL x y) :: st)) (fun _ hr => XS.lcmp X.here K.1 rfl (hb K.2.2.1 hd0) rfl hr) ?_
  by_cases q : y < x
  · exact Go.stp (g' := mkF m pt Ls st) (fun _ hr => XS.ifYes X.here K.1 rfl (pc0 := pc + 1) rfl (hb K.2.2.1 hd) rfl (Jvm.Free.XT.ll_gt_t q) (own_jmp ht).1 (own_jmp ht).2 hr) (Gp q)
  · exact Go.stp (g' := mkF m (pc + 1 + 3) Ls st) (fun _ hr => XS.ifNo X.here K.1 rfl (hb K.2.2.1 hd) rfl (Jvm.Free.XT.ll_gt_f q) hr) (Gn q)
theorem g_icmp_le (K : Cx p s m meth c Z own nm bytes maxL ret) (W : Wd p l e R s m args below meth c n0 T h cs ss) {x y : Int32} {o : Int} (hd : decode bytes pc = .ok (.if_icmp .le o, 3)) (ht : (pc : Int) + o = (pt : Int)) (hp : pc + 3 = pf) (Gp : y < x → Go p e below s n0 Q rc rs T (mkF m pf Ls st)) (Gn : ¬ (y < x) → Go p e below s n0 Q rc rs T (mkF m pt Ls st)) : Go p e below s n0 Q rc rs T (mkF m pc Ls (.int y :: .int x :: st)) := by
  obtain ⟨_, X, -⟩ := W; subst hp
  by_cases q : y < x
  · exact Go.stp (g' := mkF m (pc + 3) Ls st) (fun _ hr => XS.icmpNo X.here K.1 rfl (hb K.2.2.1 hd) rfl (Jvm.Free.XT.ii_le_f q) hr) (Gp q)
  · exact Go.stp (g' := mkF m pt Ls st) (fun _ hr => XS.icmpYes X.here K.1 rfl (pc0 := pc) rfl (hb K.2.2.1 hd) rfl (Jvm.Free.XT.ii_le_t q) (own_jmp ht).1 (own_jmp ht).2 hr) (Gn q)
theorem g_if_le (K : Cx p s m meth c Z own nm bytes maxL ret) (W : Wd p l e R s m args below meth c n0 T h cs ss) {x : Int32} {o : Int} (hd : decode bytes pc = .ok (.ifCond .le o, 3)) (ht : (pc : Int) + o = (pt : Int)) (hp : pc + 3 = pf) (Gp : 0 < x → Go p e below s n0 Q rc rs T (mkF m pf Ls st)) (Gn : ¬ (0 < x) → Go p e below s n0 Q rc rs T (mkF m pt Ls st)) : Go p e below s n0 Q rc rs T (mkF m pc Ls (.int x :: st)) := by
  obtain ⟨_, X, -⟩ := W; subst hp
  by_cases q : 0 < x
  · exact Go.stp (g' := mkF m (pc + 3) Ls st) (fun _ hr => XS.ifNo X.here K.1 rfl (hb K.2.2.1 hd) rfl (Jvm.Free.XT.i0_le_f q) hr) (Gp q)
  · exact Go.stp (g' := mkF m pt Ls st) (fun _ hr => XS.ifYes X.here K.1 rfl (pc0 := pc) rfl (hb K.2.2.1 hd) rfl (Jvm.Free.XT.i0_le_t q) (own_jmp ht).1 (own_jmp ht).2 hr) (Gn q)
theorem g_lcmp_le (K : Cx p s m meth c Z own nm bytes maxL ret) (W : Wd p l e R s m args below meth c n0 T h cs ss) {x y : Int64} {o : Int} {pc1 : Nat} (hd0 : decode bytes pc = .ok (.lcmp, 1)) (hp0 : pc + 1 = pc1) (hd : decode bytes pc1 = .ok (.ifCond .le o, 3)) (ht : (pc1 : Int) + o = (pt : Int)) (hp : pc1 + 3 = pf) (Gp : y < x → Go p e below s n0 Q rc rs T (mkF m pf Ls st)) (Gn : ¬ (y < x) → Go p e below s n0 Q rc rs T (mkF m pt Ls st)) : Go p e below s n0 Q rc rs T (mkF m pc Ls (.long y :: .long x :: st)) := by
  obtain ⟨_, X, -⟩ := W; subst hp hp0
  refine Go.stp (g' := mkF m (pc + 1) Ls (.int (Jvm.Free.XT.cmpL x y) :: st)) (fun _ hr => XS.lcmp X.here K.1 rfl (hb K.2.2.1 hd0) rfl hr) ?_
  by_cases q : y < x
  · exact Go.stp (g' := mkF m (pc + 1 + 3) Ls st) (fun _ hr => XS.ifNo X.here K.1 rfl (hb K.2.2.1 hd) rfl (Jvm.Free.XT.ll_le_f q) hr) (Gp q)
  · exact Go.stp (g' := mkF m pt Ls st) (fun _ hr => XS.ifYes X.here K.1 rfl (pc0 := pc + 1) rfl (hb K.2.2.1 hd) rfl (Jvm.Free.XT.ll_le_t q) (own_jmp ht).1 (own_jmp ht).2 hr) (Gn q)
theorem g_ifnull_t (K : Cx p s m meth c Z own nm bytes maxL ret) (W : Wd p l e R s m args below meth c n0 T h cs ss) {o : Int} (hd : decode bytes pc = .ok (.ifnull o, 3)) (ht : (pc : Int) + o = (pt : Int)) (G : Go p e below s n0 Q rc rs T (mkF m pt Ls st)) : Go p e below s n0 Q rc rs T (mkF m pc Ls (.null :: st)) := by
  obtain ⟨_, X, -⟩ := W
  exact Go.stp (g' := mkF m pt Ls st) (fun _ hr => XS.ifnullYes X.here K.1 rfl (pc0 := pc) rfl (hb K.2.2.1 hd) rfl (own_jmp ht).1 (own_jmp ht).2 hr) G
theorem g_ifnull_f (K : Cx p s m meth c Z own nm bytes maxL ret) (W : Wd p l e R s m args below meth c n0 T h cs ss) {o : Int} {b : Addr} (hd : decode bytes pc = .ok (.ifnull o, 3)) (hp : pc + 3 = pf) (G : Go p e below s n0 Q rc rs T (mkF m pf Ls st)) : Go p e below s n0 Q rc rs T (mkF m pc Ls (.ref b :: st)) := by
  obtain ⟨_, X, -⟩ := W; subst hp
  exact Go.stp (g' := mkF m (pc + 3) Ls st) (fun _ hr => XS.ifnullNo X.here K.1 rfl (hb K.2.2.1 hd) rfl hr) G
theorem g_ifnonnull_t (K : Cx p s m meth c Z own nm bytes maxL ret) (W : Wd p l e R s m args below meth c n0 T h cs ss) {o : Int} {b : Addr} (hd : decode bytes pc = .ok (.ifnonnull o, 3)) (ht : (pc : Int) + o = (pt : Int)) (G : Go p e below s n0 Q rc rs T (mkF m pt Ls st)) : Go p e below s n0 Q rc rs T (mkF m pc Ls (.ref b :: st)) := by
  obtain ⟨_, X, -⟩ := W
  exact Go.stp (g' := mkF m pt Ls st) (fun _ hr => XS.ifnonnullYes X.here K.1 rfl (pc0 := pc) rfl (hb K.2.2.1 hd) rfl (own_jmp ht).1 (own_jmp ht).2 hr) G
theorem g_ifnonnull_f (K : Cx p s m meth c Z own nm bytes maxL ret) (W : Wd p l e R s m args below meth c n0 T h cs ss) {o : Int} (hd : decode bytes pc = .ok (.ifnonnull o, 3)) (hp : pc + 3 = pf) (G : Go p e below s n0 Q rc rs T (mkF m pf Ls st)) : Go p e below s n0 Q rc rs T (mkF m pc Ls (.null :: st)) := by
  obtain ⟨_, X, -⟩ := W; subst hp
  exact Go.stp (g' := mkF m (pc + 3) Ls st) (fun _ hr => XS.ifnonnullNo X.here K.1 rfl (hb K.2.2.1 hd) rfl hr) G
/-! the steps that read the tables or the heap -/
theorem Wd.sz (W : Wd p l e R s m args below meth c n0 T h cs ss) : n0 ≤ h.size := by
  obtain ⟨_, X, _, eT, q⟩ := W
  have r : s.heap.size ≤ T.heap.size := X.same.2.1
  rw [eT] at r
  exact Nat.le_trans q r
theorem g_getF (K : Cx p s m meth c Z own nm bytes maxL ret) (W : Wd p l e R s m args below meth c n0 T h cs ss) {R0 O n d host : String} {index : Nat} {a : Addr} {v : Value} (w : (Jvm.Cond.fieldLink own index R0 n d).before a0 Z = true ∨ (Jvm.Cond.fieldLinkNest own index R0 n d host).before a0 Z = true) (via : Via Z R0 O n d) (F : Fld Z h a O n d v) (hd : decode bytes pc = .ok (.getfield index, 3)) (hp : pc + 3 = pc')
    (G : ∀ T', Wd p l e R s m args below meth c n0 T' h cs ss → Go p e below s n0 Q rc rs T' (mkF m pc' Ls (v :: st))) : Go p e below s n0 Q rc rs T (mkF m pc Ls (.ref a :: st)) := by
  obtain ⟨locs, X, N, eT, z⟩ := W; subst hp
  obtain ⟨T', X', e', q⟩ := getF X K.1 K.2.1 K.2.2.2.2.1 w via eT F (g := mkF m pc Ls (.ref a :: st)) rfl rfl (hb K.2.2.1 hd)
  exact Go.stp q (G T' ⟨locs, X', N, e', z⟩)
theorem g_putF (K : Cx p s m meth c Z own nm bytes maxL ret) (W : Wd p l e R s m args below meth c n0 T h cs ss) {R0 O n d host C : String} {index kk : Nat} {ty : FieldType} {a : Addr} {v old : Value} (w : (Jvm.Cond.fieldLink own index R0 n d).before a0 Z = true ∨ (Jvm.Cond.fieldLinkNest own index R0 n d host).before a0 Z = true) (via : Via Z R0 O n d) (F : Fld Z h a O n d old) (E : Exa Z h a C)
    (L : (Jvm.Cond.lays C O n d).before a0 Z = true ∨ ((Jvm.Cond.laysFinal C O n d).before a0 Z = true ∧ own = O ∧ nm = "<init>")) (wi : (Jvm.Cond.instantiable C kk).before a0 Z = true) (hty : parseFieldDescriptor d = some ty) (hn : narrow ty v = v) (hf : fits ty v = true) (ha : n0 ≤ a) (hd : decode bytes pc = .ok (.putfield index, 3)) (hp : pc + 3 = pc')
    (G : ∀ T' h', Wd p l e R s m args below meth c n0 T' h' cs ss → Wr h h' a (Jvm.RoadKit.slotOf Z O n d) v → Go p e below s n0 Q rc rs T' (mkF m pc' Ls st)) : Go p e below s n0 Q rc rs T (mkF m pc Ls (v :: .ref a :: st)) := by
  obtain ⟨locs, X, N, eT, z⟩ := W; subst hp
  obtain ⟨T', h', X', e', w', q⟩ := putF X K.1 K.2.1 K.2.2.2.2.1 w via eT F E (L.imp id fun y => ⟨y.1, y.2.1, K.2.2.2.2.2.2.2.trans y.2.2⟩) wi hty hn hf (g := mkF m pc Ls (v :: .ref a :: st)) rfl rfl (hb K.2.2.1 hd)
  exact Go.stp q (G T' h' ⟨_, X', Fr.snoc X' N ha, e', z⟩ w')
theorem g_new (K : Cx p s m meth c Z own nm bytes maxL ret) (W : Wd p l e R s m args below meth c n0 T h cs ss) {C : String} {index n : Nat} (w : (Jvm.Cond.classLink own index C).before a0 Z = true) (wi : (Jvm.Cond.instantiable C n).before a0 Z = true) (wz : (Jvm.Cond.initialized C).before a0 Z = true) (hd : decode bytes pc = .ok (.new index, 3)) (hp : pc + 3 = pc') (hc : cs + 1 ≤ R.cells) (hl : ss + n ≤ R.slots)
    (G : ∀ T' h' a, Wd p l e R s m args below meth c n0 T' h' (cs + 1) (ss + n) → Ext h h' → a = h.size → n0 ≤ a → Exa Z h' a C → (∀ {O nm d : String} {ty : FieldType}, Laid Z a0 C O nm d → parseFieldDescriptor d = some ty → Fld Z h' a O nm d (defaultValue ty)) → Go p e below s n0 Q rc rs T' (mkF m pc' Ls (.ref a :: st))) : Go p e below s n0 Q rc rs T (mkF m pc Ls st) := by
  have zz := W.sz
  obtain ⟨locs, X, N, eT, z⟩ := W; subst hp
  obtain ⟨T', h', X', e', E, A, D, -, q⟩ := newO X K.1 K.2.1 K.2.2.2.2.1 w wi wz eT (g := mkF m pc Ls st) rfl (hb K.2.2.1 hd) hc hl
  exact Go.stp q (G T' h' _ ⟨_, X', N, e', z⟩ E rfl zz A (fun {O nm d ty} a b => D a b))
/-! the ways out -/
theorem g_ret0 (K : Cx p s m meth c Z own nm bytes maxL none) (W : Wd p l e R s m args below meth c n0 T h cs ss) (hd : decode bytes pc = .ok (.return_, 1)) (h1 : cs ≤ rc) (h2 : ss ≤ rs) (q : Q none h) : Go p e below s n0 Q rc rs T (mkF m pc Ls []) := by
  obtain ⟨locs, X, N, eT, z⟩ := W
  obtain ⟨fs, hr, hrun, hended, hW, hsame⟩ := X.leave (v := none) (fun _ => rfl) K.2.2.2.2.2.2.1
  exact ⟨_, _, X.returnOut K.1 K.2.2.2.2.2.1 (hb K.2.2.1 hd) hr, hrun, hended, _, _, rfl, ⟨by show Q none T.heap; rw [eT]; exact q, N⟩, ⟨_, rfl⟩, hW, hsame.mono h1 h2⟩
theorem g_retN {t : FieldType} {x v : Int32} (K : Cx p s m meth c Z own nm bytes maxL (some t)) (W : Wd p l e R s m args below meth c n0 T h cs ss) (ht : t = .boolean ∨ t = .byte ∨ t = .char ∨ t = .short) (hd : decode bytes pc = .ok (.ireturn, 1)) (h1 : cs ≤ rc) (h2 : ss ≤ rs) (hv : nar t x = v) (q : Q (some (.int v)) h) : Go p e below s n0 Q rc rs T (mkF m pc Ls (.int x :: st)) := by
  obtain ⟨locs, X, N, eT, z⟩ := W; subst hv
  obtain ⟨fs, hr, hrun, hended, hW, hsame⟩ := X.leave (v := some (.int (nar t x))) (fun y => by rw [K.2.2.2.2.2.1] at y; cases y) K.2.2.2.2.2.2.1
  exact ⟨_, _, retN X K.1 K.2.2.2.2.2.1 ht (hb K.2.2.1 hd) hr, hrun, hended, _, _, rfl, ⟨by show Q _ T.heap; rw [eT]; exact q, N⟩, ⟨_, rfl⟩, hW, hsame.mono h1 h2⟩
theorem g_retI {x : Int32} (K : Cx p s m meth c Z own nm bytes maxL (some .int)) (W : Wd p l e R s m args below meth c n0 T h cs ss) (hd : decode bytes pc = .ok (.ireturn, 1)) (h1 : cs ≤ rc) (h2 : ss ≤ rs) (q : Q (some (.int x)) h) : Go p e below s n0 Q rc rs T (mkF m pc Ls (.int x :: st)) := by
  obtain ⟨locs, X, N, eT, z⟩ := W
  obtain ⟨fs, hr, hrun, hended, hW, hsame⟩ := X.leave (v := some (.int x)) (fun y => by rw [K.2.2.2.2.2.1] at y; cases y) K.2.2.2.2.2.2.1
  exact ⟨_, _, retOut X K.1 K.2.2.2.2.2.1 rfl (Or.inl ⟨rfl, Or.inl rfl, _, rfl⟩) (hb K.2.2.1 hd) hr, hrun, hended, _, _, rfl, ⟨by show Q _ T.heap; rw [eT]; exact q, N⟩, ⟨_, rfl⟩, hW, hsame.mono h1 h2⟩
theorem g_retL {x : Int64} (K : Cx p s m meth c Z own nm bytes maxL (some .long)) (W : Wd p l e R s m args below meth c n0 T h cs ss) (hd : decode bytes pc = .ok (.lreturn, 1)) (h1 : cs ≤ rc) (h2 : ss ≤ rs) (q : Q (some (.long x)) h) : Go p e below s n0 Q rc rs T (mkF m pc Ls (.long x :: st)) := by
  obtain ⟨locs, X, N, eT, z⟩ := W
  obtain ⟨fs, hr, hrun, hended, hW, hsame⟩ := X.leave (v := some (.long x)) (fun y => by rw [K.2.2.2.2.2.1] at y; cases y) K.2.2.2.2.2.2.1
  exact ⟨_, _, retOut X K.1 K.2.2.2.2.2.1 rfl (Or.inr (Or.inl ⟨rfl, rfl, _, rfl⟩)) (hb K.2.2.1 hd) hr, hrun, hended, _, _, rfl, ⟨by show Q _ T.heap; rw [eT]; exact q, N⟩, ⟨_, rfl⟩, hW, hsame.mono h1 h2⟩
theorem g_retA {t : FieldType} {x : Value} (K : Cx p s m meth c Z own nm bytes maxL (some t)) (W : Wd p l e R s m args below meth c n0 T h cs ss) (ht : t.isReference = true) (hn : narrow t x = x) (hx : x.isRef = true) (hd : decode bytes pc = .ok (.areturn, 1)) (h1 : cs ≤ rc) (h2 : ss ≤ rs) (q : Q (some x) h) : Go p e below s n0 Q rc rs T (mkF m pc Ls (x :: st)) := by
  obtain ⟨locs, X, N, eT, z⟩ := W
  obtain ⟨fs, hr, hrun, hended, hW, hsame⟩ := X.leave (v := some x) (fun y => by rw [K.2.2.2.2.2.1] at y; cases y) K.2.2.2.2.2.2.1
  exact ⟨_, _, retOut X K.1 K.2.2.2.2.2.1 hn (Or.inr (Or.inr (Or.inr (Or.inr ⟨rfl, ht, hx⟩)))) (hb K.2.2.1 hd) hr, hrun, hended, _, _, rfl, ⟨by show Q _ T.heap; rw [eT]; exact q, N⟩, ⟨_, rfl⟩, hW, hsame.mono h1 h2⟩
/-! the calls, each by its callee's contract -/
theorem g_callS {y : MethodName} {yb : ByteArray} {yl : Nat} {yr : Option FieldType} {rm : Room} {argsL : List Value} {Qc : Option Value → Heap → Prop} {index : Nat} (M : Mt l Z y yb yl yr rm n0 argsL.toArray h Qc) (K : Cx p s m meth c Z own nm bytes maxL ret) (W : Wd p l e R s m args below meth c n0 T h cs ss)
    (wl : (Jvm.Cond.methodLink own index y).before a0 Z = true) (ws : (Jvm.Cond.static y).before a0 Z = true) (wi : (Jvm.Cond.initialized y.cls).before a0 Z = true) (wc : (Jvm.Cond.code y yb yl yr).before a0 Z = true) (hy : y.cls ≠ "java/lang/invoke/MethodHandle" ∧ y.cls ≠ "java/lang/invoke/VarHandle")
    (hlen : ∀ sig, parseMethodDescriptor y.desc = some sig → argsL.length = sig.parameters.length) (hd : decode bytes pc = .ok (.invokestatic index, 3)) (hp : pc + 3 = pc') (hst : st = argsL.reverse ++ rest) (hsz : Ls.size = maxL) (hf : rm.frames + 1 ≤ R.frames) {wt : Nat} (hwt : (rest.map fun v => v.category).sum = wt) (hl : wt + (yl + 11) + rm.locals ≤ R.locals) (hc : cs + rm.cells ≤ R.cells) (hs : ss + rm.slots ≤ R.slots)
    (G : ∀ T' h' v, Wd p l e R s m args below meth c n0 T' h' (cs + rm.cells) (ss + rm.slots) → Qc v h' → Go p e below s n0 Q rc rs T' (mkF m pc' Ls (v.toList ++ rest))) : Go p e below s n0 Q rc rs T (mkF m pc Ls st) := by
  obtain ⟨locs, X, N, eT, z⟩ := W; subst hp hwt
  obtain ⟨v, _, ⟨T', L', k', n'⟩, -, X', ⟨Lc, hQ, l1, l2, l3⟩, q⟩ := Jvm.LawKit.callS X K.1 (y := y) K.2.2.2.2.1 (mvT K.2.1 wl) (mvT K.2.1 ws) (mvT K.2.1 wi) (mvT K.2.1 wc) hy (backOf (W := (rest.map fun v => v.category).sum) (Q := fun v hh L => Qc v hh ∧ Fr n0 L) (M []) K.2.1 wc wi hf hl) (g := mkF m pc Ls st) rfl (hsz.trans K.2.2.2.1.symm) (argsL := argsL) (rest := rest) hlen hst (by show 2 * 0 + _ ≤ _; omega) (hb K.2.2.1 hd) (fun _ _ => ⟨rfl, eT, hc, hs⟩)
  dsimp only [Pt.U, Pt.locs, Pt.cells, Pt.slots] at X' l1 l2 l3 q hQ
  subst l1 l2 l3
  exact Go.stp q (G T' T'.heap v ⟨_, X', Fr.app N hQ.2, rfl, z⟩ hQ.1)
theorem g_callN {y : MethodName} {yb : ByteArray} {yl : Nat} {rm : Room} {argsL : List Value} {Qc : Option Value → Heap → Prop} {index : Nat} {a : Addr} (M : Mt l Z y yb yl none rm n0 (.ref a :: argsL).toArray h Qc) (K : Cx p s m meth c Z own nm bytes maxL ret) (W : Wd p l e R s m args below meth c n0 T h cs ss) (hy1 : y.name = "<init>")
    (wl : (Jvm.Cond.methodLink own index y).before a0 Z = true) (ws : (Jvm.Cond.instanceMethod y).before a0 Z = true) (wi : (Jvm.Cond.initialized y.cls).before a0 Z = true) (wc : (Jvm.Cond.code y yb yl none).before a0 Z = true) (hy : y.cls ≠ "java/lang/invoke/MethodHandle" ∧ y.cls ≠ "java/lang/invoke/VarHandle")
    (hlen : ∀ sig, parseMethodDescriptor y.desc = some sig → argsL.length = sig.parameters.length) (hd : decode bytes pc = .ok (.invokespecial index, 3)) (hp : pc + 3 = pc') (hst : st = argsL.reverse ++ .ref a :: rest) (hsz : Ls.size = maxL) (hf : rm.frames + 1 ≤ R.frames) {wt : Nat} (hwt : (rest.map fun v => v.category).sum = wt) (hl : wt + (yl + 11) + rm.locals ≤ R.locals) (hc : cs + rm.cells ≤ R.cells) (hs : ss + rm.slots ≤ R.slots)
    (G : ∀ T' h' v, Wd p l e R s m args below meth c n0 T' h' (cs + rm.cells) (ss + rm.slots) → Qc v h' → Go p e below s n0 Q rc rs T' (mkF m pc' Ls (v.toList ++ rest))) : Go p e below s n0 Q rc rs T (mkF m pc Ls st) := by
  obtain ⟨locs, X, N, eT, z⟩ := W; subst hp hwt
  obtain ⟨v, _, ⟨T', L', k', n'⟩, -, X', ⟨Lc, hQ, l1, l2, l3⟩, q⟩ := X.specialBack K.1 (y := y) hy1 K.2.2.2.2.1 (mvT K.2.1 wl) (mvT K.2.1 ws) (mvT K.2.1 wc) hy (backOf (W := (rest.map fun v => v.category).sum) (Q := fun v hh L => Qc v hh ∧ Fr n0 L) (M []) K.2.1 wc wi hf hl) (g := mkF m pc Ls st) rfl (hsz.trans K.2.2.2.1.symm) (Steps.refl _) (a := a) (argsL := argsL) (rest := rest) hlen hst (by show 2 * 0 + _ ≤ _; omega) (hb K.2.2.1 hd) (fun _ _ => ⟨rfl, eT, hc, hs⟩)
  dsimp only [Pt.U, Pt.locs, Pt.cells, Pt.slots] at X' l1 l2 l3 q hQ
  subst l1 l2 l3
  exact Go.stp (fun _ k => q.trans k) (G T' T'.heap v ⟨_, X', Fr.app N hQ.2, rfl, z⟩ hQ.1)
theorem g_callV {y : MethodName} {yb : ByteArray} {yl : Nat} {yr : Option FieldType} {rm : Room} {argsL : List Value} {Qc : Option Value → Heap → Prop} {index : Nat} {C : String} {a : Addr} {x : MethodName} (M : Mt l Z y yb yl yr rm n0 (.ref a :: argsL).toArray h Qc) (K : Cx p s m meth c Z own nm bytes maxL ret) (W : Wd p l e R s m args below meth c n0 T h cs ss) (E : Exa Z h a C)
    (wl : (Jvm.Cond.methodLink own index x).before a0 Z = true) (wd : (Jvm.Cond.declares x).before a0 Z = true) (wx : (Jvm.Cond.selects x.cls x x).before a0 Z = true) (wsel : (Jvm.Cond.selects C x y).before a0 Z = true) (ws : (Jvm.Cond.instanceMethod y).before a0 Z = true) (wi : (Jvm.Cond.initialized y.cls).before a0 Z = true) (wc : (Jvm.Cond.code y yb yl yr).before a0 Z = true) (hy : x.cls ≠ "java/lang/invoke/MethodHandle" ∧ x.cls ≠ "java/lang/invoke/VarHandle")
    (hlen : ∀ sig, parseMethodDescriptor x.desc = some sig → argsL.length = sig.parameters.length) (hd : decode bytes pc = .ok (.invokevirtual index, 3)) (hp : pc + 3 = pc') (hst : st = argsL.reverse ++ .ref a :: rest) (hsz : Ls.size = maxL) (hf : rm.frames + 1 ≤ R.frames) {wt : Nat} (hwt : (rest.map fun v => v.category).sum = wt) (hl : wt + (yl + 11) + rm.locals ≤ R.locals) (hc : cs + rm.cells ≤ R.cells) (hs : ss + rm.slots ≤ R.slots)
    (G : ∀ T' h' v, Wd p l e R s m args below meth c n0 T' h' (cs + rm.cells) (ss + rm.slots) → Qc v h' → Go p e below s n0 Q rc rs T' (mkF m pc' Ls (v.toList ++ rest))) : Go p e below s n0 Q rc rs T (mkF m pc Ls st) := by
  obtain ⟨locs, X, N, eT, z⟩ := W; subst hp hwt
  obtain ⟨cq, kq, qa, qb, qc⟩ := isOf K.2.1 eT E
  obtain ⟨v, _, ⟨T', L', k', n'⟩, -, X', ⟨Lc, hQ, l1, l2, l3⟩, q⟩ := X.virtualBack K.1 (y := x) (z := y) K.2.2.2.2.1 (mvT K.2.1 wl) (mvT K.2.1 wd) (notFace_of_selects (args := #[]) (mvT K.2.1 wx)) (mvT K.2.1 wsel) (mvT K.2.1 ws) hy (backOf (W := (rest.map fun v => v.category).sum) (Q := fun v hh L => Qc v hh ∧ Fr n0 L) (M []) K.2.1 wc wi hf hl) qa qc (g := mkF m pc Ls st) rfl (hsz.trans K.2.2.2.1.symm) (Steps.refl _) (argsL := argsL) (rest := rest) hlen hst (by show 2 * 0 + _ ≤ _; omega) (hb K.2.2.1 hd) (fun _ _ => ⟨rfl, eT, hc, hs⟩)
  dsimp only [Pt.U, Pt.locs, Pt.cells, Pt.slots] at X' l1 l2 l3 q hQ
  subst l1 l2 l3
  exact Go.stp (fun _ k => q.trans k) (G T' T'.heap v ⟨_, X', Fr.app N hQ.2, rfl, z⟩ hQ.1)
theorem g_callP {y : MethodName} {yb : ByteArray} {yl : Nat} {yr : Option FieldType} {rm : Room} {argsL : List Value} {Qc : Option Value → Heap → Prop} {index : Nat} {a : Addr} (M : Mt l Z y yb yl yr rm n0 (.ref a :: argsL).toArray h Qc) (K : Cx p s m meth c Z own nm bytes maxL ret) (W : Wd p l e R s m args below meth c n0 T h cs ss) (hcell : ∃ c : Cell, h[a]? = some c ∧ ∀ q, c.vm ≠ .statics q)
    (wl : (Jvm.Cond.methodLink own index y).before a0 Z = true) (ws : (Jvm.Cond.instanceMethod y).before a0 Z = true) {kk : Nat} (wk : (Jvm.Cond.instantiable y.cls kk).before a0 Z = true) (wp : (Jvm.Cond.privateMethod y).before a0 Z = true) (wi : (Jvm.Cond.initialized y.cls).before a0 Z = true) (wc : (Jvm.Cond.code y yb yl yr).before a0 Z = true) (hy : y.cls ≠ "java/lang/invoke/MethodHandle" ∧ y.cls ≠ "java/lang/invoke/VarHandle")
    (hlen : ∀ sig, parseMethodDescriptor y.desc = some sig → argsL.length = sig.parameters.length) (hd : decode bytes pc = .ok (.invokevirtual index, 3)) (hp : pc + 3 = pc') (hst : st = argsL.reverse ++ .ref a :: rest) (hsz : Ls.size = maxL) (hf : rm.frames + 1 ≤ R.frames) {wt : Nat} (hwt : (rest.map fun v => v.category).sum = wt) (hl : wt + (yl + 11) + rm.locals ≤ R.locals) (hc : cs + rm.cells ≤ R.cells) (hs : ss + rm.slots ≤ R.slots)
    (G : ∀ T' h' v, Wd p l e R s m args below meth c n0 T' h' (cs + rm.cells) (ss + rm.slots) → Qc v h' → Go p e below s n0 Q rc rs T' (mkF m pc' Ls (v.toList ++ rest))) : Go p e below s n0 Q rc rs T (mkF m pc Ls st) := by
  obtain ⟨locs, X, N, eT, z⟩ := W; subst hp hwt
  obtain ⟨cl, hc1, hc2⟩ := hcell
  have wk' : (Jvm.Cond.instantiable y.cls kk).before args s = true := mvT K.2.1 wk
  obtain ⟨ck, kc, f1, f2, f3, f4, -⟩ := Jvm.Cond.instantiable_spec wk'
  have hpr : s.PrivateAt y := Jvm.Cond.privateMethod_at (mvP K.2.1 wp (args := #[]))
  have hsel : (Jvm.Cond.selects y.cls y y).before args s = true := Jvm.Stand.selects_self_of_private f1 f2 (by simpa using (Bool.or_eq_false_iff.mp f4).1) hpr (mvT K.2.1 ws) hy
  obtain ⟨v, _, ⟨T', L', k', n'⟩, -, X', ⟨Lc, hQ, l1, l2, l3⟩, q⟩ := X.privateBack K.1 (y := y) K.2.2.2.2.1 (mvT K.2.1 wl) (mvT K.2.1 ws) hsel hpr (mvT K.2.1 wc) hy (backOf (W := (rest.map fun v => v.category).sum) (Q := fun v hh L => Qc v hh ∧ Fr n0 L) (M []) K.2.1 wc wi hf hl) (g := mkF m pc Ls st) rfl (hsz.trans K.2.2.2.1.symm) (Steps.refl _) (a := a) (by rw [eT]; exact hc1) hc2 (argsL := argsL) (rest := rest) hlen hst (by show 2 * 0 + _ ≤ _; omega) (hb K.2.2.1 hd) (fun _ _ => ⟨rfl, eT, hc, hs⟩)
  dsimp only [Pt.U, Pt.locs, Pt.cells, Pt.slots] at X' l1 l2 l3 q hQ
  subst l1 l2 l3
  exact Go.stp (fun _ k => q.trans k) (G T' T'.heap v ⟨_, X', Fr.app N hQ.2, rfl, z⟩ hQ.1)
/-! arrays: n places, place j holds f j -/
def AyI (Z : State) (h : Heap) (a : Addr) (ty : FieldType) (n : Nat) (f : Nat → Int32) : Prop := ∃ cl : Cell, Arr Z h a cl ty ∧ cl.slots.size = n ∧ ∀ j, j < n → cl.slots[j]? = some (.int (f j))
def AyJ (Z : State) (h : Heap) (a : Addr) (n : Nat) (f : Nat → Int64) : Prop := ∃ cl : Cell, Arr Z h a cl .long ∧ cl.slots.size = n ∧ ∀ j, j < n → cl.slots[j]? = some (.long (f j))
def upd {α : Type} (f : Nat → α) (k : Nat) (v : α) : Nat → α := fun j => if j = k then v else f j
theorem upd_same {α : Type} (f : Nat → α) (k : Nat) (v : α) : upd f k v k = v := if_pos rfl
theorem upd_ne {α : Type} (f : Nat → α) {k j : Nat} (v : α) (q : j ≠ k) : upd f k v j = f j := if_neg q
theorem own_ix {j : Int32} {k : Nat} (hj : j.toInt = (k : Int)) : ¬ j < 0 ∧ j.toNatClampNeg = k := by
  refine ⟨fun q => ?_, ?_⟩
  · rw [Int32.lt_iff_toInt_lt, hj, show (0 : Int32).toInt = 0 from rfl] at q; omega
  · rw [Int32.toNatClampNeg, hj]; rfl
theorem own_in {j : Int32} {k n : Nat} (hj : j.toInt = (k : Int)) (hk : k < n) {cl : Cell} (hs : cl.slots.size = n) : ¬ (j < 0 ∨ cl.slots.size ≤ j.toNatClampNeg) := by
  rw [(own_ix hj).2, hs]
  exact fun q => q.elim (own_ix hj).1 (fun q => by omega)
theorem AyI.lt {a : Addr} {ty : FieldType} {n : Nat} {f : Nat → Int32} (A : AyI Z h a ty n f) : a < h.size := by obtain ⟨_, q, -⟩ := A; exact q.lt
theorem AyJ.lt {a : Addr} {n : Nat} {f : Nat → Int64} (A : AyJ Z h a n f) : a < h.size := by obtain ⟨_, q, -⟩ := A; exact q.lt
theorem AyI.ext {h' : Heap} {a : Addr} {ty : FieldType} {n : Nat} {f : Nat → Int32} (A : AyI Z h a ty n f) (E : Ext h h') : AyI Z h' a ty n f := by obtain ⟨cl, q, r⟩ := A; exact ⟨cl, q.ext E, r⟩
theorem AyJ.ext {h' : Heap} {a : Addr} {n : Nat} {f : Nat → Int64} (A : AyJ Z h a n f) (E : Ext h h') : AyJ Z h' a n f := by obtain ⟨cl, q, r⟩ := A; exact ⟨cl, q.ext E, r⟩
theorem AyI.other {h' : Heap} {a b : Addr} {sl : Nat} {v : Value} {ty : FieldType} {n : Nat} {f : Nat → Int32} (A : AyI Z h b ty n f) (w : Wr h h' a sl v) (q : b ≠ a) : AyI Z h' b ty n f := by obtain ⟨cl, x, r⟩ := A; exact ⟨cl, x.other w q, r⟩
theorem AyJ.other {h' : Heap} {a b : Addr} {sl : Nat} {v : Value} {n : Nat} {f : Nat → Int64} (A : AyJ Z h b n f) (w : Wr h h' a sl v) (q : b ≠ a) : AyJ Z h' b n f := by obtain ⟨cl, x, r⟩ := A; exact ⟨cl, x.other w q, r⟩
theorem AyI.keep {h' : Heap} {a : Addr} {ws : List Addr} {ty : FieldType} {n : Nat} {f : Nat → Int32} (A : AyI Z h a ty n f) (k : Keep h h' ws) (q : a ∉ ws) : AyI Z h' a ty n f := by obtain ⟨cl, x, r⟩ := A; exact ⟨cl, ⟨k.2.1 a cl x.1 q, x.2⟩, r⟩
theorem AyJ.keep {h' : Heap} {a : Addr} {ws : List Addr} {n : Nat} {f : Nat → Int64} (A : AyJ Z h a n f) (k : Keep h h' ws) (q : a ∉ ws) : AyJ Z h' a n f := by obtain ⟨cl, x, r⟩ := A; exact ⟨cl, ⟨k.2.1 a cl x.1 q, x.2⟩, r⟩
theorem AyI.same {h' : Heap} {a : Addr} {k : Nat} {x : Int32} {ty : FieldType} {n : Nat} {f : Nat → Int32} (A : AyI Z h a ty n f) (w : Wr h h' a k (.int x)) : AyI Z h' a ty n (upd f k x) := by
  obtain ⟨cl, q, r1, r2⟩ := A
  refine ⟨_, q.same w, by simpa [Cell.setSlot] using r1, fun j hj => ?_⟩
  by_cases e : j = k
  · subst e; rw [upd_same]; simp [Cell.setSlot, Array.getElem?_setIfInBounds, r1, hj]
  · rw [upd_ne f x e, ← r2 j hj]; simp [Cell.setSlot, Array.getElem?_setIfInBounds, Ne.symm e]
theorem AyJ.same {h' : Heap} {a : Addr} {k : Nat} {x : Int64} {n : Nat} {f : Nat → Int64} (A : AyJ Z h a n f) (w : Wr h h' a k (.long x)) : AyJ Z h' a n (upd f k x) := by
  obtain ⟨cl, q, r1, r2⟩ := A
  refine ⟨_, q.same w, by simpa [Cell.setSlot] using r1, fun j hj => ?_⟩
  by_cases e : j = k
  · subst e; rw [upd_same]; simp [Cell.setSlot, Array.getElem?_setIfInBounds, r1, hj]
  · rw [upd_ne f x e, ← r2 j hj]; simp [Cell.setSlot, Array.getElem?_setIfInBounds, Ne.symm e]
theorem g_alenI (K : Cx p s m meth c Z own nm bytes maxL ret) (W : Wd p l e R s m args below meth c n0 T h cs ss) {a : Addr} {ty : FieldType} {n : Nat} {f : Nat → Int32} (A : AyI Z h a ty n f) {v : Int32} (hv : Int32.ofNat n = v) (hd : decode bytes pc = .ok (.arraylength, 1)) (hp : pc + 1 = pc')
    (G : Go p e below s n0 Q rc rs T (mkF m pc' Ls (.int v :: st))) : Go p e below s n0 Q rc rs T (mkF m pc Ls (.ref a :: st)) := by
  obtain ⟨_, X, N, eT, z⟩ := W; subst hp
  obtain ⟨cl, q, r1, r2⟩ := A
  refine Go.stp (g' := mkF m (pc + 1) Ls (.int v :: st)) (fun _ hr => X.arraylength K.1 (cell := cl) (by rw [eT]; exact q.1) (State.isArrayOf_alike K.2.1.alike q.2.1) (g := mkF m pc Ls (.ref a :: st)) rfl (rest := st) rfl (hb K.2.2.1 hd) _ ?_) G
  rw [r1, show n.toInt32 = v from hv]
  exact hr
theorem g_alenJ (K : Cx p s m meth c Z own nm bytes maxL ret) (W : Wd p l e R s m args below meth c n0 T h cs ss) {a : Addr} {n : Nat} {f : Nat → Int64} (A : AyJ Z h a n f) {v : Int32} (hv : Int32.ofNat n = v) (hd : decode bytes pc = .ok (.arraylength, 1)) (hp : pc + 1 = pc')
    (G : Go p e below s n0 Q rc rs T (mkF m pc' Ls (.int v :: st))) : Go p e below s n0 Q rc rs T (mkF m pc Ls (.ref a :: st)) := by
  obtain ⟨_, X, N, eT, z⟩ := W; subst hp
  obtain ⟨cl, q, r1, r2⟩ := A
  refine Go.stp (g' := mkF m (pc + 1) Ls (.int v :: st)) (fun _ hr => X.arraylength K.1 (cell := cl) (by rw [eT]; exact q.1) (State.isArrayOf_alike K.2.1.alike q.2.1) (g := mkF m pc Ls (.ref a :: st)) rfl (rest := st) rfl (hb K.2.2.1 hd) _ ?_) G
  rw [r1, show n.toInt32 = v from hv]
  exact hr
theorem g_iaload (K : Cx p s m meth c Z own nm bytes maxL ret) (W : Wd p l e R s m args below meth c n0 T h cs ss) {a : Addr} {n k : Nat} {f : Nat → Int32} {j v : Int32} (A : AyI Z h a .int n f) (hj : j.toInt = (k : Int)) (hk : k < n) (hv : f k = v) (hd : decode bytes pc = .ok (.iaload, 1)) (hp : pc + 1 = pc')
    (G : Go p e below s n0 Q rc rs T (mkF m pc' Ls (.int v :: st))) : Go p e below s n0 Q rc rs T (mkF m pc Ls (.int j :: .ref a :: st)) := by
  obtain ⟨_, X, N, eT, z⟩ := W; subst hp hv
  obtain ⟨cl, q, r1, r2⟩ := A
  exact Go.stp (g' := mkF m (pc + 1) Ls (.int (f k) :: st)) (fun _ hr => X.iaload K.1 (by rw [eT]; exact q.1) (State.isArrayOf_alike K.2.1.alike q.2.1) q.2.2 (own_in hj hk r1) (by rw [(own_ix hj).2]; exact r2 k hk) (g := mkF m pc Ls (.int j :: .ref a :: st)) rfl rfl (hb K.2.2.1 hd) _ hr) G
theorem g_baload (K : Cx p s m meth c Z own nm bytes maxL ret) (W : Wd p l e R s m args below meth c n0 T h cs ss) {a : Addr} {n k : Nat} {f : Nat → Int32} {j v : Int32} (A : AyI Z h a .byte n f) (hj : j.toInt = (k : Int)) (hk : k < n) (hv : f k = v) (hd : decode bytes pc = .ok (.baload, 1)) (hp : pc + 1 = pc')
    (G : Go p e below s n0 Q rc rs T (mkF m pc' Ls (.int v :: st))) : Go p e below s n0 Q rc rs T (mkF m pc Ls (.int j :: .ref a :: st)) := by
  obtain ⟨_, X, N, eT, z⟩ := W; subst hp hv
  obtain ⟨cl, q, r1, r2⟩ := A
  exact Go.stp (g' := mkF m (pc + 1) Ls (.int (f k) :: st)) (fun _ hr => X.baloadBytes K.1 (by rw [eT]; exact q.1) (State.isArrayOf_alike K.2.1.alike q.2.1) q.2.2 (own_in hj hk r1) (by rw [(own_ix hj).2]; exact r2 k hk) (g := mkF m pc Ls (.int j :: .ref a :: st)) rfl rfl (hb K.2.2.1 hd) _ hr) G
theorem g_zaload (K : Cx p s m meth c Z own nm bytes maxL ret) (W : Wd p l e R s m args below meth c n0 T h cs ss) {a : Addr} {n k : Nat} {f : Nat → Int32} {j v : Int32} (A : AyI Z h a .boolean n f) (hj : j.toInt = (k : Int)) (hk : k < n) (hv : f k = v) (hd : decode bytes pc = .ok (.baload, 1)) (hp : pc + 1 = pc')
    (G : Go p e below s n0 Q rc rs T (mkF m pc' Ls (.int v :: st))) : Go p e below s n0 Q rc rs T (mkF m pc Ls (.int j :: .ref a :: st)) := by
  obtain ⟨_, X, N, eT, z⟩ := W; subst hp hv
  obtain ⟨cl, q, r1, r2⟩ := A
  exact Go.stp (g' := mkF m (pc + 1) Ls (.int (f k) :: st)) (fun _ hr => X.baloadBooleans K.1 (by rw [eT]; exact q.1) (State.isArrayOf_alike K.2.1.alike q.2.1) q.2.2 (own_in hj hk r1) (by rw [(own_ix hj).2]; exact r2 k hk) (g := mkF m pc Ls (.int j :: .ref a :: st)) rfl rfl (hb K.2.2.1 hd) _ hr) G
theorem g_laload (K : Cx p s m meth c Z own nm bytes maxL ret) (W : Wd p l e R s m args below meth c n0 T h cs ss) {a : Addr} {n k : Nat} {f : Nat → Int64} {j : Int32} {v : Int64} (A : AyJ Z h a n f) (hj : j.toInt = (k : Int)) (hk : k < n) (hv : f k = v) (hd : decode bytes pc = .ok (.laload, 1)) (hp : pc + 1 = pc')
    (G : Go p e below s n0 Q rc rs T (mkF m pc' Ls (.long v :: st))) : Go p e below s n0 Q rc rs T (mkF m pc Ls (.int j :: .ref a :: st)) := by
  obtain ⟨_, X, N, eT, z⟩ := W; subst hp hv
  obtain ⟨cl, q, r1, r2⟩ := A
  exact Go.stp (g' := mkF m (pc + 1) Ls (.long (f k) :: st)) (fun _ hr => X.laload K.1 (by rw [eT]; exact q.1) (State.isArrayOf_alike K.2.1.alike q.2.1) q.2.2 (own_in hj hk r1) (by rw [(own_ix hj).2]; exact r2 k hk) (g := mkF m pc Ls (.int j :: .ref a :: st)) rfl rfl (hb K.2.2.1 hd) _ hr) G
theorem g_bastore (K : Cx p s m meth c Z own nm bytes maxL ret) (W : Wd p l e R s m args below meth c n0 T h cs ss) {a : Addr} {n k : Nat} {f : Nat → Int32} {j x : Int32} (A : AyI Z h a .byte n f) (hj : j.toInt = (k : Int)) (hk : k < n) (ha : n0 ≤ a) (hd : decode bytes pc = .ok (.bastore, 1)) (hp : pc + 1 = pc')
    (G : ∀ T' h', Wd p l e R s m args below meth c n0 T' h' cs ss → Wr h h' a k (.int x.toInt8.toInt32) → AyI Z h' a .byte n (upd f k x.toInt8.toInt32) → Go p e below s n0 Q rc rs T' (mkF m pc' Ls st)) : Go p e below s n0 Q rc rs T (mkF m pc Ls (.int x :: .int j :: .ref a :: st)) := by
  obtain ⟨locs, X, N, eT, z⟩ := W; subst hp
  have A0 := A
  obtain ⟨cl, q, r1, r2⟩ := A
  obtain ⟨T', h', X', e', w', st'⟩ := stB X K.1 K.2.1 eT q (own_in hj hk r1) (g := mkF m pc Ls (.int x :: .int j :: .ref a :: st)) rfl rfl (hb K.2.2.1 hd)
  rw [(own_ix hj).2] at w' X'
  exact Go.stp st' (G T' h' ⟨_, X', Fr.snoc X' N ha, e', z⟩ w' (A0.same w'))
theorem g_zastore (K : Cx p s m meth c Z own nm bytes maxL ret) (W : Wd p l e R s m args below meth c n0 T h cs ss) {a : Addr} {n k : Nat} {f : Nat → Int32} {j x : Int32} (A : AyI Z h a .boolean n f) (hj : j.toInt = (k : Int)) (hk : k < n) (ha : n0 ≤ a) (hd : decode bytes pc = .ok (.bastore, 1)) (hp : pc + 1 = pc')
    (G : ∀ T' h', Wd p l e R s m args below meth c n0 T' h' cs ss → Wr h h' a k (.int (x &&& 1)) → AyI Z h' a .boolean n (upd f k (x &&& 1)) → Go p e below s n0 Q rc rs T' (mkF m pc' Ls st)) : Go p e below s n0 Q rc rs T (mkF m pc Ls (.int x :: .int j :: .ref a :: st)) := by
  obtain ⟨locs, X, N, eT, z⟩ := W; subst hp
  have A0 := A
  obtain ⟨cl, q, r1, r2⟩ := A
  obtain ⟨T', h', X', e', w', st'⟩ := stZ X K.1 K.2.1 eT q (own_in hj hk r1) (g := mkF m pc Ls (.int x :: .int j :: .ref a :: st)) rfl rfl (hb K.2.2.1 hd)
  rw [(own_ix hj).2] at w' X'
  exact Go.stp st' (G T' h' ⟨_, X', Fr.snoc X' N ha, e', z⟩ w' (A0.same w'))
theorem g_iastore (K : Cx p s m meth c Z own nm bytes maxL ret) (W : Wd p l e R s m args below meth c n0 T h cs ss) {a : Addr} {n k : Nat} {f : Nat → Int32} {j x : Int32} (A : AyI Z h a .int n f) (hj : j.toInt = (k : Int)) (hk : k < n) (ha : n0 ≤ a) (hd : decode bytes pc = .ok (.iastore, 1)) (hp : pc + 1 = pc')
    (G : ∀ T' h', Wd p l e R s m args below meth c n0 T' h' cs ss → Wr h h' a k (.int x) → AyI Z h' a .int n (upd f k x) → Go p e below s n0 Q rc rs T' (mkF m pc' Ls st)) : Go p e below s n0 Q rc rs T (mkF m pc Ls (.int x :: .int j :: .ref a :: st)) := by
  obtain ⟨locs, X, N, eT, z⟩ := W; subst hp
  have A0 := A
  obtain ⟨cl, q, r1, r2⟩ := A
  obtain ⟨T', h', X', e', w', st'⟩ := stI X K.1 K.2.1 eT q (own_in hj hk r1) (g := mkF m pc Ls (.int x :: .int j :: .ref a :: st)) rfl rfl (hb K.2.2.1 hd)
  rw [(own_ix hj).2] at w' X'
  exact Go.stp st' (G T' h' ⟨_, X', Fr.snoc X' N ha, e', z⟩ w' (A0.same w'))
theorem g_lastore (K : Cx p s m meth c Z own nm bytes maxL ret) (W : Wd p l e R s m args below meth c n0 T h cs ss) {a : Addr} {n k : Nat} {f : Nat → Int64} {j : Int32} {x : Int64} (A : AyJ Z h a n f) (hj : j.toInt = (k : Int)) (hk : k < n) (ha : n0 ≤ a) (hd : decode bytes pc = .ok (.lastore, 1)) (hp : pc + 1 = pc')
    (G : ∀ T' h', Wd p l e R s m args below meth c n0 T' h' cs ss → Wr h h' a k (.long x) → AyJ Z h' a n (upd f k x) → Go p e below s n0 Q rc rs T' (mkF m pc' Ls st)) : Go p e below s n0 Q rc rs T (mkF m pc Ls (.long x :: .int j :: .ref a :: st)) := by
  obtain ⟨locs, X, N, eT, z⟩ := W; subst hp
  have A0 := A
  obtain ⟨cl, q, r1, r2⟩ := A
  obtain ⟨T', h', X', e', w', st'⟩ := stJ X K.1 K.2.1 eT q (own_in hj hk r1) (g := mkF m pc Ls (.long x :: .int j :: .ref a :: st)) rfl rfl (hb K.2.2.1 hd)
  rw [(own_ix hj).2] at w' X'
  exact Go.stp st' (G T' h' ⟨_, X', Fr.snoc X' N ha, e', z⟩ w' (A0.same w'))
theorem g_newI (K : Cx p s m meth c Z own nm bytes maxL ret) (W : Wd p l e R s m args below meth c n0 T h cs ss) {aty : ArrayType} {ty : FieldType} {j : Int32} {n cap : Nat} (w : (Jvm.Cond.arrayClass ty).before a0 Z = true) (hty : newarray.typeOf aty = ty) (hdf : defaultValue ty = .int 0) (hj : j.toInt = (n : Int)) (hcap : n ≤ cap) (hd : decode bytes pc = .ok (.newarray aty, 2)) (hp : pc + 2 = pc') (hb8 : cap * 8 ≤ 536870912) (hc : cs + 1 ≤ R.cells) (hl : ss + cap ≤ R.slots)
    (G : ∀ T' h' a, Wd p l e R s m args below meth c n0 T' h' (cs + 1) (ss + cap) → Ext h h' → a = h.size → n0 ≤ a → AyI Z h' a ty n (fun _ => 0) → Go p e below s n0 Q rc rs T' (mkF m pc' Ls (.ref a :: st))) : Go p e below s n0 Q rc rs T (mkF m pc Ls (.int j :: st)) := by
  have zz := W.sz
  obtain ⟨locs, X, N, eT, z⟩ := W; subst hp hty
  obtain ⟨T', h', kA, X', e', E, A, q⟩ := newP X K.1 K.2.1 w eT (g := mkF m pc Ls (.int j :: st)) rfl (hb K.2.2.1 hd) rfl (own_ix hj).1 (cap := cap) (by rw [(own_ix hj).2]; exact hcap) hb8 hc hl
  refine Go.stp q (G T' h' _ ⟨_, X', N, e', z⟩ E rfl zz ⟨_, A, by rw [sz_new, (own_ix hj).2], fun i hi => ?_⟩)
  rw [← hdf]
  simp [newA, (own_ix hj).2, hi]
theorem g_newJ (K : Cx p s m meth c Z own nm bytes maxL ret) (W : Wd p l e R s m args below meth c n0 T h cs ss) {j : Int32} {n cap : Nat} (w : (Jvm.Cond.arrayClass .long).before a0 Z = true) (hj : j.toInt = (n : Int)) (hcap : n ≤ cap) (hd : decode bytes pc = .ok (.newarray .long, 2)) (hp : pc + 2 = pc') (hb8 : cap * 8 ≤ 536870912) (hc : cs + 1 ≤ R.cells) (hl : ss + cap ≤ R.slots)
    (G : ∀ T' h' a, Wd p l e R s m args below meth c n0 T' h' (cs + 1) (ss + cap) → Ext h h' → a = h.size → n0 ≤ a → AyJ Z h' a n (fun _ => 0) → Go p e below s n0 Q rc rs T' (mkF m pc' Ls (.ref a :: st))) : Go p e below s n0 Q rc rs T (mkF m pc Ls (.int j :: st)) := by
  have zz := W.sz
  obtain ⟨locs, X, N, eT, z⟩ := W; subst hp
  obtain ⟨T', h', kA, X', e', E, A, q⟩ := newP X K.1 K.2.1 (aty := .long) w eT (g := mkF m pc Ls (.int j :: st)) rfl (hb K.2.2.1 hd) rfl (own_ix hj).1 (cap := cap) (by rw [(own_ix hj).2]; exact hcap) hb8 hc hl
  refine Go.stp q (G T' h' _ ⟨_, X', N, e', z⟩ E rfl zz ⟨_, A, by rw [sz_new, (own_ix hj).2], fun i hi => ?_⟩)
  rw [show (Value.long 0) = defaultValue .long from rfl]
  simp [newA, (own_ix hj).2, hi, newarray.typeOf]
end OwnBase
section OwnObj
variable {p : Program} {l : Launch} {e : Env} {R : Room} {s : State} {m : MethodId} {args : Array Value} {below : List Frame} {meth : Method} {c : Code} {Z : State} {own nm : String} {bytes : ByteArray} {maxL : Nat} {ret : Option FieldType} {T : State} {h : Heap} {cs ss n0 : Nat} {Q : Option Value → Heap → Prop} {rc rs : Nat} {pc pc' pf pt : Nat} {Ls Ls' : Array Slot} {st rest : List Value} {a0 : Array Value}
theorem g_initO (K : Cx p s m meth c Z own nm bytes maxL ret) (W : Wd p l e R s m args below meth c n0 T h cs ss) {idx : Nat} {a : Addr} (w1 : (Jvm.Cond.methodLink own idx Lib.objectInit).before a0 Z = true) (w2 : (Jvm.Cond.instanceMethod Lib.objectInit).before a0 Z = true) (w3 : (Jvm.Cond.code Lib.objectInit object_method_1_code 1 none).before a0 Z = true) (hsz : Ls.size = maxL) (hd : decode bytes pc = .ok (.invokespecial idx, 3)) (hp : pc + 3 = pc') (hf : 1 ≤ R.frames) {wt : Nat} (hwt : (st.map fun v => v.category).sum = wt) (hl : wt + 12 ≤ R.locals)
    (G : ∀ T', Wd p l e R s m args below meth c n0 T' h cs ss → Go p e below s n0 Q rc rs T' (mkF m pc' Ls st)) : Go p e below s n0 Q rc rs T (mkF m pc Ls (.ref a :: st)) := by
  obtain ⟨locs, X, N, eT, z⟩ := W; subst hp hwt
  obtain ⟨T', X', e', q⟩ := initO X K.1 K.2.1 K.2.2.2.2.1 w1 w2 w3 eT (g := mkF m pc Ls (.ref a :: st)) rfl (hsz.trans K.2.2.2.1.symm) rfl (hb K.2.2.1 hd) hf (W := (st.map fun v => v.category).sum) (by show 2 * 0 + _ ≤ _; omega) hl
  exact Go.stp q (G T' ⟨locs, X', N, e', z⟩)
end OwnObj
section OwnNest
variable {p : Program} {l : Launch} {e : Env} {R : Room} {s : State} {m : MethodId} {args : Array Value} {below : List Frame} {meth : Method} {c : Code} {Z : State} {own nm : String} {bytes : ByteArray} {maxL : Nat} {ret : Option FieldType} {T : State} {h : Heap} {cs ss n0 : Nat} {Q : Option Value → Heap → Prop} {rc rs : Nat} {pc pc' pf pt : Nat} {Ls Ls' : Array Slot} {st rest : List Value} {a0 : Array Value}
/-- getfield whose entry is resolved already -/
theorem g_getFR (K : Cx p s m meth c Z own nm bytes maxL ret) (W : Wd p l e R s m args below meth c n0 T h cs ss) {O n d : String} {index : Nat} {a : Addr} {v : Value} (w : (Jvm.Cond.fieldRef own index O n d).before a0 Z = true) (F : Fld Z h a O n d v) (hd : decode bytes pc = .ok (.getfield index, 3)) (hp : pc + 3 = pc')
    (G : ∀ T', Wd p l e R s m args below meth c n0 T' h cs ss → Go p e below s n0 Q rc rs T' (mkF m pc' Ls (v :: st))) : Go p e below s n0 Q rc rs T (mkF m pc Ls (.ref a :: st)) := by
  have W0 := W
  obtain ⟨locs, X, N, eT, z⟩ := W; subst hp
  have hU : Z.Warmed39 T.vm := wtrans K.2.1 X.warmed
  have w' := Jvm.Cond.fieldRef_warmed39 hU w
  obtain ⟨cell, cf, k, i, f, h1, h2, h3, h4, -, -, h7⟩ := F
  obtain ⟨k', hi, -⟩ := State.fieldFound?_setVm (s := Z) hU.alike h2
  have hcur : (Z.setVm T.vm).vm.findClass own = some m.cls := by
    show T.vm.findClass own = some m.cls
    rw [X.warmed.alike.findClass]; exact K.2.2.2.2.1
  obtain ⟨c1, k1, i1, f1, g1, g2⟩ := Jvm.Cond.fieldRef_spec hcur w'
  cases hi.symm.trans g1
  exact Go.stp (g' := mkF m (pc + 3) Ls (v :: st)) (fun _ hr => (X.getfieldR K.1 (g := mkF m pc Ls (.ref a :: st)) rfl g2 h3 rfl (by rw [eT]; exact h1) h4 h7 (hb K.2.2.1 hd) (Steps.refl _)).trans hr) (G T W0)
/-- a constructor whose entry is resolved already -/
theorem g_callNR {y : MethodName} {yb : ByteArray} {yl : Nat} {rm : Room} {argsL : List Value} {Qc : Option Value → Heap → Prop} {index : Nat} {a : Addr} (M : Mt l Z y yb yl none rm n0 (.ref a :: argsL).toArray h Qc) (K : Cx p s m meth c Z own nm bytes maxL ret) (W : Wd p l e R s m args below meth c n0 T h cs ss) (hy1 : y.name = "<init>")
    (wl : (Jvm.Cond.methodRef own index y).before a0 Z = true) (ws : (Jvm.Cond.instanceMethod y).before a0 Z = true) (wi : (Jvm.Cond.initialized y.cls).before a0 Z = true) (wc : (Jvm.Cond.code y yb yl none).before a0 Z = true) (hy : y.cls ≠ "java/lang/invoke/MethodHandle" ∧ y.cls ≠ "java/lang/invoke/VarHandle")
    (hlen : ∀ sig, parseMethodDescriptor y.desc = some sig → argsL.length = sig.parameters.length) (hd : decode bytes pc = .ok (.invokespecial index, 3)) (hp : pc + 3 = pc') (hst : st = argsL.reverse ++ .ref a :: rest) (hsz : Ls.size = maxL) (hf : rm.frames + 1 ≤ R.frames) {wt : Nat} (hwt : (rest.map fun v => v.category).sum = wt) (hl : wt + (yl + 11) + rm.locals ≤ R.locals) (hc : cs + rm.cells ≤ R.cells) (hs : ss + rm.slots ≤ R.slots)
    (G : ∀ T' h' v, Wd p l e R s m args below meth c n0 T' h' (cs + rm.cells) (ss + rm.slots) → Qc v h' → Go p e below s n0 Q rc rs T' (mkF m pc' Ls (v.toList ++ rest))) : Go p e below s n0 Q rc rs T (mkF m pc Ls st) := by
  obtain ⟨locs, X, N, eT, z⟩ := W; subst hp hwt
  have hready : ∀ (U : State) (r : MethodId), s.WarmedH U.vm → s.methodNamed? y = some r → namesResolved U.vm m.cls index r.cls ∧ U.vm.methodReady m.cls index r := by
    intro U r hU hn
    have hZU : Z.Warmed39 U.vm := wtrans K.2.1 hU
    have hnZ : Z.methodNamed? y = some r := by
      have q : (Z.setVm s.vm).methodNamed? y = some r := hn
      rw [State.methodNamed?_setVm K.2.1.alike] at q; exact q
    have hnU : (Z.setVm U.vm).methodNamed? y = some r := by rw [State.methodNamed?_setVm hZU.alike]; exact hnZ
    have hcur : (Z.setVm U.vm).vm.findClass own = some m.cls := by
      show U.vm.findClass own = some m.cls
      rw [hU.alike.findClass]; exact K.2.2.2.2.1
    obtain ⟨m', c', f1, f2, f3, f4⟩ := Jvm.Cond.methodRef_named e hcur (Jvm.Cond.methodRef_warmed39 hZU hnZ hy wl)
    cases (State.methodFound?_of_named hnU hy).symm.trans f1
    cases (findClass_of_methodNamed hnU).symm.trans f3
    exact ⟨f4, f2⟩
  have S : SCall p l e R s m args below meth c index y := SCall.of_ready K.1 hy1 (mvT K.2.1 ws) (mvT K.2.1 wc) hready
  obtain ⟨v, _, ⟨T', L', k', n'⟩, -, X', ⟨Lc, hQ, l1, l2, l3⟩, q⟩ := S X (backOf (W := (rest.map fun v => v.category).sum) (Q := fun v hh L => Qc v hh ∧ Fr n0 L) (M []) K.2.1 wc wi hf hl) (g := mkF m pc Ls st) rfl (hsz.trans K.2.2.2.1.symm) (Steps.refl _) (a := a) (argsL := argsL) (rest := rest) hlen hst (by show 2 * 0 + _ ≤ _; omega) (hb K.2.2.1 hd) (fun _ _ => ⟨rfl, eT, hc, hs⟩)
  dsimp only [Pt.U, Pt.locs, Pt.cells, Pt.slots] at X' l1 l2 l3 q hQ
  subst l1 l2 l3
  exact Go.stp (fun _ k => q.trans k) (G T' T'.heap v ⟨_, X', Fr.app N hQ.2, rfl, z⟩ hQ.1)
/-- a private method of a class of the same nest -/
theorem g_callPN {y : MethodName} {yb : ByteArray} {yl : Nat} {yr : Option FieldType} {rm : Room} {argsL : List Value} {Qc : Option Value → Heap → Prop} {index : Nat} {a : Addr} {host : String} (M : Mt l Z y yb yl yr rm n0 (.ref a :: argsL).toArray h Qc) (K : Cx p s m meth c Z own nm bytes maxL ret) (W : Wd p l e R s m args below meth c n0 T h cs ss) (hcell : ∃ c : Cell, h[a]? = some c ∧ ∀ q, c.vm ≠ .statics q)
    (wl : (Jvm.Cond.methodLinkNest own index y host).before a0 Z = true) (ws : (Jvm.Cond.instanceMethod y).before a0 Z = true) {kk : Nat} (wk : (Jvm.Cond.instantiable y.cls kk).before a0 Z = true) (wp : (Jvm.Cond.privateMethod y).before a0 Z = true) (wi : (Jvm.Cond.initialized y.cls).before a0 Z = true) (wc : (Jvm.Cond.code y yb yl yr).before a0 Z = true) (hy : y.cls ≠ "java/lang/invoke/MethodHandle" ∧ y.cls ≠ "java/lang/invoke/VarHandle")
    (hlen : ∀ sig, parseMethodDescriptor y.desc = some sig → argsL.length = sig.parameters.length) (hd : decode bytes pc = .ok (.invokevirtual index, 3)) (hp : pc + 3 = pc') (hst : st = argsL.reverse ++ .ref a :: rest) (hsz : Ls.size = maxL) (hf : rm.frames + 1 ≤ R.frames) {wt : Nat} (hwt : (rest.map fun v => v.category).sum = wt) (hl : wt + (yl + 11) + rm.locals ≤ R.locals) (hc : cs + rm.cells ≤ R.cells) (hs : ss + rm.slots ≤ R.slots)
    (G : ∀ T' h' v, Wd p l e R s m args below meth c n0 T' h' (cs + rm.cells) (ss + rm.slots) → Qc v h' → Go p e below s n0 Q rc rs T' (mkF m pc' Ls (v.toList ++ rest))) : Go p e below s n0 Q rc rs T (mkF m pc Ls st) := by
  obtain ⟨locs, X, N, eT, z⟩ := W; subst hp hwt
  obtain ⟨cl, hc1, hc2⟩ := hcell
  have wk' : (Jvm.Cond.instantiable y.cls kk).before args s = true := mvT K.2.1 wk
  obtain ⟨ck, kc, f1, f2, f3, f4, -⟩ := Jvm.Cond.instantiable_spec wk'
  have hni : kc.isInterface = false := by simpa using (Bool.or_eq_false_iff.mp f4).1
  have ws' : (Jvm.Cond.instanceMethod y).before args s = true := mvT K.2.1 ws
  have wc' : (Jvm.Cond.code y yb yl yr).before args s = true := mvT K.2.1 wc
  obtain ⟨mk, mM, hnd, hmM, hstM, habM⟩ := Jvm.Cond.instanceMethod_spec ws'
  obtain ⟨mM', cM, hmM', -, -, -, -, -, -, hsig⟩ := Jvm.Cond.code_spec hnd wc'
  cases hmM.symm.trans hmM'
  cases (findClass_of_methodNamed hnd).symm.trans f1
  have hpr : s.PrivateAt y := Jvm.Cond.privateMethod_at (mvP K.2.1 wp (args := #[]))
  have hsel : selectMethod e.platform s.vm cl.cls mk = .method mk := selectMethod_private hmM (hpr mk mM hnd hmM)
  obtain ⟨vm₁, X₁, hstep⟩ := X.invokevirtualNest K.1 K.2.2.2.2.1 (Jvm.Cond.methodLinkNest_wide K.2.1 wl :) hnd hmM hstM f2 hni hy (a := a) (cell := cl) (by rw [eT]; exact hc1) hc2 hsel hmM habM f2 hni (g := mkF m pc Ls st) rfl (argsL := argsL) (rest := rest) (hlen _ hsig) hst (hb K.2.2.1 hd)
  have B := backOf (p := p) (e := e) (below := below) (args := args) (len := 3) (R := R) (W := (rest.map fun v => v.category).sum) (Q := fun v hh L => Qc v hh ∧ Fr n0 L) (M []) K.2.1 wc wi hf hl
  obtain ⟨v, ⟨T', L', k', n'⟩, X', ⟨Lc, hQ, l1, l2, l3⟩, q⟩ := B m meth c ⟨T.setVm vm₁, locs, cs, ss⟩ { mkF m pc Ls st with stack := rest } (.invokevirtual index) mk (.ref a :: argsL).toArray X₁ rfl (hsz.trans K.2.2.2.1.symm) (hb K.2.2.1 hd) (by show 2 * 0 + (rest.map fun v => v.category).sum ≤ _; omega) (X₁.named hnd) ⟨rfl, eT, hc, hs⟩
  dsimp only [Pt.U, Pt.locs, Pt.cells, Pt.slots] at X' l1 l2 l3 q hQ
  subst l1 l2 l3
  exact Go.stp (fun _ k => (hstep _ fun acts => by rw [doInvoke_state]; exact Steps.refl _).trans (q.trans k)) (G T' T'.heap v ⟨_, X', Fr.app N hQ.2, rfl, z⟩ hQ.1)
end OwnNest
theorem d5_0 : decode jdk_29_method_66_code 0 = .ok (.lload_n 0, 1) := by decide +kernel
theorem d5_1 : decode jdk_29_method_66_code 1 = .ok (.lload_n 2, 1) := by decide +kernel
theorem d5_2 : decode jdk_29_method_66_code 2 = .ok (.lcmp, 1) := by decide +kernel
theorem d5_3 : decode jdk_29_method_66_code 3 = .ok (.ifCond .lt 7, 3) := by decide +kernel
theorem d5_6 : decode jdk_29_method_66_code 6 = .ok (.lload_n 0, 1) := by decide +kernel
theorem d5_7 : decode jdk_29_method_66_code 7 = .ok (.goto 4, 3) := by decide +kernel
theorem d5_10 : decode jdk_29_method_66_code 10 = .ok (.lload_n 2, 1) := by decide +kernel
theorem d5_11 : decode jdk_29_method_66_code 11 = .ok (.lreturn, 1) := by decide +kernel
theorem pn_0 : plainName "com/example/fanout/fanout/server/MemoryBudget" = true := by first | (simp [plainName, overriddenIn]; done) | decide +kernel
theorem d1_0 : decode prog_9_method_1_code 0 = .ok (.aload_n 0, 1) := by decide +kernel
theorem d1_1 : decode prog_9_method_1_code 1 = .ok (.invokespecial 1, 3) := by decide +kernel
theorem d1_4 : decode prog_9_method_1_code 4 = .ok (.aload_n 0, 1) := by decide +kernel
theorem d1_5 : decode prog_9_method_1_code 5 = .ok (.lload_n 1, 1) := by decide +kernel
theorem d1_6 : decode prog_9_method_1_code 6 = .ok (.putfield 7, 3) := by decide +kernel
theorem d1_9 : decode prog_9_method_1_code 9 = .ok (.return_, 1) := by decide +kernel
theorem d7_0 : decode prog_9_method_7_code 0 = .ok (.aload_n 0, 1) := by decide +kernel
theorem d7_1 : decode prog_9_method_7_code 1 = .ok (.dup, 1) := by decide +kernel
theorem d7_2 : decode prog_9_method_7_code 2 = .ok (.getfield 13, 3) := by decide +kernel
theorem d7_5 : decode prog_9_method_7_code 5 = .ok (.lload_n 1, 1) := by decide +kernel
theorem d7_6 : decode prog_9_method_7_code 6 = .ok (.ladd, 1) := by decide +kernel
theorem d7_7 : decode prog_9_method_7_code 7 = .ok (.putfield 13, 3) := by decide +kernel
theorem d7_10 : decode prog_9_method_7_code 10 = .ok (.return_, 1) := by decide +kernel
theorem d12_0 : decode prog_9_method_8_code 0 = .ok (.aload_n 0, 1) := by decide +kernel
theorem d12_1 : decode prog_9_method_8_code 1 = .ok (.dup, 1) := by decide +kernel
theorem d12_2 : decode prog_9_method_8_code 2 = .ok (.getfield 13, 3) := by decide +kernel
theorem d12_5 : decode prog_9_method_8_code 5 = .ok (.lload_n 1, 1) := by decide +kernel
theorem d12_6 : decode prog_9_method_8_code 6 = .ok (.lsub, 1) := by decide +kernel
theorem d12_7 : decode prog_9_method_8_code 7 = .ok (.putfield 13, 3) := by decide +kernel
theorem d12_10 : decode prog_9_method_8_code 10 = .ok (.return_, 1) := by decide +kernel
theorem d6_0 : decode prog_9_method_9_code 0 = .ok (.aload_n 0, 1) := by decide +kernel
theorem d6_1 : decode prog_9_method_9_code 1 = .ok (.dup, 1) := by decide +kernel
theorem d6_2 : decode prog_9_method_9_code 2 = .ok (.getfield 16, 3) := by decide +kernel
theorem d6_5 : decode prog_9_method_9_code 5 = .ok (.lload_n 1, 1) := by decide +kernel
theorem d6_6 : decode prog_9_method_9_code 6 = .ok (.ladd, 1) := by decide +kernel
theorem d6_7 : decode prog_9_method_9_code 7 = .ok (.putfield 16, 3) := by decide +kernel
theorem d6_10 : decode prog_9_method_9_code 10 = .ok (.aload_n 0, 1) := by decide +kernel
theorem d6_11 : decode prog_9_method_9_code 11 = .ok (.lload_n 1, 1) := by decide +kernel
theorem d6_12 : decode prog_9_method_9_code 12 = .ok (.invokevirtual 48, 3) := by decide +kernel
theorem d6_15 : decode prog_9_method_9_code 15 = .ok (.return_, 1) := by decide +kernel
theorem pd_0 : parseMethodDescriptor "(J)V" = some ⟨[.long], none⟩ := by decide +kernel
theorem d11_0 : decode prog_9_method_10_code 0 = .ok (.aload_n 0, 1) := by decide +kernel
theorem d11_1 : decode prog_9_method_10_code 1 = .ok (.dup, 1) := by decide +kernel
theorem d11_2 : decode prog_9_method_10_code 2 = .ok (.getfield 16, 3) := by decide +kernel
theorem d11_5 : decode prog_9_method_10_code 5 = .ok (.lload_n 1, 1) := by decide +kernel
theorem d11_6 : decode prog_9_method_10_code 6 = .ok (.lsub, 1) := by decide +kernel
theorem d11_7 : decode prog_9_method_10_code 7 = .ok (.putfield 16, 3) := by decide +kernel
theorem d11_10 : decode prog_9_method_10_code 10 = .ok (.aload_n 0, 1) := by decide +kernel
theorem d11_11 : decode prog_9_method_10_code 11 = .ok (.lload_n 1, 1) := by decide +kernel
theorem d11_12 : decode prog_9_method_10_code 12 = .ok (.invokevirtual 51, 3) := by decide +kernel
theorem d11_15 : decode prog_9_method_10_code 15 = .ok (.return_, 1) := by decide +kernel
theorem pn_1 : plainName "com/example/fanout/fanout/server/MemoryBudget$Charge" = true := by first | (simp [plainName, overriddenIn]; done) | decide +kernel
theorem d4_0 : decode prog_10_method_1_code 0 = .ok (.aload_n 0, 1) := by decide +kernel
theorem d4_1 : decode prog_10_method_1_code 1 = .ok (.invokespecial 3, 3) := by decide +kernel
theorem d4_4 : decode prog_10_method_1_code 4 = .ok (.aload_n 0, 1) := by decide +kernel
theorem d4_5 : decode prog_10_method_1_code 5 = .ok (.iconst 1, 1) := by decide +kernel
theorem d4_6 : decode prog_10_method_1_code 6 = .ok (.putfield 9, 3) := by decide +kernel
theorem d4_9 : decode prog_10_method_1_code 9 = .ok (.aload_n 0, 1) := by decide +kernel
theorem d4_10 : decode prog_10_method_1_code 10 = .ok (.aload_n 1, 1) := by decide +kernel
theorem d4_11 : decode prog_10_method_1_code 11 = .ok (.putfield 15, 3) := by decide +kernel
theorem d4_14 : decode prog_10_method_1_code 14 = .ok (.aload_n 0, 1) := by decide +kernel
theorem d4_15 : decode prog_10_method_1_code 15 = .ok (.lload_n 2, 1) := by decide +kernel
theorem d4_16 : decode prog_10_method_1_code 16 = .ok (.putfield 19, 3) := by decide +kernel
theorem d4_19 : decode prog_10_method_1_code 19 = .ok (.return_, 1) := by decide +kernel
theorem d3_0 : decode prog_9_method_6_code 0 = .ok (.new 28, 3) := by decide +kernel
theorem d3_3 : decode prog_9_method_6_code 3 = .ok (.dup, 1) := by decide +kernel
theorem d3_4 : decode prog_9_method_6_code 4 = .ok (.aload_n 0, 1) := by decide +kernel
theorem d3_5 : decode prog_9_method_6_code 5 = .ok (.lload_n 1, 1) := by decide +kernel
theorem d3_6 : decode prog_9_method_6_code 6 = .ok (.ldc2_w 30, 3) := by decide +kernel
theorem d3_9 : decode prog_9_method_6_code 9 = .ok (.ladd, 1) := by decide +kernel
theorem d3_10 : decode prog_9_method_6_code 10 = .ok (.invokespecial 32, 3) := by decide +kernel
theorem d3_13 : decode prog_9_method_6_code 13 = .ok (.astore_n 3, 1) := by decide +kernel
theorem d3_14 : decode prog_9_method_6_code 14 = .ok (.aload_n 0, 1) := by decide +kernel
theorem d3_15 : decode prog_9_method_6_code 15 = .ok (.aload_n 0, 1) := by decide +kernel
theorem d3_16 : decode prog_9_method_6_code 16 = .ok (.getfield 19, 3) := by decide +kernel
theorem d3_19 : decode prog_9_method_6_code 19 = .ok (.aload_n 3, 1) := by decide +kernel
theorem d3_20 : decode prog_9_method_6_code 20 = .ok (.getfield 35, 3) := by decide +kernel
theorem d3_23 : decode prog_9_method_6_code 23 = .ok (.invokestatic 38, 3) := by decide +kernel
theorem d3_26 : decode prog_9_method_6_code 26 = .ok (.putfield 19, 3) := by decide +kernel
theorem d3_29 : decode prog_9_method_6_code 29 = .ok (.aload_n 0, 1) := by decide +kernel
theorem d3_30 : decode prog_9_method_6_code 30 = .ok (.aload_n 3, 1) := by decide +kernel
theorem d3_31 : decode prog_9_method_6_code 31 = .ok (.getfield 35, 3) := by decide +kernel
theorem d3_34 : decode prog_9_method_6_code 34 = .ok (.invokevirtual 44, 3) := by decide +kernel
theorem d3_37 : decode prog_9_method_6_code 37 = .ok (.aload_n 3, 1) := by decide +kernel
theorem d3_38 : decode prog_9_method_6_code 38 = .ok (.areturn, 1) := by decide +kernel
theorem pd_1 : parseMethodDescriptor "(Lcom/example/fanout/fanout/server/MemoryBudget;J)V" = some ⟨[(.object "com/example/fanout/fanout/server/MemoryBudget"), .long], none⟩ := by decide +kernel
theorem pd_2 : parseMethodDescriptor "(JJ)J" = some ⟨[.long, .long], some .long⟩ := by decide +kernel
theorem d8_0 : decode prog_9_method_4_code 0 = .ok (.aload_n 0, 1) := by decide +kernel
theorem d8_1 : decode prog_9_method_4_code 1 = .ok (.getfield 16, 3) := by decide +kernel
theorem d8_4 : decode prog_9_method_4_code 4 = .ok (.aload_n 0, 1) := by decide +kernel
theorem d8_5 : decode prog_9_method_4_code 5 = .ok (.getfield 19, 3) := by decide +kernel
theorem d8_8 : decode prog_9_method_4_code 8 = .ok (.lsub, 1) := by decide +kernel
theorem d8_9 : decode prog_9_method_4_code 9 = .ok (.aload_n 0, 1) := by decide +kernel
theorem d8_10 : decode prog_9_method_4_code 10 = .ok (.getfield 7, 3) := by decide +kernel
theorem d8_13 : decode prog_9_method_4_code 13 = .ok (.lcmp, 1) := by decide +kernel
theorem d8_14 : decode prog_9_method_4_code 14 = .ok (.ifCond .lt 7, 3) := by decide +kernel
theorem d8_17 : decode prog_9_method_4_code 17 = .ok (.iconst 1, 1) := by decide +kernel
theorem d8_18 : decode prog_9_method_4_code 18 = .ok (.goto 4, 3) := by decide +kernel
theorem d8_21 : decode prog_9_method_4_code 21 = .ok (.iconst 0, 1) := by decide +kernel
theorem d8_22 : decode prog_9_method_4_code 22 = .ok (.ireturn, 1) := by decide +kernel
theorem d10_0 : decode prog_10_method_4_code 0 = .ok (.aload_n 0, 1) := by decide +kernel
theorem d10_1 : decode prog_10_method_4_code 1 = .ok (.getfield 9, 3) := by decide +kernel
theorem d10_4 : decode prog_10_method_4_code 4 = .ok (.ifCond .eq 19, 3) := by decide +kernel
theorem d10_7 : decode prog_10_method_4_code 7 = .ok (.aload_n 0, 1) := by decide +kernel
theorem d10_8 : decode prog_10_method_4_code 8 = .ok (.iconst 0, 1) := by decide +kernel
theorem d10_9 : decode prog_10_method_4_code 9 = .ok (.putfield 9, 3) := by decide +kernel
theorem d10_12 : decode prog_10_method_4_code 12 = .ok (.aload_n 0, 1) := by decide +kernel
theorem d10_13 : decode prog_10_method_4_code 13 = .ok (.getfield 15, 3) := by decide +kernel
theorem d10_16 : decode prog_10_method_4_code 16 = .ok (.aload_n 0, 1) := by decide +kernel
theorem d10_17 : decode prog_10_method_4_code 17 = .ok (.getfield 19, 3) := by decide +kernel
theorem d10_20 : decode prog_10_method_4_code 20 = .ok (.invokevirtual 42, 3) := by decide +kernel
theorem d10_23 : decode prog_10_method_4_code 23 = .ok (.return_, 1) := by decide +kernel
theorem d9_0 : decode prog_10_method_2_code 0 = .ok (.iload_n 1, 1) := by decide +kernel
theorem d9_1 : decode prog_10_method_2_code 1 = .ok (.ifCond .le 26, 3) := by decide +kernel
theorem d9_4 : decode prog_10_method_2_code 4 = .ok (.aload_n 0, 1) := by decide +kernel
theorem d9_5 : decode prog_10_method_2_code 5 = .ok (.getfield 9, 3) := by decide +kernel
theorem d9_8 : decode prog_10_method_2_code 8 = .ok (.ifCond .ne 19, 3) := by decide +kernel
theorem d9_11 : decode prog_10_method_2_code 11 = .ok (.aload_n 0, 1) := by decide +kernel
theorem d9_12 : decode prog_10_method_2_code 12 = .ok (.iconst 1, 1) := by decide +kernel
theorem d9_13 : decode prog_10_method_2_code 13 = .ok (.putfield 9, 3) := by decide +kernel
theorem d9_16 : decode prog_10_method_2_code 16 = .ok (.aload_n 0, 1) := by decide +kernel
theorem d9_17 : decode prog_10_method_2_code 17 = .ok (.getfield 15, 3) := by decide +kernel
theorem d9_20 : decode prog_10_method_2_code 20 = .ok (.aload_n 0, 1) := by decide +kernel
theorem d9_21 : decode prog_10_method_2_code 21 = .ok (.getfield 19, 3) := by decide +kernel
theorem d9_24 : decode prog_10_method_2_code 24 = .ok (.invokevirtual 23, 3) := by decide +kernel
theorem d9_27 : decode prog_10_method_2_code 27 = .ok (.aload_n 0, 1) := by decide +kernel
theorem d9_28 : decode prog_10_method_2_code 28 = .ok (.dup, 1) := by decide +kernel
theorem d9_29 : decode prog_10_method_2_code 29 = .ok (.getfield 27, 3) := by decide +kernel
theorem d9_32 : decode prog_10_method_2_code 32 = .ok (.iload_n 1, 1) := by decide +kernel
theorem d9_33 : decode prog_10_method_2_code 33 = .ok (.iadd, 1) := by decide +kernel
theorem d9_34 : decode prog_10_method_2_code 34 = .ok (.putfield 27, 3) := by decide +kernel
theorem d9_37 : decode prog_10_method_2_code 37 = .ok (.aload_n 0, 1) := by decide +kernel
theorem d9_38 : decode prog_10_method_2_code 38 = .ok (.getfield 15, 3) := by decide +kernel
theorem d9_41 : decode prog_10_method_2_code 41 = .ok (.iload_n 1, 1) := by decide +kernel
theorem d9_42 : decode prog_10_method_2_code 42 = .ok (.i2l, 1) := by decide +kernel
theorem d9_43 : decode prog_10_method_2_code 43 = .ok (.ldc2_w 31, 3) := by decide +kernel
theorem d9_46 : decode prog_10_method_2_code 46 = .ok (.lmul, 1) := by decide +kernel
theorem d9_47 : decode prog_10_method_2_code 47 = .ok (.invokevirtual 33, 3) := by decide +kernel
theorem d9_50 : decode prog_10_method_2_code 50 = .ok (.aload_n 0, 1) := by decide +kernel
theorem d9_51 : decode prog_10_method_2_code 51 = .ok (.getfield 27, 3) := by decide +kernel
theorem d9_54 : decode prog_10_method_2_code 54 = .ok (.ifCond .ne 7, 3) := by decide +kernel
theorem d9_57 : decode prog_10_method_2_code 57 = .ok (.aload_n 0, 1) := by decide +kernel
theorem d9_58 : decode prog_10_method_2_code 58 = .ok (.invokevirtual 36, 3) := by decide +kernel
theorem d9_61 : decode prog_10_method_2_code 61 = .ok (.return_, 1) := by decide +kernel
theorem pn_2 : plainName "com/example/fanout/fanout/server/MemoryBudgetIsOverdrawnPinLaw" = true := by first | (simp [plainName, overriddenIn]; done) | decide +kernel
theorem pd_3 : parseMethodDescriptor "()Z" = some ⟨[], some .boolean⟩ := by decide +kernel
theorem pd_4 : parseMethodDescriptor "(J)Lcom/example/fanout/fanout/server/MemoryBudget$Charge;" = some ⟨[.long], some (.object "com/example/fanout/fanout/server/MemoryBudget$Charge")⟩ := by decide +kernel
theorem pd_5 : parseMethodDescriptor "()V" = some ⟨[], none⟩ := by decide +kernel
theorem pd_6 : parseMethodDescriptor "(I)V" = some ⟨[.int], none⟩ := by decide +kernel
/-! numbers -/
theorem own_ofNat {n : Nat} (hn : n < 2147483648) : (Int32.ofNat n).toInt = (n : Int) := Int32.toInt_ofNat_of_lt hn
theorem own_and_nat (x : Int32) (m : Nat) (hm : m < 2147483648) : ∃ k : Nat, k ≤ m ∧ (x &&& Int32.ofNat m) = Int32.ofNat k := by
  refine ⟨(x &&& Int32.ofNat m).toBitVec.toNat, ?_, ?_⟩
  · simp only [Int32.toBitVec_and, BitVec.toNat_and]
    refine Nat.le_trans Nat.and_le_right ?_
    show (BitVec.ofNat 32 m).toNat ≤ m
    rw [BitVec.toNat_ofNat]
    exact Nat.mod_le _ _
  · apply Int32.toBitVec_inj.mp
    show _ = BitVec.ofNat 32 _
    rw [BitVec.ofNat_toNat]; simp
theorem own_rem (x : Int32) (n : Nat) (h1 : 0 < n) (h2 : n < 2147483648) : ∃ k : Nat, k < n ∧ ((x &&& (2147483647 : Int32)) % Int32.ofNat n).toInt = (k : Int) := by
  obtain ⟨j, hj, e⟩ := own_and_nat x 2147483647 (by decide)
  refine ⟨j % n, Nat.mod_lt _ h1, ?_⟩
  have e' : (x &&& (2147483647 : Int32)) = Int32.ofNat j := e
  rw [e', Int32.toInt_mod, own_ofNat (by omega), own_ofNat h2]
  exact (Int.ofNat_tmod j n).symm

def own_max (a b : Int64) : Int64 := if a < b then b else a
theorem own_and3 (x : Int32) : (x &&& 3) = 0 ∨ (x &&& 3) = 1 ∨ (x &&& 3) = 2 ∨ (x &&& 3) = 3 := by
  obtain ⟨k, hk, e⟩ := own_and_nat x 3 (by decide)
  rw [show (x &&& 3) = Int32.ofNat k from e]
  have q : ∀ n : Fin 4, Int32.ofNat n.val = 0 ∨ Int32.ofNat n.val = 1 ∨ Int32.ofNat n.val = 2 ∨ Int32.ofNat n.val = 3 := by decide +kernel
  exact q ⟨k, by omega⟩
def Q_c5 (Z : State) (n0 : Nat) (h0 : Heap) (y0 : Int64) (y1 : Int64) : Option Value → Heap → Prop := fun v h => v = some (.long (own_max y0 y1)) ∧ h0 = h
abbrev rm_c5 : Room := { frames := 0, cells := 0, slots := 0, locals := 0 }
set_option maxHeartbeats 40000000 in
theorem c5 (l : Launch) (Z : State) (a0 : Array Value) (hw : ∀ d ∈ tables_1, d.before a0 Z = true) (n0 : Nat) (h0 : Heap) (hn : n0 ≤ h0.size) (y0 : Int64) (y1 : Int64) :
    Mt l Z (⟨"java/lang/Math", "max", "(JJ)J"⟩ : MethodName) jdk_29_method_66_code 4 (some .long) rm_c5 n0 #[(.long y0), (.long y1)] h0 (Q_c5 Z n0 h0 y0 y1) := by
  refine met_of (Jvm.Free.JP.mathPlain rfl (by decide +kernel)) (Ls := #[.val (.long y0), .second, .val (.long y1), .second]) (fun m => by first | (simp [entryFrame, mkF, argsToLocals, Value.category]; done) | rfl) hn ?_
  intro p e s m below meth c T K W
  replace K : Cx p s m meth c Z "java/lang/Math" "max" jdk_29_method_66_code 4 (some .long) := K
  generalize eA : (#[(.long y0), (.long y1)] : Array Value) = args at W
  show Go p e below s n0 (Q_c5 Z n0 h0 y0 y1) 0 0 T (mkF m 0 #[.val (.long y0), .second, .val (.long y1), .second] [])
  refine g_lloadN K W d5_0 rfl (pc' := 1) rfl ?_
  refine g_lloadN K W d5_1 rfl (pc' := 2) rfl ?_
  refine g_lcmp_lt K W d5_2 (pc1 := 3) rfl d5_3 (pt := 10) rfl (pf := 6) rfl (fun hc2 => ?_) (fun hc2 => ?_)
  · refine g_lloadN K W d5_10 rfl (pc' := 11) rfl ?_
    exact g_retL K W d5_11 (by decide) (by decide) ⟨by simp [own_max, hc2], rfl⟩
  · refine g_lloadN K W d5_6 rfl (pc' := 7) rfl ?_
    refine g_goto K W d5_7 (pt := 11) rfl ?_
    exact g_retL K W d5_11 (by decide) (by decide) ⟨by simp [own_max, hc2], rfl⟩
def Q_c1 (Z : State) (n0 : Nat) (h0 : Heap) (o0 : Addr) (y1 : Int64) : Option Value → Heap → Prop := fun v h => v = none ∧ Keep h0 h [o0] ∧ Fld Z h o0 "com/example/fanout/fanout/server/MemoryBudget" "limit" "J" (.long y1) ∧ Fld Z h o0 "com/example/fanout/fanout/server/MemoryBudget" "charged" "J" (.long 0) ∧ Fld Z h o0 "com/example/fanout/fanout/server/MemoryBudget" "largestCharge" "J" (.long 0) ∧ Fld Z h o0 "com/example/fanout/fanout/server/MemoryBudget" "taken" "J" (.long 0)
abbrev rm_c1 : Room := { frames := 1, cells := 0, slots := 0, locals := 12 }
set_option maxHeartbeats 40000000 in
theorem c1 (l : Launch) (Z : State) (a0 : Array Value) (hw : ∀ d ∈ tables_1, d.before a0 Z = true) (n0 : Nat) (h0 : Heap) (hn : n0 ≤ h0.size) (o0 : Addr) (y1 : Int64) (X_o0 : Exa Z h0 o0 "com/example/fanout/fanout/server/MemoryBudget") (F_o0_limit : Fld Z h0 o0 "com/example/fanout/fanout/server/MemoryBudget" "limit" "J" (.long (0 : Int64))) (F_o0_charged : Fld Z h0 o0 "com/example/fanout/fanout/server/MemoryBudget" "charged" "J" (.long (0 : Int64))) (F_o0_largestCharge : Fld Z h0 o0 "com/example/fanout/fanout/server/MemoryBudget" "largestCharge" "J" (.long (0 : Int64))) (F_o0_taken : Fld Z h0 o0 "com/example/fanout/fanout/server/MemoryBudget" "taken" "J" (.long (0 : Int64))) (ge_o0 : n0 ≤ o0) :
    Mt l Z (⟨"com/example/fanout/fanout/server/MemoryBudget", "<init>", "(J)V"⟩ : MethodName) prog_9_method_1_code 3 none rm_c1 n0 #[(.ref o0), (.long y1)] h0 (Q_c1 Z n0 h0 o0 y1) := by
  refine met_of (plainFor_of_name pn_0) (Ls := #[.val (.ref o0), .val (.long y1), .second]) (fun m => by first | (simp [entryFrame, mkF, argsToLocals, Value.category]; done) | rfl) hn ?_
  intro p e s m below meth c T K W
  replace K : Cx p s m meth c Z "com/example/fanout/fanout/server/MemoryBudget" "<init>" prog_9_method_1_code 3 none := K
  generalize eA : (#[(.ref o0), (.long y1)] : Array Value) = args at W
  show Go p e below s n0 (Q_c1 Z n0 h0 o0 y1) 0 0 T (mkF m 0 #[.val (.ref o0), .val (.long y1), .second] [])
  have kp := Keep.refl h0 [o0]
  refine g_aloadN K W d1_0 rfl rfl (pc' := 1) rfl ?_
  refine g_initO K W (hw _ (List.mem_of_getElem? (i := 7) rfl)) (hw _ (List.mem_of_getElem? (i := 8) rfl)) (hw _ (List.mem_of_getElem? (i := 9) rfl)) rfl d1_1 (pc' := 4) rfl (by decide) (wt := 0) rfl (by decide) (fun T W => ?_)
  refine g_aloadN K W d1_4 rfl rfl (pc' := 5) rfl ?_
  refine g_lloadN K W d1_5 rfl (pc' := 6) rfl ?_
  refine g_putF K W (host := "") (Or.inl (hw _ (List.mem_of_getElem? (i := 10) rfl))) Via.refl F_o0_limit X_o0 (Or.inr ⟨(hw _ (List.mem_of_getElem? (i := 11) rfl)), rfl, rfl⟩) (hw _ (List.mem_of_getElem? (i := 2) rfl)) (ty := .long) (by decide) rfl rfl ge_o0 d1_6 (pc' := 9) rfl (fun T h W w => ?_)
  have kp := kp.wr w (Or.inl (List.mem_of_getElem? (i := 0) rfl))
  have X_o0 := X_o0.wr w
  have F_o0_charged := F_o0_charged.other w (Or.inr (slot_ne (a0 := a0) (C := "com/example/fanout/fanout/server/MemoryBudget") (Or.inl (hw _ (List.mem_of_getElem? (i := 43) rfl))) (Or.inr (hw _ (List.mem_of_getElem? (i := 11) rfl))) (by decide) (t := .long) (t' := .long) (by decide) (by decide)))
  have F_o0_largestCharge := F_o0_largestCharge.other w (Or.inr (slot_ne (a0 := a0) (C := "com/example/fanout/fanout/server/MemoryBudget") (Or.inl (hw _ (List.mem_of_getElem? (i := 32) rfl))) (Or.inr (hw _ (List.mem_of_getElem? (i := 11) rfl))) (by decide) (t := .long) (t' := .long) (by decide) (by decide)))
  have F_o0_taken := F_o0_taken.other w (Or.inr (slot_ne (a0 := a0) (C := "com/example/fanout/fanout/server/MemoryBudget") (Or.inl (hw _ (List.mem_of_getElem? (i := 50) rfl))) (Or.inr (hw _ (List.mem_of_getElem? (i := 11) rfl))) (by decide) (t := .long) (t' := .long) (by decide) (by decide)))
  have F_o0_limit := F_o0_limit.same w
  exact g_ret0 K W d1_9 (by decide) (by decide) ⟨rfl, kp, F_o0_limit, F_o0_charged, F_o0_largestCharge, F_o0_taken⟩
def Q_c7 (Z : State) (n0 : Nat) (h0 : Heap) (o0 : Addr) (y1 : Int64) (lim : Int64) (ch : Int64) (lg : Int64) (tk : Int64) : Option Value → Heap → Prop := fun v h => v = none ∧ Keep h0 h [o0] ∧ Fld Z h o0 "com/example/fanout/fanout/server/MemoryBudget" "limit" "J" (.long lim) ∧ Fld Z h o0 "com/example/fanout/fanout/server/MemoryBudget" "charged" "J" (.long ch) ∧ Fld Z h o0 "com/example/fanout/fanout/server/MemoryBudget" "largestCharge" "J" (.long lg) ∧ Fld Z h o0 "com/example/fanout/fanout/server/MemoryBudget" "taken" "J" (.long (tk + y1))
abbrev rm_c7 : Room := { frames := 0, cells := 0, slots := 0, locals := 0 }
set_option maxHeartbeats 40000000 in
theorem c7 (l : Launch) (Z : State) (a0 : Array Value) (hw : ∀ d ∈ tables_1, d.before a0 Z = true) (n0 : Nat) (h0 : Heap) (hn : n0 ≤ h0.size) (o0 : Addr) (y1 : Int64) (lim : Int64) (ch : Int64) (lg : Int64) (tk : Int64) (X_o0 : Exa Z h0 o0 "com/example/fanout/fanout/server/MemoryBudget") (F_o0_limit : Fld Z h0 o0 "com/example/fanout/fanout/server/MemoryBudget" "limit" "J" (.long lim)) (F_o0_charged : Fld Z h0 o0 "com/example/fanout/fanout/server/MemoryBudget" "charged" "J" (.long ch)) (F_o0_largestCharge : Fld Z h0 o0 "com/example/fanout/fanout/server/MemoryBudget" "largestCharge" "J" (.long lg)) (F_o0_taken : Fld Z h0 o0 "com/example/fanout/fanout/server/MemoryBudget" "taken" "J" (.long tk)) (ge_o0 : n0 ≤ o0) :
    Mt l Z (⟨"com/example/fanout/fanout/server/MemoryBudget", "take", "(J)V"⟩ : MethodName) prog_9_method_7_code 3 none rm_c7 n0 #[(.ref o0), (.long y1)] h0 (Q_c7 Z n0 h0 o0 y1 lim ch lg tk) := by
  refine met_of (plainFor_of_name pn_0) (Ls := #[.val (.ref o0), .val (.long y1), .second]) (fun m => by first | (simp [entryFrame, mkF, argsToLocals, Value.category]; done) | rfl) hn ?_
  intro p e s m below meth c T K W
  replace K : Cx p s m meth c Z "com/example/fanout/fanout/server/MemoryBudget" "take" prog_9_method_7_code 3 none := K
  generalize eA : (#[(.ref o0), (.long y1)] : Array Value) = args at W
  show Go p e below s n0 (Q_c7 Z n0 h0 o0 y1 lim ch lg tk) 0 0 T (mkF m 0 #[.val (.ref o0), .val (.long y1), .second] [])
  have kp := Keep.refl h0 [o0]
  refine g_aloadN K W d7_0 rfl rfl (pc' := 1) rfl ?_
  refine g_dup K W d7_1 rfl (pc' := 2) rfl ?_
  refine g_getF K W (host := "") (Or.inl (hw _ (List.mem_of_getElem? (i := 49) rfl))) Via.refl F_o0_taken d7_2 (pc' := 5) rfl (fun T W => ?_)
  refine g_lloadN K W d7_5 rfl (pc' := 6) rfl ?_
  refine g_ladd K W d7_6 (pc' := 7) rfl ?_
  refine g_putF K W (host := "") (Or.inl (hw _ (List.mem_of_getElem? (i := 49) rfl))) Via.refl F_o0_taken X_o0 (Or.inl (hw _ (List.mem_of_getElem? (i := 50) rfl))) (hw _ (List.mem_of_getElem? (i := 2) rfl)) (ty := .long) (by decide) rfl rfl ge_o0 d7_7 (pc' := 10) rfl (fun T h W w => ?_)
  have kp := kp.wr w (Or.inl (List.mem_of_getElem? (i := 0) rfl))
  have X_o0 := X_o0.wr w
  have F_o0_limit := F_o0_limit.other w (Or.inr (slot_ne (a0 := a0) (C := "com/example/fanout/fanout/server/MemoryBudget") (Or.inr (hw _ (List.mem_of_getElem? (i := 11) rfl))) (Or.inl (hw _ (List.mem_of_getElem? (i := 50) rfl))) (by decide) (t := .long) (t' := .long) (by decide) (by decide)))
  have F_o0_charged := F_o0_charged.other w (Or.inr (slot_ne (a0 := a0) (C := "com/example/fanout/fanout/server/MemoryBudget") (Or.inl (hw _ (List.mem_of_getElem? (i := 43) rfl))) (Or.inl (hw _ (List.mem_of_getElem? (i := 50) rfl))) (by decide) (t := .long) (t' := .long) (by decide) (by decide)))
  have F_o0_largestCharge := F_o0_largestCharge.other w (Or.inr (slot_ne (a0 := a0) (C := "com/example/fanout/fanout/server/MemoryBudget") (Or.inl (hw _ (List.mem_of_getElem? (i := 32) rfl))) (Or.inl (hw _ (List.mem_of_getElem? (i := 50) rfl))) (by decide) (t := .long) (t' := .long) (by decide) (by decide)))
  have F_o0_taken := F_o0_taken.same w
  exact g_ret0 K W d7_10 (by decide) (by decide) ⟨rfl, kp, F_o0_limit, F_o0_charged, F_o0_largestCharge, F_o0_taken⟩
def Q_c12 (Z : State) (n0 : Nat) (h0 : Heap) (o0 : Addr) (y1 : Int64) (lim : Int64) (ch : Int64) (lg : Int64) (tk : Int64) : Option Value → Heap → Prop := fun v h => v = none ∧ Keep h0 h [o0] ∧ Fld Z h o0 "com/example/fanout/fanout/server/MemoryBudget" "limit" "J" (.long lim) ∧ Fld Z h o0 "com/example/fanout/fanout/server/MemoryBudget" "charged" "J" (.long ch) ∧ Fld Z h o0 "com/example/fanout/fanout/server/MemoryBudget" "largestCharge" "J" (.long lg) ∧ Fld Z h o0 "com/example/fanout/fanout/server/MemoryBudget" "taken" "J" (.long (tk - y1))
abbrev rm_c12 : Room := { frames := 0, cells := 0, slots := 0, locals := 0 }
set_option maxHeartbeats 40000000 in
theorem c12 (l : Launch) (Z : State) (a0 : Array Value) (hw : ∀ d ∈ tables_1, d.before a0 Z = true) (n0 : Nat) (h0 : Heap) (hn : n0 ≤ h0.size) (o0 : Addr) (y1 : Int64) (lim : Int64) (ch : Int64) (lg : Int64) (tk : Int64) (X_o0 : Exa Z h0 o0 "com/example/fanout/fanout/server/MemoryBudget") (F_o0_limit : Fld Z h0 o0 "com/example/fanout/fanout/server/MemoryBudget" "limit" "J" (.long lim)) (F_o0_charged : Fld Z h0 o0 "com/example/fanout/fanout/server/MemoryBudget" "charged" "J" (.long ch)) (F_o0_largestCharge : Fld Z h0 o0 "com/example/fanout/fanout/server/MemoryBudget" "largestCharge" "J" (.long lg)) (F_o0_taken : Fld Z h0 o0 "com/example/fanout/fanout/server/MemoryBudget" "taken" "J" (.long tk)) (ge_o0 : n0 ≤ o0) :
    Mt l Z (⟨"com/example/fanout/fanout/server/MemoryBudget", "give", "(J)V"⟩ : MethodName) prog_9_method_8_code 3 none rm_c12 n0 #[(.ref o0), (.long y1)] h0 (Q_c12 Z n0 h0 o0 y1 lim ch lg tk) := by
  refine met_of (plainFor_of_name pn_0) (Ls := #[.val (.ref o0), .val (.long y1), .second]) (fun m => by first | (simp [entryFrame, mkF, argsToLocals, Value.category]; done) | rfl) hn ?_
  intro p e s m below meth c T K W
  replace K : Cx p s m meth c Z "com/example/fanout/fanout/server/MemoryBudget" "give" prog_9_method_8_code 3 none := K
  generalize eA : (#[(.ref o0), (.long y1)] : Array Value) = args at W
  show Go p e below s n0 (Q_c12 Z n0 h0 o0 y1 lim ch lg tk) 0 0 T (mkF m 0 #[.val (.ref o0), .val (.long y1), .second] [])
  have kp := Keep.refl h0 [o0]
  refine g_aloadN K W d12_0 rfl rfl (pc' := 1) rfl ?_
  refine g_dup K W d12_1 rfl (pc' := 2) rfl ?_
  refine g_getF K W (host := "") (Or.inl (hw _ (List.mem_of_getElem? (i := 49) rfl))) Via.refl F_o0_taken d12_2 (pc' := 5) rfl (fun T W => ?_)
  refine g_lloadN K W d12_5 rfl (pc' := 6) rfl ?_
  refine g_lsub K W d12_6 (pc' := 7) rfl ?_
  refine g_putF K W (host := "") (Or.inl (hw _ (List.mem_of_getElem? (i := 49) rfl))) Via.refl F_o0_taken X_o0 (Or.inl (hw _ (List.mem_of_getElem? (i := 50) rfl))) (hw _ (List.mem_of_getElem? (i := 2) rfl)) (ty := .long) (by decide) rfl rfl ge_o0 d12_7 (pc' := 10) rfl (fun T h W w => ?_)
  have kp := kp.wr w (Or.inl (List.mem_of_getElem? (i := 0) rfl))
  have X_o0 := X_o0.wr w
  have F_o0_limit := F_o0_limit.other w (Or.inr (slot_ne (a0 := a0) (C := "com/example/fanout/fanout/server/MemoryBudget") (Or.inr (hw _ (List.mem_of_getElem? (i := 11) rfl))) (Or.inl (hw _ (List.mem_of_getElem? (i := 50) rfl))) (by decide) (t := .long) (t' := .long) (by decide) (by decide)))
  have F_o0_charged := F_o0_charged.other w (Or.inr (slot_ne (a0 := a0) (C := "com/example/fanout/fanout/server/MemoryBudget") (Or.inl (hw _ (List.mem_of_getElem? (i := 43) rfl))) (Or.inl (hw _ (List.mem_of_getElem? (i := 50) rfl))) (by decide) (t := .long) (t' := .long) (by decide) (by decide)))
  have F_o0_largestCharge := F_o0_largestCharge.other w (Or.inr (slot_ne (a0 := a0) (C := "com/example/fanout/fanout/server/MemoryBudget") (Or.inl (hw _ (List.mem_of_getElem? (i := 32) rfl))) (Or.inl (hw _ (List.mem_of_getElem? (i := 50) rfl))) (by decide) (t := .long) (t' := .long) (by decide) (by decide)))
  have F_o0_taken := F_o0_taken.same w
  exact g_ret0 K W d12_10 (by decide) (by decide) ⟨rfl, kp, F_o0_limit, F_o0_charged, F_o0_largestCharge, F_o0_taken⟩
def Q_c6 (Z : State) (n0 : Nat) (h0 : Heap) (o0 : Addr) (y1 : Int64) (lim : Int64) (ch : Int64) (lg : Int64) (tk : Int64) : Option Value → Heap → Prop := fun v h => v = none ∧ Keep h0 h [o0] ∧ Fld Z h o0 "com/example/fanout/fanout/server/MemoryBudget" "limit" "J" (.long lim) ∧ Fld Z h o0 "com/example/fanout/fanout/server/MemoryBudget" "charged" "J" (.long (ch + y1)) ∧ Fld Z h o0 "com/example/fanout/fanout/server/MemoryBudget" "largestCharge" "J" (.long lg) ∧ Fld Z h o0 "com/example/fanout/fanout/server/MemoryBudget" "taken" "J" (.long (tk + y1))
abbrev rm_c6 : Room := { frames := 1, cells := 0, slots := 0, locals := 14 }
set_option maxHeartbeats 40000000 in
theorem c6 (l : Launch) (Z : State) (a0 : Array Value) (hw : ∀ d ∈ tables_1, d.before a0 Z = true) (n0 : Nat) (h0 : Heap) (hn : n0 ≤ h0.size) (o0 : Addr) (y1 : Int64) (lim : Int64) (ch : Int64) (lg : Int64) (tk : Int64) (X_o0 : Exa Z h0 o0 "com/example/fanout/fanout/server/MemoryBudget") (F_o0_limit : Fld Z h0 o0 "com/example/fanout/fanout/server/MemoryBudget" "limit" "J" (.long lim)) (F_o0_charged : Fld Z h0 o0 "com/example/fanout/fanout/server/MemoryBudget" "charged" "J" (.long ch)) (F_o0_largestCharge : Fld Z h0 o0 "com/example/fanout/fanout/server/MemoryBudget" "largestCharge" "J" (.long lg)) (F_o0_taken : Fld Z h0 o0 "com/example/fanout/fanout/server/MemoryBudget" "taken" "J" (.long tk)) (ge_o0 : n0 ≤ o0) :
    Mt l Z (⟨"com/example/fanout/fanout/server/MemoryBudget", "takeCharge", "(J)V"⟩ : MethodName) prog_9_method_9_code 3 none rm_c6 n0 #[(.ref o0), (.long y1)] h0 (Q_c6 Z n0 h0 o0 y1 lim ch lg tk) := by
  refine met_of (plainFor_of_name pn_0) (Ls := #[.val (.ref o0), .val (.long y1), .second]) (fun m => by first | (simp [entryFrame, mkF, argsToLocals, Value.category]; done) | rfl) hn ?_
  intro p e s m below meth c T K W
  replace K : Cx p s m meth c Z "com/example/fanout/fanout/server/MemoryBudget" "takeCharge" prog_9_method_9_code 3 none := K
  generalize eA : (#[(.ref o0), (.long y1)] : Array Value) = args at W
  show Go p e below s n0 (Q_c6 Z n0 h0 o0 y1 lim ch lg tk) 0 0 T (mkF m 0 #[.val (.ref o0), .val (.long y1), .second] [])
  have kp := Keep.refl h0 [o0]
  refine g_aloadN K W d6_0 rfl rfl (pc' := 1) rfl ?_
  refine g_dup K W d6_1 rfl (pc' := 2) rfl ?_
  refine g_getF K W (host := "") (Or.inl (hw _ (List.mem_of_getElem? (i := 42) rfl))) Via.refl F_o0_charged d6_2 (pc' := 5) rfl (fun T W => ?_)
  refine g_lloadN K W d6_5 rfl (pc' := 6) rfl ?_
  refine g_ladd K W d6_6 (pc' := 7) rfl ?_
  refine g_putF K W (host := "") (Or.inl (hw _ (List.mem_of_getElem? (i := 42) rfl))) Via.refl F_o0_charged X_o0 (Or.inl (hw _ (List.mem_of_getElem? (i := 43) rfl))) (hw _ (List.mem_of_getElem? (i := 2) rfl)) (ty := .long) (by decide) rfl rfl ge_o0 d6_7 (pc' := 10) rfl (fun T h W w => ?_)
  have kp := kp.wr w (Or.inl (List.mem_of_getElem? (i := 0) rfl))
  have X_o0 := X_o0.wr w
  have F_o0_limit := F_o0_limit.other w (Or.inr (slot_ne (a0 := a0) (C := "com/example/fanout/fanout/server/MemoryBudget") (Or.inr (hw _ (List.mem_of_getElem? (i := 11) rfl))) (Or.inl (hw _ (List.mem_of_getElem? (i := 43) rfl))) (by decide) (t := .long) (t' := .long) (by decide) (by decide)))
  have F_o0_largestCharge := F_o0_largestCharge.other w (Or.inr (slot_ne (a0 := a0) (C := "com/example/fanout/fanout/server/MemoryBudget") (Or.inl (hw _ (List.mem_of_getElem? (i := 32) rfl))) (Or.inl (hw _ (List.mem_of_getElem? (i := 43) rfl))) (by decide) (t := .long) (t' := .long) (by decide) (by decide)))
  have F_o0_taken := F_o0_taken.other w (Or.inr (slot_ne (a0 := a0) (C := "com/example/fanout/fanout/server/MemoryBudget") (Or.inl (hw _ (List.mem_of_getElem? (i := 50) rfl))) (Or.inl (hw _ (List.mem_of_getElem? (i := 43) rfl))) (by decide) (t := .long) (t' := .long) (by decide) (by decide)))
  have F_o0_charged := F_o0_charged.same w
  refine g_aloadN K W d6_10 rfl rfl (pc' := 11) rfl ?_
  refine g_lloadN K W d6_11 rfl (pc' := 12) rfl ?_
  refine g_callV (c7 l Z a0 hw n0 _ W.sz o0 y1 lim (ch + y1) lg tk X_o0 F_o0_limit F_o0_charged F_o0_largestCharge F_o0_taken ge_o0) K W X_o0 (hw _ (List.mem_of_getElem? (i := 44) rfl)) (hw _ (List.mem_of_getElem? (i := 45) rfl)) (hw _ (List.mem_of_getElem? (i := 47) rfl)) (hw _ (List.mem_of_getElem? (i := 47) rfl)) (hw _ (List.mem_of_getElem? (i := 46) rfl)) (hw _ (List.mem_of_getElem? (i := 3) rfl)) (hw _ (List.mem_of_getElem? (i := 48) rfl)) (by decide) (lenOf pd_0 rfl) d6_12 (pc' := 15) rfl (argsL := [(.long y1)]) (rest := []) rfl rfl (by decide) (wt := 0) rfl (by decide) (by decide) (by decide) ?_
  rintro T h _ W ⟨rfl, kq, F_o0_limit, F_o0_charged, F_o0_largestCharge, F_o0_taken⟩
  show Go p e below s n0 (Q_c6 Z n0 h0 o0 y1 lim ch lg tk) 0 0 T (mkF m 15 #[.val (.ref o0), .val (.long y1), .second] [])
  have kp := kp.trans kq (allS (Or.inl (List.mem_of_getElem? (i := 0) rfl)) all0)
  have X_o0 := X_o0.keep kq
  exact g_ret0 K W d6_15 (by decide) (by decide) ⟨rfl, kp, F_o0_limit, F_o0_charged, F_o0_largestCharge, F_o0_taken⟩
def Q_c11 (Z : State) (n0 : Nat) (h0 : Heap) (o0 : Addr) (y1 : Int64) (lim : Int64) (ch : Int64) (lg : Int64) (tk : Int64) : Option Value → Heap → Prop := fun v h => v = none ∧ Keep h0 h [o0] ∧ Fld Z h o0 "com/example/fanout/fanout/server/MemoryBudget" "limit" "J" (.long lim) ∧ Fld Z h o0 "com/example/fanout/fanout/server/MemoryBudget" "charged" "J" (.long (ch - y1)) ∧ Fld Z h o0 "com/example/fanout/fanout/server/MemoryBudget" "largestCharge" "J" (.long lg) ∧ Fld Z h o0 "com/example/fanout/fanout/server/MemoryBudget" "taken" "J" (.long (tk - y1))
abbrev rm_c11 : Room := { frames := 1, cells := 0, slots := 0, locals := 14 }
set_option maxHeartbeats 40000000 in
theorem c11 (l : Launch) (Z : State) (a0 : Array Value) (hw : ∀ d ∈ tables_1, d.before a0 Z = true) (n0 : Nat) (h0 : Heap) (hn : n0 ≤ h0.size) (o0 : Addr) (y1 : Int64) (lim : Int64) (ch : Int64) (lg : Int64) (tk : Int64) (X_o0 : Exa Z h0 o0 "com/example/fanout/fanout/server/MemoryBudget") (F_o0_limit : Fld Z h0 o0 "com/example/fanout/fanout/server/MemoryBudget" "limit" "J" (.long lim)) (F_o0_charged : Fld Z h0 o0 "com/example/fanout/fanout/server/MemoryBudget" "charged" "J" (.long ch)) (F_o0_largestCharge : Fld Z h0 o0 "com/example/fanout/fanout/server/MemoryBudget" "largestCharge" "J" (.long lg)) (F_o0_taken : Fld Z h0 o0 "com/example/fanout/fanout/server/MemoryBudget" "taken" "J" (.long tk)) (ge_o0 : n0 ≤ o0) :
    Mt l Z (⟨"com/example/fanout/fanout/server/MemoryBudget", "giveCharge", "(J)V"⟩ : MethodName) prog_9_method_10_code 3 none rm_c11 n0 #[(.ref o0), (.long y1)] h0 (Q_c11 Z n0 h0 o0 y1 lim ch lg tk) := by
  refine met_of (plainFor_of_name pn_0) (Ls := #[.val (.ref o0), .val (.long y1), .second]) (fun m => by first | (simp [entryFrame, mkF, argsToLocals, Value.category]; done) | rfl) hn ?_
  intro p e s m below meth c T K W
  replace K : Cx p s m meth c Z "com/example/fanout/fanout/server/MemoryBudget" "giveCharge" prog_9_method_10_code 3 none := K
  generalize eA : (#[(.ref o0), (.long y1)] : Array Value) = args at W
  show Go p e below s n0 (Q_c11 Z n0 h0 o0 y1 lim ch lg tk) 0 0 T (mkF m 0 #[.val (.ref o0), .val (.long y1), .second] [])
  have kp := Keep.refl h0 [o0]
  refine g_aloadN K W d11_0 rfl rfl (pc' := 1) rfl ?_
  refine g_dup K W d11_1 rfl (pc' := 2) rfl ?_
  refine g_getF K W (host := "") (Or.inl (hw _ (List.mem_of_getElem? (i := 42) rfl))) Via.refl F_o0_charged d11_2 (pc' := 5) rfl (fun T W => ?_)
  refine g_lloadN K W d11_5 rfl (pc' := 6) rfl ?_
  refine g_lsub K W d11_6 (pc' := 7) rfl ?_
  refine g_putF K W (host := "") (Or.inl (hw _ (List.mem_of_getElem? (i := 42) rfl))) Via.refl F_o0_charged X_o0 (Or.inl (hw _ (List.mem_of_getElem? (i := 43) rfl))) (hw _ (List.mem_of_getElem? (i := 2) rfl)) (ty := .long) (by decide) rfl rfl ge_o0 d11_7 (pc' := 10) rfl (fun T h W w => ?_)
  have kp := kp.wr w (Or.inl (List.mem_of_getElem? (i := 0) rfl))
  have X_o0 := X_o0.wr w
  have F_o0_limit := F_o0_limit.other w (Or.inr (slot_ne (a0 := a0) (C := "com/example/fanout/fanout/server/MemoryBudget") (Or.inr (hw _ (List.mem_of_getElem? (i := 11) rfl))) (Or.inl (hw _ (List.mem_of_getElem? (i := 43) rfl))) (by decide) (t := .long) (t' := .long) (by decide) (by decide)))
  have F_o0_largestCharge := F_o0_largestCharge.other w (Or.inr (slot_ne (a0 := a0) (C := "com/example/fanout/fanout/server/MemoryBudget") (Or.inl (hw _ (List.mem_of_getElem? (i := 32) rfl))) (Or.inl (hw _ (List.mem_of_getElem? (i := 43) rfl))) (by decide) (t := .long) (t' := .long) (by decide) (by decide)))
  have F_o0_taken := F_o0_taken.other w (Or.inr (slot_ne (a0 := a0) (C := "com/example/fanout/fanout/server/MemoryBudget") (Or.inl (hw _ (List.mem_of_getElem? (i := 50) rfl))) (Or.inl (hw _ (List.mem_of_getElem? (i := 43) rfl))) (by decide) (t := .long) (t' := .long) (by decide) (by decide)))
  have F_o0_charged := F_o0_charged.same w
  refine g_aloadN K W d11_10 rfl rfl (pc' := 11) rfl ?_
  refine g_lloadN K W d11_11 rfl (pc' := 12) rfl ?_
  refine g_callV (c12 l Z a0 hw n0 _ W.sz o0 y1 lim (ch - y1) lg tk X_o0 F_o0_limit F_o0_charged F_o0_largestCharge F_o0_taken ge_o0) K W X_o0 (hw _ (List.mem_of_getElem? (i := 76) rfl)) (hw _ (List.mem_of_getElem? (i := 77) rfl)) (hw _ (List.mem_of_getElem? (i := 79) rfl)) (hw _ (List.mem_of_getElem? (i := 79) rfl)) (hw _ (List.mem_of_getElem? (i := 78) rfl)) (hw _ (List.mem_of_getElem? (i := 3) rfl)) (hw _ (List.mem_of_getElem? (i := 80) rfl)) (by decide) (lenOf pd_0 rfl) d11_12 (pc' := 15) rfl (argsL := [(.long y1)]) (rest := []) rfl rfl (by decide) (wt := 0) rfl (by decide) (by decide) (by decide) ?_
  rintro T h _ W ⟨rfl, kq, F_o0_limit, F_o0_charged, F_o0_largestCharge, F_o0_taken⟩
  show Go p e below s n0 (Q_c11 Z n0 h0 o0 y1 lim ch lg tk) 0 0 T (mkF m 15 #[.val (.ref o0), .val (.long y1), .second] [])
  have kp := kp.trans kq (allS (Or.inl (List.mem_of_getElem? (i := 0) rfl)) all0)
  have X_o0 := X_o0.keep kq
  exact g_ret0 K W d11_15 (by decide) (by decide) ⟨rfl, kp, F_o0_limit, F_o0_charged, F_o0_largestCharge, F_o0_taken⟩
def Q_c4 (Z : State) (n0 : Nat) (h0 : Heap) (o0 : Addr) (o1 : Addr) (y2 : Int64) : Option Value → Heap → Prop := fun v h => v = none ∧ Keep h0 h [o0] ∧ Fld Z h o0 "com/example/fanout/fanout/server/MemoryBudget$Charge" "taken" "Z" (.int 1) ∧ Fld Z h o0 "com/example/fanout/fanout/server/MemoryBudget$Charge" "budget" "Lcom/example/fanout/fanout/server/MemoryBudget;" (.ref o1) ∧ Fld Z h o0 "com/example/fanout/fanout/server/MemoryBudget$Charge" "octets" "J" (.long y2) ∧ Fld Z h o0 "com/example/fanout/fanout/server/MemoryBudget$Charge" "places" "I" (.int 0)
abbrev rm_c4 : Room := { frames := 1, cells := 0, slots := 0, locals := 12 }
set_option maxHeartbeats 40000000 in
theorem c4 (l : Launch) (Z : State) (a0 : Array Value) (hw : ∀ d ∈ tables_1, d.before a0 Z = true) (n0 : Nat) (h0 : Heap) (hn : n0 ≤ h0.size) (o0 : Addr) (o1 : Addr) (y2 : Int64) (X_o0 : Exa Z h0 o0 "com/example/fanout/fanout/server/MemoryBudget$Charge") (F_o0_taken : Fld Z h0 o0 "com/example/fanout/fanout/server/MemoryBudget$Charge" "taken" "Z" (.int (0 : Int32))) (F_o0_budget : Fld Z h0 o0 "com/example/fanout/fanout/server/MemoryBudget$Charge" "budget" "Lcom/example/fanout/fanout/server/MemoryBudget;" .null) (F_o0_octets : Fld Z h0 o0 "com/example/fanout/fanout/server/MemoryBudget$Charge" "octets" "J" (.long (0 : Int64))) (F_o0_places : Fld Z h0 o0 "com/example/fanout/fanout/server/MemoryBudget$Charge" "places" "I" (.int (0 : Int32))) (ge_o0 : n0 ≤ o0) :
    Mt l Z (⟨"com/example/fanout/fanout/server/MemoryBudget$Charge", "<init>", "(Lcom/example/fanout/fanout/server/MemoryBudget;J)V"⟩ : MethodName) prog_10_method_1_code 4 none rm_c4 n0 #[(.ref o0), (.ref o1), (.long y2)] h0 (Q_c4 Z n0 h0 o0 o1 y2) := by
  refine met_of (plainFor_of_name pn_1) (Ls := #[.val (.ref o0), .val (.ref o1), .val (.long y2), .second]) (fun m => by first | (simp [entryFrame, mkF, argsToLocals, Value.category]; done) | rfl) hn ?_
  intro p e s m below meth c T K W
  replace K : Cx p s m meth c Z "com/example/fanout/fanout/server/MemoryBudget$Charge" "<init>" prog_10_method_1_code 4 none := K
  generalize eA : (#[(.ref o0), (.ref o1), (.long y2)] : Array Value) = args at W
  show Go p e below s n0 (Q_c4 Z n0 h0 o0 o1 y2) 0 0 T (mkF m 0 #[.val (.ref o0), .val (.ref o1), .val (.long y2), .second] [])
  have kp := Keep.refl h0 [o0]
  refine g_aloadN K W d4_0 rfl rfl (pc' := 1) rfl ?_
  refine g_initO K W (hw _ (List.mem_of_getElem? (i := 24) rfl)) (hw _ (List.mem_of_getElem? (i := 8) rfl)) (hw _ (List.mem_of_getElem? (i := 9) rfl)) rfl d4_1 (pc' := 4) rfl (by decide) (wt := 0) rfl (by decide) (fun T W => ?_)
  refine g_aloadN K W d4_4 rfl rfl (pc' := 5) rfl ?_
  refine g_iconst K W (v := (1 : Int32)) d4_5 rfl (pc' := 6) rfl ?_
  refine g_putF K W (host := "") (Or.inl (hw _ (List.mem_of_getElem? (i := 25) rfl))) Via.refl F_o0_taken X_o0 (Or.inl (hw _ (List.mem_of_getElem? (i := 26) rfl))) (hw _ (List.mem_of_getElem? (i := 18) rfl)) (ty := .boolean) (by decide) rfl rfl ge_o0 d4_6 (pc' := 9) rfl (fun T h W w => ?_)
  have kp := kp.wr w (Or.inl (List.mem_of_getElem? (i := 0) rfl))
  have X_o0 := X_o0.wr w
  have F_o0_budget := F_o0_budget.other w (Or.inr (slot_ne (a0 := a0) (C := "com/example/fanout/fanout/server/MemoryBudget$Charge") (Or.inr (hw _ (List.mem_of_getElem? (i := 28) rfl))) (Or.inl (hw _ (List.mem_of_getElem? (i := 26) rfl))) (by decide) (t := (.object "com/example/fanout/fanout/server/MemoryBudget")) (t' := .boolean) (by decide) (by decide)))
  have F_o0_octets := F_o0_octets.other w (Or.inr (slot_ne (a0 := a0) (C := "com/example/fanout/fanout/server/MemoryBudget$Charge") (Or.inr (hw _ (List.mem_of_getElem? (i := 30) rfl))) (Or.inl (hw _ (List.mem_of_getElem? (i := 26) rfl))) (by decide) (t := .long) (t' := .boolean) (by decide) (by decide)))
  have F_o0_places := F_o0_places.other w (Or.inr (slot_ne (a0 := a0) (C := "com/example/fanout/fanout/server/MemoryBudget$Charge") (Or.inl (hw _ (List.mem_of_getElem? (i := 64) rfl))) (Or.inl (hw _ (List.mem_of_getElem? (i := 26) rfl))) (by decide) (t := .int) (t' := .boolean) (by decide) (by decide)))
  have F_o0_taken := F_o0_taken.same w
  refine g_aloadN K W d4_9 rfl rfl (pc' := 10) rfl ?_
  refine g_aloadN K W d4_10 rfl rfl (pc' := 11) rfl ?_
  refine g_putF K W (host := "") (Or.inl (hw _ (List.mem_of_getElem? (i := 27) rfl))) Via.refl F_o0_budget X_o0 (Or.inr ⟨(hw _ (List.mem_of_getElem? (i := 28) rfl)), rfl, rfl⟩) (hw _ (List.mem_of_getElem? (i := 18) rfl)) (ty := (.object "com/example/fanout/fanout/server/MemoryBudget")) (by decide) rfl rfl ge_o0 d4_11 (pc' := 14) rfl (fun T h W w => ?_)
  have kp := kp.wr w (Or.inl (List.mem_of_getElem? (i := 0) rfl))
  have X_o0 := X_o0.wr w
  have F_o0_taken := F_o0_taken.other w (Or.inr (slot_ne (a0 := a0) (C := "com/example/fanout/fanout/server/MemoryBudget$Charge") (Or.inl (hw _ (List.mem_of_getElem? (i := 26) rfl))) (Or.inr (hw _ (List.mem_of_getElem? (i := 28) rfl))) (by decide) (t := .boolean) (t' := (.object "com/example/fanout/fanout/server/MemoryBudget")) (by decide) (by decide)))
  have F_o0_octets := F_o0_octets.other w (Or.inr (slot_ne (a0 := a0) (C := "com/example/fanout/fanout/server/MemoryBudget$Charge") (Or.inr (hw _ (List.mem_of_getElem? (i := 30) rfl))) (Or.inr (hw _ (List.mem_of_getElem? (i := 28) rfl))) (by decide) (t := .long) (t' := (.object "com/example/fanout/fanout/server/MemoryBudget")) (by decide) (by decide)))
  have F_o0_places := F_o0_places.other w (Or.inr (slot_ne (a0 := a0) (C := "com/example/fanout/fanout/server/MemoryBudget$Charge") (Or.inl (hw _ (List.mem_of_getElem? (i := 64) rfl))) (Or.inr (hw _ (List.mem_of_getElem? (i := 28) rfl))) (by decide) (t := .int) (t' := (.object "com/example/fanout/fanout/server/MemoryBudget")) (by decide) (by decide)))
  have F_o0_budget := F_o0_budget.same w
  refine g_aloadN K W d4_14 rfl rfl (pc' := 15) rfl ?_
  refine g_lloadN K W d4_15 rfl (pc' := 16) rfl ?_
  refine g_putF K W (host := "") (Or.inl (hw _ (List.mem_of_getElem? (i := 29) rfl))) Via.refl F_o0_octets X_o0 (Or.inr ⟨(hw _ (List.mem_of_getElem? (i := 30) rfl)), rfl, rfl⟩) (hw _ (List.mem_of_getElem? (i := 18) rfl)) (ty := .long) (by decide) rfl rfl ge_o0 d4_16 (pc' := 19) rfl (fun T h W w => ?_)
  have kp := kp.wr w (Or.inl (List.mem_of_getElem? (i := 0) rfl))
  have X_o0 := X_o0.wr w
  have F_o0_taken := F_o0_taken.other w (Or.inr (slot_ne (a0 := a0) (C := "com/example/fanout/fanout/server/MemoryBudget$Charge") (Or.inl (hw _ (List.mem_of_getElem? (i := 26) rfl))) (Or.inr (hw _ (List.mem_of_getElem? (i := 30) rfl))) (by decide) (t := .boolean) (t' := .long) (by decide) (by decide)))
  have F_o0_budget := F_o0_budget.other w (Or.inr (slot_ne (a0 := a0) (C := "com/example/fanout/fanout/server/MemoryBudget$Charge") (Or.inr (hw _ (List.mem_of_getElem? (i := 28) rfl))) (Or.inr (hw _ (List.mem_of_getElem? (i := 30) rfl))) (by decide) (t := (.object "com/example/fanout/fanout/server/MemoryBudget")) (t' := .long) (by decide) (by decide)))
  have F_o0_places := F_o0_places.other w (Or.inr (slot_ne (a0 := a0) (C := "com/example/fanout/fanout/server/MemoryBudget$Charge") (Or.inl (hw _ (List.mem_of_getElem? (i := 64) rfl))) (Or.inr (hw _ (List.mem_of_getElem? (i := 30) rfl))) (by decide) (t := .int) (t' := .long) (by decide) (by decide)))
  have F_o0_octets := F_o0_octets.same w
  exact g_ret0 K W d4_19 (by decide) (by decide) ⟨rfl, kp, F_o0_taken, F_o0_budget, F_o0_octets, F_o0_places⟩
def Q_c3 (Z : State) (n0 : Nat) (h0 : Heap) (o0 : Addr) (y1 : Int64) (lim : Int64) (ch : Int64) (lg : Int64) (tk : Int64) : Option Value → Heap → Prop := fun v h => ∃ ca : Addr, v = some (.ref ca) ∧ n0 ≤ ca ∧ h0.size ≤ ca ∧ Keep h0 h [o0] ∧ Exa Z h ca "com/example/fanout/fanout/server/MemoryBudget$Charge" ∧ Fld Z h ca "com/example/fanout/fanout/server/MemoryBudget$Charge" "taken" "Z" (.int 1) ∧ Fld Z h ca "com/example/fanout/fanout/server/MemoryBudget$Charge" "budget" "Lcom/example/fanout/fanout/server/MemoryBudget;" (.ref o0) ∧ Fld Z h ca "com/example/fanout/fanout/server/MemoryBudget$Charge" "octets" "J" (.long (y1 + (192 : Int64))) ∧ Fld Z h ca "com/example/fanout/fanout/server/MemoryBudget$Charge" "places" "I" (.int 0) ∧ Fld Z h o0 "com/example/fanout/fanout/server/MemoryBudget" "limit" "J" (.long lim) ∧ Fld Z h o0 "com/example/fanout/fanout/server/MemoryBudget" "charged" "J" (.long (ch + (y1 + (192 : Int64)))) ∧ Fld Z h o0 "com/example/fanout/fanout/server/MemoryBudget" "largestCharge" "J" (.long (own_max lg (y1 + (192 : Int64)))) ∧ Fld Z h o0 "com/example/fanout/fanout/server/MemoryBudget" "taken" "J" (.long (tk + (y1 + (192 : Int64))))
abbrev rm_c3 : Room := { frames := 2, cells := 1, slots := 4, locals := 28 }
set_option maxHeartbeats 40000000 in
theorem c3 (l : Launch) (Z : State) (a0 : Array Value) (hw : ∀ d ∈ tables_1, d.before a0 Z = true) (n0 : Nat) (h0 : Heap) (hn : n0 ≤ h0.size) (o0 : Addr) (y1 : Int64) (lim : Int64) (ch : Int64) (lg : Int64) (tk : Int64) (X_o0 : Exa Z h0 o0 "com/example/fanout/fanout/server/MemoryBudget") (F_o0_limit : Fld Z h0 o0 "com/example/fanout/fanout/server/MemoryBudget" "limit" "J" (.long lim)) (F_o0_charged : Fld Z h0 o0 "com/example/fanout/fanout/server/MemoryBudget" "charged" "J" (.long ch)) (F_o0_largestCharge : Fld Z h0 o0 "com/example/fanout/fanout/server/MemoryBudget" "largestCharge" "J" (.long lg)) (F_o0_taken : Fld Z h0 o0 "com/example/fanout/fanout/server/MemoryBudget" "taken" "J" (.long tk)) (ge_o0 : n0 ≤ o0) :
    Mt l Z (⟨"com/example/fanout/fanout/server/MemoryBudget", "charge", "(J)Lcom/example/fanout/fanout/server/MemoryBudget$Charge;"⟩ : MethodName) prog_9_method_6_code 4 (some (.object "com/example/fanout/fanout/server/MemoryBudget$Charge")) rm_c3 n0 #[(.ref o0), (.long y1)] h0 (Q_c3 Z n0 h0 o0 y1 lim ch lg tk) := by
  refine met_of (plainFor_of_name pn_0) (Ls := #[.val (.ref o0), .val (.long y1), .second, .unset]) (fun m => by first | (simp [entryFrame, mkF, argsToLocals, Value.category]; done) | rfl) hn ?_
  intro p e s m below meth c T K W
  replace K : Cx p s m meth c Z "com/example/fanout/fanout/server/MemoryBudget" "charge" prog_9_method_6_code 4 (some (.object "com/example/fanout/fanout/server/MemoryBudget$Charge")) := K
  generalize eA : (#[(.ref o0), (.long y1)] : Array Value) = args at W
  show Go p e below s n0 (Q_c3 Z n0 h0 o0 y1 lim ch lg tk) 1 4 T (mkF m 0 #[.val (.ref o0), .val (.long y1), .second, .unset] [])
  have kp := Keep.refl h0 [o0]
  refine g_new K W (hw _ (List.mem_of_getElem? (i := 17) rfl)) (hw _ (List.mem_of_getElem? (i := 18) rfl)) (hw _ (List.mem_of_getElem? (i := 19) rfl)) d3_0 (pc' := 3) rfl (by decide) (by decide) (fun T h cn W E ha_cn ge_cn X_cn Dn => ?_)
  have ne_o0_cn : o0 ≠ cn := fun q => by have r := X_o0.lt; rw [q, ha_cn] at r; exact Nat.lt_irrefl _ r
  have ne_cn_o0 : cn ≠ o0 := Ne.symm ne_o0_cn
  have sz_cn : h0.size ≤ cn := by rw [ha_cn]; exact kp.1
  have kp := kp.ext E
  have X_o0 := X_o0.ext E
  have F_o0_limit := F_o0_limit.ext E
  have F_o0_charged := F_o0_charged.ext E
  have F_o0_largestCharge := F_o0_largestCharge.ext E
  have F_o0_taken := F_o0_taken.ext E
  have F_cn_taken : Fld Z h cn "com/example/fanout/fanout/server/MemoryBudget$Charge" "taken" "Z" (.int (0 : Int32)) := Dn (Or.inl (hw _ (List.mem_of_getElem? (i := 26) rfl))) (ty := .boolean) (by decide)
  have F_cn_budget : Fld Z h cn "com/example/fanout/fanout/server/MemoryBudget$Charge" "budget" "Lcom/example/fanout/fanout/server/MemoryBudget;" .null := Dn (Or.inr (hw _ (List.mem_of_getElem? (i := 28) rfl))) (ty := (.object "com/example/fanout/fanout/server/MemoryBudget")) (by decide)
  have F_cn_octets : Fld Z h cn "com/example/fanout/fanout/server/MemoryBudget$Charge" "octets" "J" (.long (0 : Int64)) := Dn (Or.inr (hw _ (List.mem_of_getElem? (i := 30) rfl))) (ty := .long) (by decide)
  have F_cn_places : Fld Z h cn "com/example/fanout/fanout/server/MemoryBudget$Charge" "places" "I" (.int (0 : Int32)) := Dn (Or.inl (hw _ (List.mem_of_getElem? (i := 64) rfl))) (ty := .int) (by decide)
  refine g_dup K W d3_3 rfl (pc' := 4) rfl ?_
  refine g_aloadN K W d3_4 rfl rfl (pc' := 5) rfl ?_
  refine g_lloadN K W d3_5 rfl (pc' := 6) rfl ?_
  refine g_ldc2 K W (v := (192 : Int64)) (hw _ (List.mem_of_getElem? (i := 20) rfl)) d3_6 (pc' := 9) rfl ?_
  refine g_ladd K W d3_9 (pc' := 10) rfl ?_
  refine g_callNR (c4 l Z a0 hw n0 _ W.sz cn o0 (y1 + (192 : Int64)) X_cn F_cn_taken F_cn_budget F_cn_octets F_cn_places ge_cn) K W rfl (hw _ (List.mem_of_getElem? (i := 21) rfl)) (hw _ (List.mem_of_getElem? (i := 22) rfl)) (hw _ (List.mem_of_getElem? (i := 19) rfl)) (hw _ (List.mem_of_getElem? (i := 23) rfl)) (by decide) (lenOf pd_1 rfl) d3_10 (pc' := 13) rfl (argsL := [(.ref o0), (.long (y1 + (192 : Int64)))]) (rest := [(.ref cn)]) rfl rfl (by decide) (wt := 1) rfl (by decide) (by decide) (by decide) ?_
  rintro T h _ W ⟨rfl, kq, F_cn_taken, F_cn_budget, F_cn_octets, F_cn_places⟩
  show Go p e below s n0 (Q_c3 Z n0 h0 o0 y1 lim ch lg tk) 1 4 T (mkF m 13 #[.val (.ref o0), .val (.long y1), .second, .unset] [(.ref cn)])
  have kp := kp.trans kq (allS (Or.inr sz_cn) all0)
  have X_o0 := X_o0.keep kq
  have F_o0_limit := F_o0_limit.keep kq (ninS ne_o0_cn nin0)
  have F_o0_charged := F_o0_charged.keep kq (ninS ne_o0_cn nin0)
  have F_o0_largestCharge := F_o0_largestCharge.keep kq (ninS ne_o0_cn nin0)
  have F_o0_taken := F_o0_taken.keep kq (ninS ne_o0_cn nin0)
  have X_cn := X_cn.keep kq
  refine g_astoreN K W d3_13 rfl (Ls' := #[.val (.ref o0), .val (.long y1), .second, .val (.ref cn)]) rfl (pc' := 14) rfl ?_
  refine g_aloadN K W d3_14 rfl rfl (pc' := 15) rfl ?_
  refine g_aloadN K W d3_15 rfl rfl (pc' := 16) rfl ?_
  refine g_getF K W (host := "") (Or.inl (hw _ (List.mem_of_getElem? (i := 31) rfl))) Via.refl F_o0_largestCharge d3_16 (pc' := 19) rfl (fun T W => ?_)
  refine g_aloadN K W d3_19 rfl rfl (pc' := 20) rfl ?_
  refine g_getFR K W (hw _ (List.mem_of_getElem? (i := 33) rfl)) F_cn_octets d3_20 (pc' := 23) rfl (fun T W => ?_)
  refine g_callS (c5 l Z a0 hw n0 _ W.sz lg (y1 + (192 : Int64))) K W (hw _ (List.mem_of_getElem? (i := 34) rfl)) (hw _ (List.mem_of_getElem? (i := 35) rfl)) (hw _ (List.mem_of_getElem? (i := 36) rfl)) (hw _ (List.mem_of_getElem? (i := 37) rfl)) (by decide) (lenOf pd_2 rfl) d3_23 (pc' := 26) rfl (argsL := [(.long lg), (.long (y1 + (192 : Int64)))]) (rest := [(.ref o0)]) rfl rfl (by decide) (wt := 1) rfl (by decide) (by decide) (by decide) ?_
  rintro T _ _ W ⟨rfl, rfl⟩
  show Go p e below s n0 (Q_c3 Z n0 h0 o0 y1 lim ch lg tk) 1 4 T (mkF m 26 #[.val (.ref o0), .val (.long y1), .second, .val (.ref cn)] [(.long (own_max lg (y1 + (192 : Int64)))), (.ref o0)])
  refine g_putF K W (host := "") (Or.inl (hw _ (List.mem_of_getElem? (i := 31) rfl))) Via.refl F_o0_largestCharge X_o0 (Or.inl (hw _ (List.mem_of_getElem? (i := 32) rfl))) (hw _ (List.mem_of_getElem? (i := 2) rfl)) (ty := .long) (by decide) rfl rfl ge_o0 d3_26 (pc' := 29) rfl (fun T h W w => ?_)
  have kp := kp.wr w (Or.inl (List.mem_of_getElem? (i := 0) rfl))
  have X_o0 := X_o0.wr w
  have F_o0_limit := F_o0_limit.other w (Or.inr (slot_ne (a0 := a0) (C := "com/example/fanout/fanout/server/MemoryBudget") (Or.inr (hw _ (List.mem_of_getElem? (i := 11) rfl))) (Or.inl (hw _ (List.mem_of_getElem? (i := 32) rfl))) (by decide) (t := .long) (t' := .long) (by decide) (by decide)))
  have F_o0_charged := F_o0_charged.other w (Or.inr (slot_ne (a0 := a0) (C := "com/example/fanout/fanout/server/MemoryBudget") (Or.inl (hw _ (List.mem_of_getElem? (i := 43) rfl))) (Or.inl (hw _ (List.mem_of_getElem? (i := 32) rfl))) (by decide) (t := .long) (t' := .long) (by decide) (by decide)))
  have F_o0_taken := F_o0_taken.other w (Or.inr (slot_ne (a0 := a0) (C := "com/example/fanout/fanout/server/MemoryBudget") (Or.inl (hw _ (List.mem_of_getElem? (i := 50) rfl))) (Or.inl (hw _ (List.mem_of_getElem? (i := 32) rfl))) (by decide) (t := .long) (t' := .long) (by decide) (by decide)))
  have X_cn := X_cn.wr w
  have F_cn_taken := F_cn_taken.other w (Or.inl ne_cn_o0)
  have F_cn_budget := F_cn_budget.other w (Or.inl ne_cn_o0)
  have F_cn_octets := F_cn_octets.other w (Or.inl ne_cn_o0)
  have F_cn_places := F_cn_places.other w (Or.inl ne_cn_o0)
  have F_o0_largestCharge := F_o0_largestCharge.same w
  refine g_aloadN K W d3_29 rfl rfl (pc' := 30) rfl ?_
  refine g_aloadN K W d3_30 rfl rfl (pc' := 31) rfl ?_
  refine g_getFR K W (hw _ (List.mem_of_getElem? (i := 33) rfl)) F_cn_octets d3_31 (pc' := 34) rfl (fun T W => ?_)
  refine g_callP (c6 l Z a0 hw n0 _ W.sz o0 (y1 + (192 : Int64)) lim ch (own_max lg (y1 + (192 : Int64))) tk X_o0 F_o0_limit F_o0_charged F_o0_largestCharge F_o0_taken ge_o0) K W X_o0.cell (hw _ (List.mem_of_getElem? (i := 38) rfl)) (hw _ (List.mem_of_getElem? (i := 39) rfl)) (hw _ (List.mem_of_getElem? (i := 2) rfl)) (hw _ (List.mem_of_getElem? (i := 40) rfl)) (hw _ (List.mem_of_getElem? (i := 3) rfl)) (hw _ (List.mem_of_getElem? (i := 41) rfl)) (by decide) (lenOf pd_0 rfl) d3_34 (pc' := 37) rfl (argsL := [(.long (y1 + (192 : Int64)))]) (rest := []) rfl rfl (by decide) (wt := 0) rfl (by decide) (by decide) (by decide) ?_
  rintro T h _ W ⟨rfl, kq, F_o0_limit, F_o0_charged, F_o0_largestCharge, F_o0_taken⟩
  show Go p e below s n0 (Q_c3 Z n0 h0 o0 y1 lim ch lg tk) 1 4 T (mkF m 37 #[.val (.ref o0), .val (.long y1), .second, .val (.ref cn)] [])
  have kp := kp.trans kq (allS (Or.inl (List.mem_of_getElem? (i := 0) rfl)) all0)
  have X_o0 := X_o0.keep kq
  have X_cn := X_cn.keep kq
  have F_cn_taken := F_cn_taken.keep kq (ninS ne_cn_o0 nin0)
  have F_cn_budget := F_cn_budget.keep kq (ninS ne_cn_o0 nin0)
  have F_cn_octets := F_cn_octets.keep kq (ninS ne_cn_o0 nin0)
  have F_cn_places := F_cn_places.keep kq (ninS ne_cn_o0 nin0)
  refine g_aloadN K W d3_37 rfl rfl (pc' := 38) rfl ?_
  exact g_retA K W rfl rfl rfl d3_38 (by decide) (by decide) ⟨cn, rfl, ge_cn, sz_cn, kp, X_cn, F_cn_taken, F_cn_budget, F_cn_octets, F_cn_places, F_o0_limit, F_o0_charged, F_o0_largestCharge, F_o0_taken⟩
def Q_c8 (Z : State) (n0 : Nat) (h0 : Heap) (o0 : Addr) (lim : Int64) (ch : Int64) (lg : Int64) (tk : Int64) : Option Value → Heap → Prop := fun v h => v = some (.int (if ch - lg < lim then 0 else 1)) ∧ h0 = h
abbrev rm_c8 : Room := { frames := 0, cells := 0, slots := 0, locals := 0 }
set_option maxHeartbeats 40000000 in
theorem c8 (l : Launch) (Z : State) (a0 : Array Value) (hw : ∀ d ∈ tables_1, d.before a0 Z = true) (n0 : Nat) (h0 : Heap) (hn : n0 ≤ h0.size) (o0 : Addr) (lim : Int64) (ch : Int64) (lg : Int64) (tk : Int64) (X_o0 : Exa Z h0 o0 "com/example/fanout/fanout/server/MemoryBudget") (F_o0_limit : Fld Z h0 o0 "com/example/fanout/fanout/server/MemoryBudget" "limit" "J" (.long lim)) (F_o0_charged : Fld Z h0 o0 "com/example/fanout/fanout/server/MemoryBudget" "charged" "J" (.long ch)) (F_o0_largestCharge : Fld Z h0 o0 "com/example/fanout/fanout/server/MemoryBudget" "largestCharge" "J" (.long lg)) (F_o0_taken : Fld Z h0 o0 "com/example/fanout/fanout/server/MemoryBudget" "taken" "J" (.long tk)) (ge_o0 : n0 ≤ o0) :
    Mt l Z (⟨"com/example/fanout/fanout/server/MemoryBudget", "isOverdrawn", "()Z"⟩ : MethodName) prog_9_method_4_code 1 (some .boolean) rm_c8 n0 #[(.ref o0)] h0 (Q_c8 Z n0 h0 o0 lim ch lg tk) := by
  refine met_of (plainFor_of_name pn_0) (Ls := #[.val (.ref o0)]) (fun m => by first | (simp [entryFrame, mkF, argsToLocals, Value.category]; done) | rfl) hn ?_
  intro p e s m below meth c T K W
  replace K : Cx p s m meth c Z "com/example/fanout/fanout/server/MemoryBudget" "isOverdrawn" prog_9_method_4_code 1 (some .boolean) := K
  generalize eA : (#[(.ref o0)] : Array Value) = args at W
  show Go p e below s n0 (Q_c8 Z n0 h0 o0 lim ch lg tk) 0 0 T (mkF m 0 #[.val (.ref o0)] [])
  refine g_aloadN K W d8_0 rfl rfl (pc' := 1) rfl ?_
  refine g_getF K W (host := "") (Or.inl (hw _ (List.mem_of_getElem? (i := 42) rfl))) Via.refl F_o0_charged d8_1 (pc' := 4) rfl (fun T W => ?_)
  refine g_aloadN K W d8_4 rfl rfl (pc' := 5) rfl ?_
  refine g_getF K W (host := "") (Or.inl (hw _ (List.mem_of_getElem? (i := 31) rfl))) Via.refl F_o0_largestCharge d8_5 (pc' := 8) rfl (fun T W => ?_)
  refine g_lsub K W d8_8 (pc' := 9) rfl ?_
  refine g_aloadN K W d8_9 rfl rfl (pc' := 10) rfl ?_
  refine g_getF K W (host := "") (Or.inl (hw _ (List.mem_of_getElem? (i := 10) rfl))) Via.refl F_o0_limit d8_10 (pc' := 13) rfl (fun T W => ?_)
  refine g_lcmp_lt K W d8_13 (pc1 := 14) rfl d8_14 (pt := 21) rfl (pf := 17) rfl (fun hc13 => ?_) (fun hc13 => ?_)
  · refine g_iconst K W (v := (0 : Int32)) d8_21 rfl (pc' := 22) rfl ?_
    exact g_retN K W (by simp) d8_22 (by decide) (by decide) (v := (0 : Int32)) rfl ⟨by simp [hc13], rfl⟩
  · refine g_iconst K W (v := (1 : Int32)) d8_17 rfl (pc' := 18) rfl ?_
    refine g_goto K W d8_18 (pt := 22) rfl ?_
    exact g_retN K W (by simp) d8_22 (by decide) (by decide) (v := (1 : Int32)) rfl ⟨by simp [hc13], rfl⟩
def Q_c10 (Z : State) (n0 : Nat) (h0 : Heap) (o0 : Addr) (ob : Addr) (oc : Int64) (pl : Int32) (lim : Int64) (ch : Int64) (lg : Int64) (tk : Int64) : Option Value → Heap → Prop := fun v h => v = none ∧ Keep h0 h [o0, ob] ∧ Fld Z h ob "com/example/fanout/fanout/server/MemoryBudget" "limit" "J" (.long lim) ∧ Fld Z h ob "com/example/fanout/fanout/server/MemoryBudget" "charged" "J" (.long (ch - oc)) ∧ Fld Z h ob "com/example/fanout/fanout/server/MemoryBudget" "largestCharge" "J" (.long lg) ∧ Fld Z h ob "com/example/fanout/fanout/server/MemoryBudget" "taken" "J" (.long (tk - oc))
abbrev rm_c10 : Room := { frames := 2, cells := 0, slots := 0, locals := 28 }
set_option maxHeartbeats 40000000 in
theorem c10 (l : Launch) (Z : State) (a0 : Array Value) (hw : ∀ d ∈ tables_1, d.before a0 Z = true) (n0 : Nat) (h0 : Heap) (hn : n0 ≤ h0.size) (o0 : Addr) (ob : Addr) (oc : Int64) (pl : Int32) (lim : Int64) (ch : Int64) (lg : Int64) (tk : Int64) (X_o0 : Exa Z h0 o0 "com/example/fanout/fanout/server/MemoryBudget$Charge") (F_o0_taken : Fld Z h0 o0 "com/example/fanout/fanout/server/MemoryBudget$Charge" "taken" "Z" (.int (1 : Int32))) (F_o0_budget : Fld Z h0 o0 "com/example/fanout/fanout/server/MemoryBudget$Charge" "budget" "Lcom/example/fanout/fanout/server/MemoryBudget;" (.ref ob)) (F_o0_octets : Fld Z h0 o0 "com/example/fanout/fanout/server/MemoryBudget$Charge" "octets" "J" (.long oc)) (F_o0_places : Fld Z h0 o0 "com/example/fanout/fanout/server/MemoryBudget$Charge" "places" "I" (.int pl)) (ge_o0 : n0 ≤ o0) (X_ob : Exa Z h0 ob "com/example/fanout/fanout/server/MemoryBudget") (F_ob_limit : Fld Z h0 ob "com/example/fanout/fanout/server/MemoryBudget" "limit" "J" (.long lim)) (F_ob_charged : Fld Z h0 ob "com/example/fanout/fanout/server/MemoryBudget" "charged" "J" (.long ch)) (F_ob_largestCharge : Fld Z h0 ob "com/example/fanout/fanout/server/MemoryBudget" "largestCharge" "J" (.long lg)) (F_ob_taken : Fld Z h0 ob "com/example/fanout/fanout/server/MemoryBudget" "taken" "J" (.long tk)) (ge_ob : n0 ≤ ob) (ne_o0_ob : o0 ≠ ob) (ne_ob_o0 : ob ≠ o0) :
    Mt l Z (⟨"com/example/fanout/fanout/server/MemoryBudget$Charge", "giveBack", "()V"⟩ : MethodName) prog_10_method_4_code 1 none rm_c10 n0 #[(.ref o0)] h0 (Q_c10 Z n0 h0 o0 ob oc pl lim ch lg tk) := by
  refine met_of (plainFor_of_name pn_1) (Ls := #[.val (.ref o0)]) (fun m => by first | (simp [entryFrame, mkF, argsToLocals, Value.category]; done) | rfl) hn ?_
  intro p e s m below meth c T K W
  replace K : Cx p s m meth c Z "com/example/fanout/fanout/server/MemoryBudget$Charge" "giveBack" prog_10_method_4_code 1 none := K
  generalize eA : (#[(.ref o0)] : Array Value) = args at W
  show Go p e below s n0 (Q_c10 Z n0 h0 o0 ob oc pl lim ch lg tk) 0 0 T (mkF m 0 #[.val (.ref o0)] [])
  have kp := Keep.refl h0 [o0, ob]
  refine g_aloadN K W d10_0 rfl rfl (pc' := 1) rfl ?_
  refine g_getF K W (host := "") (Or.inl (hw _ (List.mem_of_getElem? (i := 25) rfl))) Via.refl F_o0_taken d10_1 (pc' := 4) rfl (fun T W => ?_)
  refine g_if_eq K W d10_4 (pt := 23) rfl (pf := 7) rfl (fun hc4 => absurd hc4 (by decide)) (fun hc4 => ?_)
  refine g_aloadN K W d10_7 rfl rfl (pc' := 8) rfl ?_
  refine g_iconst K W (v := (0 : Int32)) d10_8 rfl (pc' := 9) rfl ?_
  refine g_putF K W (host := "") (Or.inl (hw _ (List.mem_of_getElem? (i := 25) rfl))) Via.refl F_o0_taken X_o0 (Or.inl (hw _ (List.mem_of_getElem? (i := 26) rfl))) (hw _ (List.mem_of_getElem? (i := 18) rfl)) (ty := .boolean) (by decide) rfl rfl ge_o0 d10_9 (pc' := 12) rfl (fun T h W w => ?_)
  have kp := kp.wr w (Or.inl (List.mem_of_getElem? (i := 0) rfl))
  have X_o0 := X_o0.wr w
  have F_o0_budget := F_o0_budget.other w (Or.inr (slot_ne (a0 := a0) (C := "com/example/fanout/fanout/server/MemoryBudget$Charge") (Or.inr (hw _ (List.mem_of_getElem? (i := 28) rfl))) (Or.inl (hw _ (List.mem_of_getElem? (i := 26) rfl))) (by decide) (t := (.object "com/example/fanout/fanout/server/MemoryBudget")) (t' := .boolean) (by decide) (by decide)))
  have F_o0_octets := F_o0_octets.other w (Or.inr (slot_ne (a0 := a0) (C := "com/example/fanout/fanout/server/MemoryBudget$Charge") (Or.inr (hw _ (List.mem_of_getElem? (i := 30) rfl))) (Or.inl (hw _ (List.mem_of_getElem? (i := 26) rfl))) (by decide) (t := .long) (t' := .boolean) (by decide) (by decide)))
  have F_o0_places := F_o0_places.other w (Or.inr (slot_ne (a0 := a0) (C := "com/example/fanout/fanout/server/MemoryBudget$Charge") (Or.inl (hw _ (List.mem_of_getElem? (i := 64) rfl))) (Or.inl (hw _ (List.mem_of_getElem? (i := 26) rfl))) (by decide) (t := .int) (t' := .boolean) (by decide) (by decide)))
  have X_ob := X_ob.wr w
  have F_ob_limit := F_ob_limit.other w (Or.inl ne_ob_o0)
  have F_ob_charged := F_ob_charged.other w (Or.inl ne_ob_o0)
  have F_ob_largestCharge := F_ob_largestCharge.other w (Or.inl ne_ob_o0)
  have F_ob_taken := F_ob_taken.other w (Or.inl ne_ob_o0)
  have F_o0_taken := F_o0_taken.same w
  refine g_aloadN K W d10_12 rfl rfl (pc' := 13) rfl ?_
  refine g_getF K W (host := "") (Or.inl (hw _ (List.mem_of_getElem? (i := 27) rfl))) Via.refl F_o0_budget d10_13 (pc' := 16) rfl (fun T W => ?_)
  refine g_aloadN K W d10_16 rfl rfl (pc' := 17) rfl ?_
  refine g_getF K W (host := "") (Or.inl (hw _ (List.mem_of_getElem? (i := 29) rfl))) Via.refl F_o0_octets d10_17 (pc' := 20) rfl (fun T W => ?_)
  refine g_callPN (c11 l Z a0 hw n0 _ W.sz ob oc lim ch lg tk X_ob F_ob_limit F_ob_charged F_ob_largestCharge F_ob_taken ge_ob) K W X_ob.cell (hw _ (List.mem_of_getElem? (i := 72) rfl)) (hw _ (List.mem_of_getElem? (i := 73) rfl)) (hw _ (List.mem_of_getElem? (i := 2) rfl)) (hw _ (List.mem_of_getElem? (i := 74) rfl)) (hw _ (List.mem_of_getElem? (i := 3) rfl)) (hw _ (List.mem_of_getElem? (i := 75) rfl)) (by decide) (lenOf pd_0 rfl) d10_20 (pc' := 23) rfl (argsL := [(.long oc)]) (rest := []) rfl rfl (by decide) (wt := 0) rfl (by decide) (by decide) (by decide) ?_
  rintro T h _ W ⟨rfl, kq, F_ob_limit, F_ob_charged, F_ob_largestCharge, F_ob_taken⟩
  show Go p e below s n0 (Q_c10 Z n0 h0 o0 ob oc pl lim ch lg tk) 0 0 T (mkF m 23 #[.val (.ref o0)] [])
  have kp := kp.trans kq (allS (Or.inl (List.mem_of_getElem? (i := 1) rfl)) all0)
  have X_o0 := X_o0.keep kq
  have F_o0_taken := F_o0_taken.keep kq (ninS ne_o0_ob nin0)
  have F_o0_budget := F_o0_budget.keep kq (ninS ne_o0_ob nin0)
  have F_o0_octets := F_o0_octets.keep kq (ninS ne_o0_ob nin0)
  have F_o0_places := F_o0_places.keep kq (ninS ne_o0_ob nin0)
  have X_ob := X_ob.keep kq
  exact g_ret0 K W d10_23 (by decide) (by decide) ⟨rfl, kp, F_ob_limit, F_ob_charged, F_ob_largestCharge, F_ob_taken⟩
def Q_c9 (Z : State) (n0 : Nat) (h0 : Heap) (o0 : Addr) (x1 : Int32) (ob : Addr) (oc : Int64) (pl : Int32) (lim : Int64) (ch : Int64) (lg : Int64) (tk : Int64) : Option Value → Heap → Prop := fun v h => v = none ∧ Keep h0 h [o0, ob] ∧ ∃ tk' : Int64, Fld Z h ob "com/example/fanout/fanout/server/MemoryBudget" "limit" "J" (.long lim) ∧ Fld Z h ob "com/example/fanout/fanout/server/MemoryBudget" "charged" "J" (.long ch) ∧ Fld Z h ob "com/example/fanout/fanout/server/MemoryBudget" "largestCharge" "J" (.long lg) ∧ Fld Z h ob "com/example/fanout/fanout/server/MemoryBudget" "taken" "J" (.long tk')
abbrev rm_c9 : Room := { frames := 1, cells := 0, slots := 0, locals := 14 }
set_option maxHeartbeats 40000000 in
theorem c9 (l : Launch) (Z : State) (a0 : Array Value) (hw : ∀ d ∈ tables_1, d.before a0 Z = true) (n0 : Nat) (h0 : Heap) (hn : n0 ≤ h0.size) (o0 : Addr) (x1 : Int32) (ob : Addr) (oc : Int64) (pl : Int32) (lim : Int64) (ch : Int64) (lg : Int64) (tk : Int64) (X_o0 : Exa Z h0 o0 "com/example/fanout/fanout/server/MemoryBudget$Charge") (F_o0_taken : Fld Z h0 o0 "com/example/fanout/fanout/server/MemoryBudget$Charge" "taken" "Z" (.int (1 : Int32))) (F_o0_budget : Fld Z h0 o0 "com/example/fanout/fanout/server/MemoryBudget$Charge" "budget" "Lcom/example/fanout/fanout/server/MemoryBudget;" (.ref ob)) (F_o0_octets : Fld Z h0 o0 "com/example/fanout/fanout/server/MemoryBudget$Charge" "octets" "J" (.long oc)) (F_o0_places : Fld Z h0 o0 "com/example/fanout/fanout/server/MemoryBudget$Charge" "places" "I" (.int pl)) (ge_o0 : n0 ≤ o0) (X_ob : Exa Z h0 ob "com/example/fanout/fanout/server/MemoryBudget") (F_ob_limit : Fld Z h0 ob "com/example/fanout/fanout/server/MemoryBudget" "limit" "J" (.long lim)) (F_ob_charged : Fld Z h0 ob "com/example/fanout/fanout/server/MemoryBudget" "charged" "J" (.long ch)) (F_ob_largestCharge : Fld Z h0 ob "com/example/fanout/fanout/server/MemoryBudget" "largestCharge" "J" (.long lg)) (F_ob_taken : Fld Z h0 ob "com/example/fanout/fanout/server/MemoryBudget" "taken" "J" (.long tk)) (ge_ob : n0 ≤ ob) (ne_o0_ob : o0 ≠ ob) (ne_ob_o0 : ob ≠ o0) (ex1 : x1 = 1) (epl : pl = 0) :
    Mt l Z (⟨"com/example/fanout/fanout/server/MemoryBudget$Charge", "hold", "(I)V"⟩ : MethodName) prog_10_method_2_code 2 none rm_c9 n0 #[(.ref o0), (.int x1)] h0 (Q_c9 Z n0 h0 o0 x1 ob oc pl lim ch lg tk) := by
  refine met_of (plainFor_of_name pn_1) (Ls := #[.val (.ref o0), .val (.int x1)]) (fun m => by first | (simp [entryFrame, mkF, argsToLocals, Value.category]; done) | rfl) hn ?_
  intro p e s m below meth c T K W
  replace K : Cx p s m meth c Z "com/example/fanout/fanout/server/MemoryBudget$Charge" "hold" prog_10_method_2_code 2 none := K
  generalize eA : (#[(.ref o0), (.int x1)] : Array Value) = args at W
  show Go p e below s n0 (Q_c9 Z n0 h0 o0 x1 ob oc pl lim ch lg tk) 0 0 T (mkF m 0 #[.val (.ref o0), .val (.int x1)] [])
  have kp := Keep.refl h0 [o0, ob]
  subst ex1 epl
  show Go p e below s n0 (Q_c9 Z n0 h0 o0 (1 : Int32) ob oc (0 : Int32) lim ch lg tk) 0 0 T (mkF m 0 #[.val (.ref o0), .val (.int (1 : Int32))] [])
  refine g_iloadN K W d9_0 rfl (pc' := 1) rfl ?_
  refine g_if_le K W d9_1 (pt := 27) rfl (pf := 4) rfl (fun hc1 => ?_) (fun hc1 => absurd (by decide) hc1)
  refine g_aloadN K W d9_4 rfl rfl (pc' := 5) rfl ?_
  refine g_getF K W (host := "") (Or.inl (hw _ (List.mem_of_getElem? (i := 25) rfl))) Via.refl F_o0_taken d9_5 (pc' := 8) rfl (fun T W => ?_)
  refine g_if_ne K W d9_8 (pt := 27) rfl (pf := 11) rfl (fun hc8 => absurd hc8 (by decide)) (fun hc8 => ?_)
  refine g_aloadN K W d9_27 rfl rfl (pc' := 28) rfl ?_
  refine g_dup K W d9_28 rfl (pc' := 29) rfl ?_
  refine g_getF K W (host := "") (Or.inl (hw _ (List.mem_of_getElem? (i := 63) rfl))) Via.refl F_o0_places d9_29 (pc' := 32) rfl (fun T W => ?_)
  refine g_iloadN K W d9_32 rfl (pc' := 33) rfl ?_
  refine g_iadd K W d9_33 (pc' := 34) rfl ?_
  refine g_putF K W (host := "") (Or.inl (hw _ (List.mem_of_getElem? (i := 63) rfl))) Via.refl F_o0_places X_o0 (Or.inl (hw _ (List.mem_of_getElem? (i := 64) rfl))) (hw _ (List.mem_of_getElem? (i := 18) rfl)) (ty := .int) (by decide) rfl rfl ge_o0 d9_34 (pc' := 37) rfl (fun T h W w => ?_)
  have kp := kp.wr w (Or.inl (List.mem_of_getElem? (i := 0) rfl))
  have X_o0 := X_o0.wr w
  have F_o0_taken := F_o0_taken.other w (Or.inr (slot_ne (a0 := a0) (C := "com/example/fanout/fanout/server/MemoryBudget$Charge") (Or.inl (hw _ (List.mem_of_getElem? (i := 26) rfl))) (Or.inl (hw _ (List.mem_of_getElem? (i := 64) rfl))) (by decide) (t := .boolean) (t' := .int) (by decide) (by decide)))
  have F_o0_budget := F_o0_budget.other w (Or.inr (slot_ne (a0 := a0) (C := "com/example/fanout/fanout/server/MemoryBudget$Charge") (Or.inr (hw _ (List.mem_of_getElem? (i := 28) rfl))) (Or.inl (hw _ (List.mem_of_getElem? (i := 64) rfl))) (by decide) (t := (.object "com/example/fanout/fanout/server/MemoryBudget")) (t' := .int) (by decide) (by decide)))
  have F_o0_octets := F_o0_octets.other w (Or.inr (slot_ne (a0 := a0) (C := "com/example/fanout/fanout/server/MemoryBudget$Charge") (Or.inr (hw _ (List.mem_of_getElem? (i := 30) rfl))) (Or.inl (hw _ (List.mem_of_getElem? (i := 64) rfl))) (by decide) (t := .long) (t' := .int) (by decide) (by decide)))
  have X_ob := X_ob.wr w
  have F_ob_limit := F_ob_limit.other w (Or.inl ne_ob_o0)
  have F_ob_charged := F_ob_charged.other w (Or.inl ne_ob_o0)
  have F_ob_largestCharge := F_ob_largestCharge.other w (Or.inl ne_ob_o0)
  have F_ob_taken := F_ob_taken.other w (Or.inl ne_ob_o0)
  have F_o0_places := F_o0_places.same w
  refine g_aloadN K W d9_37 rfl rfl (pc' := 38) rfl ?_
  refine g_getF K W (host := "") (Or.inl (hw _ (List.mem_of_getElem? (i := 27) rfl))) Via.refl F_o0_budget d9_38 (pc' := 41) rfl (fun T W => ?_)
  refine g_iloadN K W d9_41 rfl (pc' := 42) rfl ?_
  refine g_i2l K W d9_42 (pc' := 43) rfl ?_
  refine g_ldc2 K W (v := (256 : Int64)) (hw _ (List.mem_of_getElem? (i := 65) rfl)) d9_43 (pc' := 46) rfl ?_
  refine g_lmul K W d9_46 (pc' := 47) rfl ?_
  refine g_callV (c7 l Z a0 hw n0 _ W.sz ob (((1 : Int32).toInt64) * (256 : Int64)) lim ch lg tk X_ob F_ob_limit F_ob_charged F_ob_largestCharge F_ob_taken ge_ob) K W X_ob (hw _ (List.mem_of_getElem? (i := 66) rfl)) (hw _ (List.mem_of_getElem? (i := 45) rfl)) (hw _ (List.mem_of_getElem? (i := 47) rfl)) (hw _ (List.mem_of_getElem? (i := 47) rfl)) (hw _ (List.mem_of_getElem? (i := 46) rfl)) (hw _ (List.mem_of_getElem? (i := 3) rfl)) (hw _ (List.mem_of_getElem? (i := 48) rfl)) (by decide) (lenOf pd_0 rfl) d9_47 (pc' := 50) rfl (argsL := [(.long (((1 : Int32).toInt64) * (256 : Int64)))]) (rest := []) rfl rfl (by decide) (wt := 0) rfl (by decide) (by decide) (by decide) ?_
  rintro T h _ W ⟨rfl, kq, F_ob_limit, F_ob_charged, F_ob_largestCharge, F_ob_taken⟩
  show Go p e below s n0 (Q_c9 Z n0 h0 o0 (1 : Int32) ob oc (0 : Int32) lim ch lg tk) 0 0 T (mkF m 50 #[.val (.ref o0), .val (.int (1 : Int32))] [])
  have kp := kp.trans kq (allS (Or.inl (List.mem_of_getElem? (i := 1) rfl)) all0)
  have X_o0 := X_o0.keep kq
  have F_o0_taken := F_o0_taken.keep kq (ninS ne_o0_ob nin0)
  have F_o0_budget := F_o0_budget.keep kq (ninS ne_o0_ob nin0)
  have F_o0_octets := F_o0_octets.keep kq (ninS ne_o0_ob nin0)
  have F_o0_places := F_o0_places.keep kq (ninS ne_o0_ob nin0)
  have X_ob := X_ob.keep kq
  refine g_aloadN K W d9_50 rfl rfl (pc' := 51) rfl ?_
  refine g_getF K W (host := "") (Or.inl (hw _ (List.mem_of_getElem? (i := 63) rfl))) Via.refl F_o0_places d9_51 (pc' := 54) rfl (fun T W => ?_)
  refine g_if_ne K W d9_54 (pt := 61) rfl (pf := 57) rfl (fun hc54 => absurd hc54 (by decide)) (fun hc54 => ?_)
  exact g_ret0 K W d9_61 (by decide) (by decide) ⟨rfl, kp, _, F_ob_limit, F_ob_charged, F_ob_largestCharge, F_ob_taken⟩
def Q_c0 (Z : State) (n0 : Nat) (h0 : Heap) (lx : Int64) (xa : Int32) (xb : Int32) (xc : Int32) (md : Int32) : Option Value → Heap → Prop := fun v h => v = some (.int 1)
set_option maxHeartbeats 40000000 in
theorem c0 (l : Launch) (Z : State) (a0 : Array Value) (hw : ∀ d ∈ tables_1, d.before a0 Z = true) (n0 : Nat) (h0 : Heap) (hn : n0 ≤ h0.size) (lx : Int64) (xa : Int32) (xb : Int32) (xc : Int32) (md : Int32) :
    Mt l Z x code maxLocals ret room_1 n0 #[(.long lx), (.int xa), (.int xb), (.int xc), (.int md)] h0 (Q_c0 Z n0 h0 lx xa xb xc md) := by
  refine met_of (plainFor_of_name pn_2) (Ls := #[.val (.long lx), .second, .val (.int xa), .val (.int xb), .val (.int xc), .val (.int md), .unset, .unset, .unset, .unset, .unset, .unset, .unset, .unset, .unset, .unset, .unset, .unset, .unset, .unset, .unset, .unset, .unset, .unset, .unset, .unset, .unset, .unset, .unset, .unset]) (fun m => by first | (simp [entryFrame, mkF, argsToLocals, Value.category, maxLocals]; done) | rfl) hn ?_
  intro p e s m below meth c T K W
  replace K : Cx p s m meth c Z "com/example/fanout/fanout/server/MemoryBudgetIsOverdrawnPinLaw" "law" code 30 (some .boolean) := K
  generalize eA : (#[(.long lx), (.int xa), (.int xb), (.int xc), (.int md)] : Array Value) = args at W
  show Go p e below s n0 (Q_c0 Z n0 h0 lx xa xb xc md) 16 128 T (mkF m 0 #[.val (.long lx), .second, .val (.int xa), .val (.int xb), .val (.int xc), .val (.int md), .unset, .unset, .unset, .unset, .unset, .unset, .unset, .unset, .unset, .unset, .unset, .unset, .unset, .unset, .unset, .unset, .unset, .unset, .unset, .unset, .unset, .unset, .unset, .unset] [])
  refine g_iload K W at_0 rfl (pc' := 2) rfl ?_
  refine g_iconst K W (v := (1 : Int32)) at_2 rfl (pc' := 3) rfl ?_
  refine g_iand K W at_3 (pc' := 4) rfl ?_
  have hJa : ∀ lm : Int64, True → Go p e below s n0 (Q_c0 Z n0 h0 lx xa xb xc md) 16 128 T (mkF m 16 #[.val (.long lx), .second, .val (.int xa), .val (.int xb), .val (.int xc), .val (.int md), .unset, .unset, .unset, .unset, .unset, .unset, .unset, .unset, .unset, .unset, .unset, .unset, .unset, .unset, .unset, .unset, .unset, .unset, .unset, .unset, .unset, .unset, .unset, .unset] [(.long lm)]) := by
    intro lm hJa_lm
    refine g_lstore K W at_16 (Ls' := #[.val (.long lx), .second, .val (.int xa), .val (.int xb), .val (.int xc), .val (.int md), .val (.long lm), .second, .unset, .unset, .unset, .unset, .unset, .unset, .unset, .unset, .unset, .unset, .unset, .unset, .unset, .unset, .unset, .unset, .unset, .unset, .unset, .unset, .unset, .unset]) rfl (pc' := 18) rfl ?_
    refine g_iload K W at_18 rfl (pc' := 20) rfl ?_
    refine g_iconst K W (v := (1 : Int32)) at_20 rfl (pc' := 21) rfl ?_
    refine g_iushr K W at_21 (pc' := 22) rfl ?_
    refine g_iconst K W (v := (3 : Int32)) at_22 rfl (pc' := 23) rfl ?_
    refine g_iand K W at_23 (pc' := 24) rfl ?_
    generalize e_v24 : (((md.toUInt32 >>> ((1 : Int32) &&& 31).toUInt32).toInt32) &&& (3 : Int32)) = v24
    refine g_istore K W at_24 (Ls' := #[.val (.long lx), .second, .val (.int xa), .val (.int xb), .val (.int xc), .val (.int md), .val (.long lm), .second, .val (.int v24), .unset, .unset, .unset, .unset, .unset, .unset, .unset, .unset, .unset, .unset, .unset, .unset, .unset, .unset, .unset, .unset, .unset, .unset, .unset, .unset, .unset]) rfl (pc' := 26) rfl ?_
    refine g_iload K W at_26 rfl (pc' := 28) rfl ?_
    refine g_iconst K W (v := (3 : Int32)) at_28 rfl (pc' := 29) rfl ?_
    refine g_iushr K W at_29 (pc' := 30) rfl ?_
    refine g_iconst K W (v := (1 : Int32)) at_30 rfl (pc' := 31) rfl ?_
    refine g_iand K W at_31 (pc' := 32) rfl ?_
    have hJb : ∀ gv : Int32, True → Go p e below s n0 (Q_c0 Z n0 h0 lx xa xb xc md) 16 128 T (mkF m 40 #[.val (.long lx), .second, .val (.int xa), .val (.int xb), .val (.int xc), .val (.int md), .val (.long lm), .second, .val (.int v24), .unset, .unset, .unset, .unset, .unset, .unset, .unset, .unset, .unset, .unset, .unset, .unset, .unset, .unset, .unset, .unset, .unset, .unset, .unset, .unset, .unset] [(.int gv)]) := by
      intro gv hJb_gv
      refine g_istore K W at_40 (Ls' := #[.val (.long lx), .second, .val (.int xa), .val (.int xb), .val (.int xc), .val (.int md), .val (.long lm), .second, .val (.int v24), .val (.int gv), .unset, .unset, .unset, .unset, .unset, .unset, .unset, .unset, .unset, .unset, .unset, .unset, .unset, .unset, .unset, .unset, .unset, .unset, .unset, .unset]) rfl (pc' := 42) rfl ?_
      refine g_iload K W at_42 rfl (pc' := 44) rfl ?_
      refine g_iconst K W (v := (4 : Int32)) at_44 rfl (pc' := 45) rfl ?_
      refine g_iushr K W at_45 (pc' := 46) rfl ?_
      refine g_iconst K W (v := (1 : Int32)) at_46 rfl (pc' := 47) rfl ?_
      refine g_iand K W at_47 (pc' := 48) rfl ?_
      have hJc : ∀ hv : Int32, True → Go p e below s n0 (Q_c0 Z n0 h0 lx xa xb xc md) 16 128 T (mkF m 56 #[.val (.long lx), .second, .val (.int xa), .val (.int xb), .val (.int xc), .val (.int md), .val (.long lm), .second, .val (.int v24), .val (.int gv), .unset, .unset, .unset, .unset, .unset, .unset, .unset, .unset, .unset, .unset, .unset, .unset, .unset, .unset, .unset, .unset, .unset, .unset, .unset, .unset] [(.int hv)]) := by
        intro hv hJc_hv
        refine g_istore K W at_56 (Ls' := #[.val (.long lx), .second, .val (.int xa), .val (.int xb), .val (.int xc), .val (.int md), .val (.long lm), .second, .val (.int v24), .val (.int gv), .val (.int hv), .unset, .unset, .unset, .unset, .unset, .unset, .unset, .unset, .unset, .unset, .unset, .unset, .unset, .unset, .unset, .unset, .unset, .unset, .unset]) rfl (pc' := 58) rfl ?_
        refine g_iloadN K W at_58 rfl (pc' := 59) rfl ?_
        refine g_sipush K W (v := (2047 : Int32)) at_59 rfl (pc' := 62) rfl ?_
        refine g_iand K W at_62 (pc' := 63) rfl ?_
        refine g_i2l K W at_63 (pc' := 64) rfl ?_
        generalize e_v64 : ((xa &&& (2047 : Int32)).toInt64) = v64
        refine g_lstore K W at_64 (Ls' := #[.val (.long lx), .second, .val (.int xa), .val (.int xb), .val (.int xc), .val (.int md), .val (.long lm), .second, .val (.int v24), .val (.int gv), .val (.int hv), .val (.long v64), .second, .unset, .unset, .unset, .unset, .unset, .unset, .unset, .unset, .unset, .unset, .unset, .unset, .unset, .unset, .unset, .unset, .unset]) rfl (pc' := 66) rfl ?_
        refine g_iloadN K W at_66 rfl (pc' := 67) rfl ?_
        refine g_sipush K W (v := (2047 : Int32)) at_67 rfl (pc' := 70) rfl ?_
        refine g_iand K W at_70 (pc' := 71) rfl ?_
        refine g_i2l K W at_71 (pc' := 72) rfl ?_
        generalize e_v72 : ((xb &&& (2047 : Int32)).toInt64) = v72
        refine g_lstore K W at_72 (Ls' := #[.val (.long lx), .second, .val (.int xa), .val (.int xb), .val (.int xc), .val (.int md), .val (.long lm), .second, .val (.int v24), .val (.int gv), .val (.int hv), .val (.long v64), .second, .val (.long v72), .second, .unset, .unset, .unset, .unset, .unset, .unset, .unset, .unset, .unset, .unset, .unset, .unset, .unset, .unset, .unset]) rfl (pc' := 74) rfl ?_
        refine g_iload K W at_74 rfl (pc' := 76) rfl ?_
        refine g_sipush K W (v := (2047 : Int32)) at_76 rfl (pc' := 79) rfl ?_
        refine g_iand K W at_79 (pc' := 80) rfl ?_
        refine g_i2l K W at_80 (pc' := 81) rfl ?_
        generalize e_v81 : ((xc &&& (2047 : Int32)).toInt64) = v81
        refine g_lstore K W at_81 (Ls' := #[.val (.long lx), .second, .val (.int xa), .val (.int xb), .val (.int xc), .val (.int md), .val (.long lm), .second, .val (.int v24), .val (.int gv), .val (.int hv), .val (.long v64), .second, .val (.long v72), .second, .val (.long v81), .second, .unset, .unset, .unset, .unset, .unset, .unset, .unset, .unset, .unset, .unset, .unset, .unset, .unset]) rfl (pc' := 83) rfl ?_
        refine g_lload K W at_83 rfl (pc' := 85) rfl ?_
        refine g_ldc2 K W (v := (192 : Int64)) (hw _ (List.mem_of_getElem? (i := 0) rfl)) at_85 (pc' := 88) rfl ?_
        refine g_ladd K W at_88 (pc' := 89) rfl ?_
        refine g_lstore K W at_89 (Ls' := #[.val (.long lx), .second, .val (.int xa), .val (.int xb), .val (.int xc), .val (.int md), .val (.long lm), .second, .val (.int v24), .val (.int gv), .val (.int hv), .val (.long v64), .second, .val (.long v72), .second, .val (.long v81), .second, .val (.long (v64 + (192 : Int64))), .second, .unset, .unset, .unset, .unset, .unset, .unset, .unset, .unset, .unset, .unset, .unset]) rfl (pc' := 91) rfl ?_
        refine g_lload K W at_91 rfl (pc' := 93) rfl ?_
        refine g_ldc2 K W (v := (192 : Int64)) (hw _ (List.mem_of_getElem? (i := 0) rfl)) at_93 (pc' := 96) rfl ?_
        refine g_ladd K W at_96 (pc' := 97) rfl ?_
        refine g_lstore K W at_97 (Ls' := #[.val (.long lx), .second, .val (.int xa), .val (.int xb), .val (.int xc), .val (.int md), .val (.long lm), .second, .val (.int v24), .val (.int gv), .val (.int hv), .val (.long v64), .second, .val (.long v72), .second, .val (.long v81), .second, .val (.long (v64 + (192 : Int64))), .second, .val (.long (v72 + (192 : Int64))), .second, .unset, .unset, .unset, .unset, .unset, .unset, .unset, .unset, .unset]) rfl (pc' := 99) rfl ?_
        refine g_lload K W at_99 rfl (pc' := 101) rfl ?_
        refine g_ldc2 K W (v := (192 : Int64)) (hw _ (List.mem_of_getElem? (i := 0) rfl)) at_101 (pc' := 104) rfl ?_
        refine g_ladd K W at_104 (pc' := 105) rfl ?_
        refine g_lstore K W at_105 (Ls' := #[.val (.long lx), .second, .val (.int xa), .val (.int xb), .val (.int xc), .val (.int md), .val (.long lm), .second, .val (.int v24), .val (.int gv), .val (.int hv), .val (.long v64), .second, .val (.long v72), .second, .val (.long v81), .second, .val (.long (v64 + (192 : Int64))), .second, .val (.long (v72 + (192 : Int64))), .second, .val (.long (v81 + (192 : Int64))), .second, .unset, .unset, .unset, .unset, .unset, .unset, .unset]) rfl (pc' := 107) rfl ?_
        refine g_new K W (hw _ (List.mem_of_getElem? (i := 1) rfl)) (hw _ (List.mem_of_getElem? (i := 2) rfl)) (hw _ (List.mem_of_getElem? (i := 3) rfl)) at_107 (pc' := 110) rfl (by decide) (by decide) (fun T h bu W E ha_bu ge_bu X_bu Dn => ?_)
        have F_bu_limit : Fld Z h bu "com/example/fanout/fanout/server/MemoryBudget" "limit" "J" (.long (0 : Int64)) := Dn (Or.inr (hw _ (List.mem_of_getElem? (i := 11) rfl))) (ty := .long) (by decide)
        have F_bu_largestCharge : Fld Z h bu "com/example/fanout/fanout/server/MemoryBudget" "largestCharge" "J" (.long (0 : Int64)) := Dn (Or.inl (hw _ (List.mem_of_getElem? (i := 32) rfl))) (ty := .long) (by decide)
        have F_bu_charged : Fld Z h bu "com/example/fanout/fanout/server/MemoryBudget" "charged" "J" (.long (0 : Int64)) := Dn (Or.inl (hw _ (List.mem_of_getElem? (i := 43) rfl))) (ty := .long) (by decide)
        have F_bu_taken : Fld Z h bu "com/example/fanout/fanout/server/MemoryBudget" "taken" "J" (.long (0 : Int64)) := Dn (Or.inl (hw _ (List.mem_of_getElem? (i := 50) rfl))) (ty := .long) (by decide)
        refine g_dup K W at_110 rfl (pc' := 111) rfl ?_
        refine g_lload K W at_111 rfl (pc' := 113) rfl ?_
        refine g_callN (c1 l Z a0 hw n0 _ W.sz bu lm X_bu F_bu_limit F_bu_charged F_bu_largestCharge F_bu_taken ge_bu) K W rfl (hw _ (List.mem_of_getElem? (i := 4) rfl)) (hw _ (List.mem_of_getElem? (i := 5) rfl)) (hw _ (List.mem_of_getElem? (i := 3) rfl)) (hw _ (List.mem_of_getElem? (i := 6) rfl)) (by decide) (lenOf pd_0 rfl) at_113 (pc' := 116) rfl (argsL := [(.long lm)]) (rest := [(.ref bu)]) rfl rfl (by decide) (wt := 1) rfl (by decide) (by decide) (by decide) ?_
        rintro T h _ W ⟨rfl, kq, F_bu_limit, F_bu_charged, F_bu_largestCharge, F_bu_taken⟩
        show Go p e below s n0 (Q_c0 Z n0 h0 lx xa xb xc md) 16 128 T (mkF m 116 #[.val (.long lx), .second, .val (.int xa), .val (.int xb), .val (.int xc), .val (.int md), .val (.long lm), .second, .val (.int v24), .val (.int gv), .val (.int hv), .val (.long v64), .second, .val (.long v72), .second, .val (.long v81), .second, .val (.long (v64 + (192 : Int64))), .second, .val (.long (v72 + (192 : Int64))), .second, .val (.long (v81 + (192 : Int64))), .second, .unset, .unset, .unset, .unset, .unset, .unset, .unset] [(.ref bu)])
        have X_bu := X_bu.keep kq
        refine g_astore K W at_116 rfl (Ls' := #[.val (.long lx), .second, .val (.int xa), .val (.int xb), .val (.int xc), .val (.int md), .val (.long lm), .second, .val (.int v24), .val (.int gv), .val (.int hv), .val (.long v64), .second, .val (.long v72), .second, .val (.long v81), .second, .val (.long (v64 + (192 : Int64))), .second, .val (.long (v72 + (192 : Int64))), .second, .val (.long (v81 + (192 : Int64))), .second, .val (.ref bu), .unset, .unset, .unset, .unset, .unset, .unset]) rfl (pc' := 118) rfl ?_
        refine g_lconst K W (v := (0 : Int64)) at_118 rfl (pc' := 119) rfl ?_
        refine g_lstore K W at_119 (Ls' := #[.val (.long lx), .second, .val (.int xa), .val (.int xb), .val (.int xc), .val (.int md), .val (.long lm), .second, .val (.int v24), .val (.int gv), .val (.int hv), .val (.long v64), .second, .val (.long v72), .second, .val (.long v81), .second, .val (.long (v64 + (192 : Int64))), .second, .val (.long (v72 + (192 : Int64))), .second, .val (.long (v81 + (192 : Int64))), .second, .val (.ref bu), .val (.long (0 : Int64)), .second, .unset, .unset, .unset, .unset]) rfl (pc' := 121) rfl ?_
        refine g_lconst K W (v := (0 : Int64)) at_121 rfl (pc' := 122) rfl ?_
        refine g_lstore K W at_122 (Ls' := #[.val (.long lx), .second, .val (.int xa), .val (.int xb), .val (.int xc), .val (.int md), .val (.long lm), .second, .val (.int v24), .val (.int gv), .val (.int hv), .val (.long v64), .second, .val (.long v72), .second, .val (.long v81), .second, .val (.long (v64 + (192 : Int64))), .second, .val (.long (v72 + (192 : Int64))), .second, .val (.long (v81 + (192 : Int64))), .second, .val (.ref bu), .val (.long (0 : Int64)), .second, .val (.long (0 : Int64)), .second, .unset, .unset]) rfl (pc' := 124) rfl ?_
        refine g_null K W at_124 (pc' := 125) rfl ?_
        refine g_astore K W at_125 rfl (Ls' := #[.val (.long lx), .second, .val (.int xa), .val (.int xb), .val (.int xc), .val (.int md), .val (.long lm), .second, .val (.int v24), .val (.int gv), .val (.int hv), .val (.long v64), .second, .val (.long v72), .second, .val (.long v81), .second, .val (.long (v64 + (192 : Int64))), .second, .val (.long (v72 + (192 : Int64))), .second, .val (.long (v81 + (192 : Int64))), .second, .val (.ref bu), .val (.long (0 : Int64)), .second, .val (.long (0 : Int64)), .second, .val .null, .unset]) rfl (pc' := 127) rfl ?_
        have hm := own_and3 ((md.toUInt32 >>> ((1 : Int32) &&& 31).toUInt32).toInt32)
        rw [e_v24] at hm
        rcases hm with rfl | rfl | rfl | rfl
        · refine g_iload K W at_127 rfl (pc' := 129) rfl ?_
          refine g_iconst K W (v := (1 : Int32)) at_129 rfl (pc' := 130) rfl ?_
          refine g_icmp_lt K W at_130 (pt := 158) rfl (pf := 133) rfl (fun hc130 => ?_) (fun hc130 => absurd (by decide) hc130)
          refine g_iload K W at_158 rfl (pc' := 160) rfl ?_
          refine g_iconst K W (v := (2 : Int32)) at_160 rfl (pc' := 161) rfl ?_
          refine g_icmp_lt K W at_161 (pt := 200) rfl (pf := 164) rfl (fun hc161 => ?_) (fun hc161 => absurd (by decide) hc161)
          refine g_iload K W at_200 rfl (pc' := 202) rfl ?_
          refine g_iconst K W (v := (3 : Int32)) at_202 rfl (pc' := 203) rfl ?_
          refine g_icmp_lt K W at_203 (pt := 230) rfl (pf := 206) rfl (fun hc203 => ?_) (fun hc203 => absurd (by decide) hc203)
          refine g_iload K W at_230 rfl (pc' := 232) rfl ?_
          refine g_if_eq K W at_232 (pt := 252) rfl (pf := 235) rfl (fun hc232 => ?_) (fun hc232 => ?_)
          · refine g_lload K W at_252 rfl (pc' := 254) rfl ?_
            refine g_lload K W at_254 rfl (pc' := 256) rfl ?_
            refine g_lsub K W at_256 (pc' := 257) rfl ?_
            refine g_lload K W at_257 rfl (pc' := 259) rfl ?_
            refine g_lcmp_lt K W at_259 (pc1 := 260) rfl at_260 (pt := 267) rfl (pf := 263) rfl (fun hc259 => ?_) (fun hc259 => ?_)
            · refine g_iconst K W (v := (0 : Int32)) at_267 rfl (pc' := 268) rfl ?_
              refine g_istore K W at_268 (Ls' := #[.val (.long lx), .second, .val (.int xa), .val (.int xb), .val (.int xc), .val (.int md), .val (.long lm), .second, .val (.int (0 : Int32)), .val (.int gv), .val (.int hv), .val (.long v64), .second, .val (.long v72), .second, .val (.long v81), .second, .val (.long (v64 + (192 : Int64))), .second, .val (.long (v72 + (192 : Int64))), .second, .val (.long (v81 + (192 : Int64))), .second, .val (.ref bu), .val (.long (0 : Int64)), .second, .val (.long (0 : Int64)), .second, .val .null, .val (.int (0 : Int32))]) rfl (pc' := 270) rfl ?_
              refine g_aload K W at_270 rfl rfl (pc' := 272) rfl ?_
              refine g_callV (c8 l Z a0 hw n0 _ W.sz bu lm (0 : Int64) (0 : Int64) (0 : Int64) X_bu F_bu_limit F_bu_charged F_bu_largestCharge F_bu_taken ge_bu) K W X_bu (hw _ (List.mem_of_getElem? (i := 52) rfl)) (hw _ (List.mem_of_getElem? (i := 53) rfl)) (hw _ (List.mem_of_getElem? (i := 55) rfl)) (hw _ (List.mem_of_getElem? (i := 55) rfl)) (hw _ (List.mem_of_getElem? (i := 54) rfl)) (hw _ (List.mem_of_getElem? (i := 3) rfl)) (hw _ (List.mem_of_getElem? (i := 56) rfl)) (by decide) (lenOf pd_3 rfl) at_272 (pc' := 275) rfl (argsL := []) (rest := []) rfl rfl (by decide) (wt := 0) rfl (by decide) (by decide) (by decide) ?_
              rintro T _ _ W ⟨rfl, rfl⟩
              show Go p e below s n0 (Q_c0 Z n0 h0 lx xa xb xc md) 16 128 T (mkF m 275 #[.val (.long lx), .second, .val (.int xa), .val (.int xb), .val (.int xc), .val (.int md), .val (.long lm), .second, .val (.int (0 : Int32)), .val (.int gv), .val (.int hv), .val (.long v64), .second, .val (.long v72), .second, .val (.long v81), .second, .val (.long (v64 + (192 : Int64))), .second, .val (.long (v72 + (192 : Int64))), .second, .val (.long (v81 + (192 : Int64))), .second, .val (.ref bu), .val (.long (0 : Int64)), .second, .val (.long (0 : Int64)), .second, .val .null, .val (.int (0 : Int32))] [(.int (if (0 : Int64) - (0 : Int64) < lm then (0 : Int32) else 1))])
              refine g_iload K W at_275 rfl (pc' := 277) rfl ?_
              refine g_icmp_ne K W at_277 (pt := 284) rfl (pf := 280) rfl (fun hc277 => ?_) (fun hc277 => absurd (if_pos hc259) hc277)
              refine g_iconst K W (v := (1 : Int32)) at_280 rfl (pc' := 281) rfl ?_
              refine g_goto K W at_281 (pt := 285) rfl ?_
              exact g_retN K W (by simp) at_285 (by decide) (by decide) (v := (1 : Int32)) rfl rfl
            · refine g_iconst K W (v := (1 : Int32)) at_263 rfl (pc' := 264) rfl ?_
              refine g_goto K W at_264 (pt := 268) rfl ?_
              refine g_istore K W at_268 (Ls' := #[.val (.long lx), .second, .val (.int xa), .val (.int xb), .val (.int xc), .val (.int md), .val (.long lm), .second, .val (.int (0 : Int32)), .val (.int gv), .val (.int hv), .val (.long v64), .second, .val (.long v72), .second, .val (.long v81), .second, .val (.long (v64 + (192 : Int64))), .second, .val (.long (v72 + (192 : Int64))), .second, .val (.long (v81 + (192 : Int64))), .second, .val (.ref bu), .val (.long (0 : Int64)), .second, .val (.long (0 : Int64)), .second, .val .null, .val (.int (1 : Int32))]) rfl (pc' := 270) rfl ?_
              refine g_aload K W at_270 rfl rfl (pc' := 272) rfl ?_
              refine g_callV (c8 l Z a0 hw n0 _ W.sz bu lm (0 : Int64) (0 : Int64) (0 : Int64) X_bu F_bu_limit F_bu_charged F_bu_largestCharge F_bu_taken ge_bu) K W X_bu (hw _ (List.mem_of_getElem? (i := 52) rfl)) (hw _ (List.mem_of_getElem? (i := 53) rfl)) (hw _ (List.mem_of_getElem? (i := 55) rfl)) (hw _ (List.mem_of_getElem? (i := 55) rfl)) (hw _ (List.mem_of_getElem? (i := 54) rfl)) (hw _ (List.mem_of_getElem? (i := 3) rfl)) (hw _ (List.mem_of_getElem? (i := 56) rfl)) (by decide) (lenOf pd_3 rfl) at_272 (pc' := 275) rfl (argsL := []) (rest := []) rfl rfl (by decide) (wt := 0) rfl (by decide) (by decide) (by decide) ?_
              rintro T _ _ W ⟨rfl, rfl⟩
              show Go p e below s n0 (Q_c0 Z n0 h0 lx xa xb xc md) 16 128 T (mkF m 275 #[.val (.long lx), .second, .val (.int xa), .val (.int xb), .val (.int xc), .val (.int md), .val (.long lm), .second, .val (.int (0 : Int32)), .val (.int gv), .val (.int hv), .val (.long v64), .second, .val (.long v72), .second, .val (.long v81), .second, .val (.long (v64 + (192 : Int64))), .second, .val (.long (v72 + (192 : Int64))), .second, .val (.long (v81 + (192 : Int64))), .second, .val (.ref bu), .val (.long (0 : Int64)), .second, .val (.long (0 : Int64)), .second, .val .null, .val (.int (1 : Int32))] [(.int (if (0 : Int64) - (0 : Int64) < lm then (0 : Int32) else 1))])
              refine g_iload K W at_275 rfl (pc' := 277) rfl ?_
              refine g_icmp_ne K W at_277 (pt := 284) rfl (pf := 280) rfl (fun hc277 => ?_) (fun hc277 => absurd (if_neg hc259) hc277)
              refine g_iconst K W (v := (1 : Int32)) at_280 rfl (pc' := 281) rfl ?_
              refine g_goto K W at_281 (pt := 285) rfl ?_
              exact g_retN K W (by simp) at_285 (by decide) (by decide) (v := (1 : Int32)) rfl rfl
          · refine g_aload K W at_235 rfl rfl (pc' := 237) rfl ?_
            refine g_ifnull_t K W at_237 (pt := 252) rfl ?_
            refine g_lload K W at_252 rfl (pc' := 254) rfl ?_
            refine g_lload K W at_254 rfl (pc' := 256) rfl ?_
            refine g_lsub K W at_256 (pc' := 257) rfl ?_
            refine g_lload K W at_257 rfl (pc' := 259) rfl ?_
            refine g_lcmp_lt K W at_259 (pc1 := 260) rfl at_260 (pt := 267) rfl (pf := 263) rfl (fun hc259 => ?_) (fun hc259 => ?_)
            · refine g_iconst K W (v := (0 : Int32)) at_267 rfl (pc' := 268) rfl ?_
              refine g_istore K W at_268 (Ls' := #[.val (.long lx), .second, .val (.int xa), .val (.int xb), .val (.int xc), .val (.int md), .val (.long lm), .second, .val (.int (0 : Int32)), .val (.int gv), .val (.int hv), .val (.long v64), .second, .val (.long v72), .second, .val (.long v81), .second, .val (.long (v64 + (192 : Int64))), .second, .val (.long (v72 + (192 : Int64))), .second, .val (.long (v81 + (192 : Int64))), .second, .val (.ref bu), .val (.long (0 : Int64)), .second, .val (.long (0 : Int64)), .second, .val .null, .val (.int (0 : Int32))]) rfl (pc' := 270) rfl ?_
              refine g_aload K W at_270 rfl rfl (pc' := 272) rfl ?_
              refine g_callV (c8 l Z a0 hw n0 _ W.sz bu lm (0 : Int64) (0 : Int64) (0 : Int64) X_bu F_bu_limit F_bu_charged F_bu_largestCharge F_bu_taken ge_bu) K W X_bu (hw _ (List.mem_of_getElem? (i := 52) rfl)) (hw _ (List.mem_of_getElem? (i := 53) rfl)) (hw _ (List.mem_of_getElem? (i := 55) rfl)) (hw _ (List.mem_of_getElem? (i := 55) rfl)) (hw _ (List.mem_of_getElem? (i := 54) rfl)) (hw _ (List.mem_of_getElem? (i := 3) rfl)) (hw _ (List.mem_of_getElem? (i := 56) rfl)) (by decide) (lenOf pd_3 rfl) at_272 (pc' := 275) rfl (argsL := []) (rest := []) rfl rfl (by decide) (wt := 0) rfl (by decide) (by decide) (by decide) ?_
              rintro T _ _ W ⟨rfl, rfl⟩
              show Go p e below s n0 (Q_c0 Z n0 h0 lx xa xb xc md) 16 128 T (mkF m 275 #[.val (.long lx), .second, .val (.int xa), .val (.int xb), .val (.int xc), .val (.int md), .val (.long lm), .second, .val (.int (0 : Int32)), .val (.int gv), .val (.int hv), .val (.long v64), .second, .val (.long v72), .second, .val (.long v81), .second, .val (.long (v64 + (192 : Int64))), .second, .val (.long (v72 + (192 : Int64))), .second, .val (.long (v81 + (192 : Int64))), .second, .val (.ref bu), .val (.long (0 : Int64)), .second, .val (.long (0 : Int64)), .second, .val .null, .val (.int (0 : Int32))] [(.int (if (0 : Int64) - (0 : Int64) < lm then (0 : Int32) else 1))])
              refine g_iload K W at_275 rfl (pc' := 277) rfl ?_
              refine g_icmp_ne K W at_277 (pt := 284) rfl (pf := 280) rfl (fun hc277 => ?_) (fun hc277 => absurd (if_pos hc259) hc277)
              refine g_iconst K W (v := (1 : Int32)) at_280 rfl (pc' := 281) rfl ?_
              refine g_goto K W at_281 (pt := 285) rfl ?_
              exact g_retN K W (by simp) at_285 (by decide) (by decide) (v := (1 : Int32)) rfl rfl
            · refine g_iconst K W (v := (1 : Int32)) at_263 rfl (pc' := 264) rfl ?_
              refine g_goto K W at_264 (pt := 268) rfl ?_
              refine g_istore K W at_268 (Ls' := #[.val (.long lx), .second, .val (.int xa), .val (.int xb), .val (.int xc), .val (.int md), .val (.long lm), .second, .val (.int (0 : Int32)), .val (.int gv), .val (.int hv), .val (.long v64), .second, .val (.long v72), .second, .val (.long v81), .second, .val (.long (v64 + (192 : Int64))), .second, .val (.long (v72 + (192 : Int64))), .second, .val (.long (v81 + (192 : Int64))), .second, .val (.ref bu), .val (.long (0 : Int64)), .second, .val (.long (0 : Int64)), .second, .val .null, .val (.int (1 : Int32))]) rfl (pc' := 270) rfl ?_
              refine g_aload K W at_270 rfl rfl (pc' := 272) rfl ?_
              refine g_callV (c8 l Z a0 hw n0 _ W.sz bu lm (0 : Int64) (0 : Int64) (0 : Int64) X_bu F_bu_limit F_bu_charged F_bu_largestCharge F_bu_taken ge_bu) K W X_bu (hw _ (List.mem_of_getElem? (i := 52) rfl)) (hw _ (List.mem_of_getElem? (i := 53) rfl)) (hw _ (List.mem_of_getElem? (i := 55) rfl)) (hw _ (List.mem_of_getElem? (i := 55) rfl)) (hw _ (List.mem_of_getElem? (i := 54) rfl)) (hw _ (List.mem_of_getElem? (i := 3) rfl)) (hw _ (List.mem_of_getElem? (i := 56) rfl)) (by decide) (lenOf pd_3 rfl) at_272 (pc' := 275) rfl (argsL := []) (rest := []) rfl rfl (by decide) (wt := 0) rfl (by decide) (by decide) (by decide) ?_
              rintro T _ _ W ⟨rfl, rfl⟩
              show Go p e below s n0 (Q_c0 Z n0 h0 lx xa xb xc md) 16 128 T (mkF m 275 #[.val (.long lx), .second, .val (.int xa), .val (.int xb), .val (.int xc), .val (.int md), .val (.long lm), .second, .val (.int (0 : Int32)), .val (.int gv), .val (.int hv), .val (.long v64), .second, .val (.long v72), .second, .val (.long v81), .second, .val (.long (v64 + (192 : Int64))), .second, .val (.long (v72 + (192 : Int64))), .second, .val (.long (v81 + (192 : Int64))), .second, .val (.ref bu), .val (.long (0 : Int64)), .second, .val (.long (0 : Int64)), .second, .val .null, .val (.int (1 : Int32))] [(.int (if (0 : Int64) - (0 : Int64) < lm then (0 : Int32) else 1))])
              refine g_iload K W at_275 rfl (pc' := 277) rfl ?_
              refine g_icmp_ne K W at_277 (pt := 284) rfl (pf := 280) rfl (fun hc277 => ?_) (fun hc277 => absurd (if_neg hc259) hc277)
              refine g_iconst K W (v := (1 : Int32)) at_280 rfl (pc' := 281) rfl ?_
              refine g_goto K W at_281 (pt := 285) rfl ?_
              exact g_retN K W (by simp) at_285 (by decide) (by decide) (v := (1 : Int32)) rfl rfl
        · refine g_iload K W at_127 rfl (pc' := 129) rfl ?_
          refine g_iconst K W (v := (1 : Int32)) at_129 rfl (pc' := 130) rfl ?_
          refine g_icmp_lt K W at_130 (pt := 158) rfl (pf := 133) rfl (fun hc130 => absurd hc130 (by decide)) (fun hc130 => ?_)
          refine g_aload K W at_133 rfl rfl (pc' := 135) rfl ?_
          refine g_lload K W at_135 rfl (pc' := 137) rfl ?_
          have lt_bu := X_bu.lt
          refine g_callV (c3 l Z a0 hw n0 _ W.sz bu v64 lm (0 : Int64) (0 : Int64) (0 : Int64) X_bu F_bu_limit F_bu_charged F_bu_largestCharge F_bu_taken ge_bu) K W X_bu (hw _ (List.mem_of_getElem? (i := 12) rfl)) (hw _ (List.mem_of_getElem? (i := 13) rfl)) (hw _ (List.mem_of_getElem? (i := 15) rfl)) (hw _ (List.mem_of_getElem? (i := 15) rfl)) (hw _ (List.mem_of_getElem? (i := 14) rfl)) (hw _ (List.mem_of_getElem? (i := 3) rfl)) (hw _ (List.mem_of_getElem? (i := 16) rfl)) (by decide) (lenOf pd_4 rfl) at_137 (pc' := 140) rfl (argsL := [(.long v64)]) (rest := []) rfl rfl (by decide) (wt := 0) rfl (by decide) (by decide) (by decide) ?_
          rintro T h _ W ⟨c137, rfl, ge_c137, sz_c137, kq, X_c137, F_c137_taken, F_c137_budget, F_c137_octets, F_c137_places, F_bu_limit, F_bu_charged, F_bu_largestCharge, F_bu_taken⟩
          show Go p e below s n0 (Q_c0 Z n0 h0 lx xa xb xc md) 16 128 T (mkF m 140 #[.val (.long lx), .second, .val (.int xa), .val (.int xb), .val (.int xc), .val (.int md), .val (.long lm), .second, .val (.int (1 : Int32)), .val (.int gv), .val (.int hv), .val (.long v64), .second, .val (.long v72), .second, .val (.long v81), .second, .val (.long (v64 + (192 : Int64))), .second, .val (.long (v72 + (192 : Int64))), .second, .val (.long (v81 + (192 : Int64))), .second, .val (.ref bu), .val (.long (0 : Int64)), .second, .val (.long (0 : Int64)), .second, .val .null, .unset] [(.ref c137)])
          have X_bu := X_bu.keep kq
          have ne_bu_c137 : bu ≠ c137 := Nat.ne_of_lt (Nat.lt_of_lt_of_le lt_bu sz_c137)
          have ne_c137_bu := Ne.symm ne_bu_c137
          refine g_astore K W at_140 rfl (Ls' := #[.val (.long lx), .second, .val (.int xa), .val (.int xb), .val (.int xc), .val (.int md), .val (.long lm), .second, .val (.int (1 : Int32)), .val (.int gv), .val (.int hv), .val (.long v64), .second, .val (.long v72), .second, .val (.long v81), .second, .val (.long (v64 + (192 : Int64))), .second, .val (.long (v72 + (192 : Int64))), .second, .val (.long (v81 + (192 : Int64))), .second, .val (.ref bu), .val (.long (0 : Int64)), .second, .val (.long (0 : Int64)), .second, .val (.ref c137), .unset]) rfl (pc' := 142) rfl ?_
          refine g_lload K W at_142 rfl (pc' := 144) rfl ?_
          refine g_lload K W at_144 rfl (pc' := 146) rfl ?_
          refine g_ladd K W at_146 (pc' := 147) rfl ?_
          refine g_lstore K W at_147 (Ls' := #[.val (.long lx), .second, .val (.int xa), .val (.int xb), .val (.int xc), .val (.int md), .val (.long lm), .second, .val (.int (1 : Int32)), .val (.int gv), .val (.int hv), .val (.long v64), .second, .val (.long v72), .second, .val (.long v81), .second, .val (.long (v64 + (192 : Int64))), .second, .val (.long (v72 + (192 : Int64))), .second, .val (.long (v81 + (192 : Int64))), .second, .val (.ref bu), .val (.long ((0 : Int64) + (v64 + (192 : Int64)))), .second, .val (.long (0 : Int64)), .second, .val (.ref c137), .unset]) rfl (pc' := 149) rfl ?_
          refine g_lload K W at_149 rfl (pc' := 151) rfl ?_
          refine g_lload K W at_151 rfl (pc' := 153) rfl ?_
          refine g_callS (c5 l Z a0 hw n0 _ W.sz (0 : Int64) (v64 + (192 : Int64))) K W (hw _ (List.mem_of_getElem? (i := 51) rfl)) (hw _ (List.mem_of_getElem? (i := 35) rfl)) (hw _ (List.mem_of_getElem? (i := 36) rfl)) (hw _ (List.mem_of_getElem? (i := 37) rfl)) (by decide) (lenOf pd_2 rfl) at_153 (pc' := 156) rfl (argsL := [(.long (0 : Int64)), (.long (v64 + (192 : Int64)))]) (rest := []) rfl rfl (by decide) (wt := 0) rfl (by decide) (by decide) (by decide) ?_
          rintro T _ _ W ⟨rfl, rfl⟩
          show Go p e below s n0 (Q_c0 Z n0 h0 lx xa xb xc md) 16 128 T (mkF m 156 #[.val (.long lx), .second, .val (.int xa), .val (.int xb), .val (.int xc), .val (.int md), .val (.long lm), .second, .val (.int (1 : Int32)), .val (.int gv), .val (.int hv), .val (.long v64), .second, .val (.long v72), .second, .val (.long v81), .second, .val (.long (v64 + (192 : Int64))), .second, .val (.long (v72 + (192 : Int64))), .second, .val (.long (v81 + (192 : Int64))), .second, .val (.ref bu), .val (.long ((0 : Int64) + (v64 + (192 : Int64)))), .second, .val (.long (0 : Int64)), .second, .val (.ref c137), .unset] [(.long (own_max (0 : Int64) (v64 + (192 : Int64))))])
          refine g_lstore K W at_156 (Ls' := #[.val (.long lx), .second, .val (.int xa), .val (.int xb), .val (.int xc), .val (.int md), .val (.long lm), .second, .val (.int (1 : Int32)), .val (.int gv), .val (.int hv), .val (.long v64), .second, .val (.long v72), .second, .val (.long v81), .second, .val (.long (v64 + (192 : Int64))), .second, .val (.long (v72 + (192 : Int64))), .second, .val (.long (v81 + (192 : Int64))), .second, .val (.ref bu), .val (.long ((0 : Int64) + (v64 + (192 : Int64)))), .second, .val (.long (own_max (0 : Int64) (v64 + (192 : Int64)))), .second, .val (.ref c137), .unset]) rfl (pc' := 158) rfl ?_
          refine g_iload K W at_158 rfl (pc' := 160) rfl ?_
          refine g_iconst K W (v := (2 : Int32)) at_160 rfl (pc' := 161) rfl ?_
          refine g_icmp_lt K W at_161 (pt := 200) rfl (pf := 164) rfl (fun hc161 => ?_) (fun hc161 => absurd (by decide) hc161)
          refine g_iload K W at_200 rfl (pc' := 202) rfl ?_
          refine g_iconst K W (v := (3 : Int32)) at_202 rfl (pc' := 203) rfl ?_
          refine g_icmp_lt K W at_203 (pt := 230) rfl (pf := 206) rfl (fun hc203 => ?_) (fun hc203 => absurd (by decide) hc203)
          refine g_iload K W at_230 rfl (pc' := 232) rfl ?_
          refine g_if_eq K W at_232 (pt := 252) rfl (pf := 235) rfl (fun hc232 => ?_) (fun hc232 => ?_)
          · refine g_lload K W at_252 rfl (pc' := 254) rfl ?_
            refine g_lload K W at_254 rfl (pc' := 256) rfl ?_
            refine g_lsub K W at_256 (pc' := 257) rfl ?_
            refine g_lload K W at_257 rfl (pc' := 259) rfl ?_
            refine g_lcmp_lt K W at_259 (pc1 := 260) rfl at_260 (pt := 267) rfl (pf := 263) rfl (fun hc259 => ?_) (fun hc259 => ?_)
            · refine g_iconst K W (v := (0 : Int32)) at_267 rfl (pc' := 268) rfl ?_
              refine g_istore K W at_268 (Ls' := #[.val (.long lx), .second, .val (.int xa), .val (.int xb), .val (.int xc), .val (.int md), .val (.long lm), .second, .val (.int (1 : Int32)), .val (.int gv), .val (.int hv), .val (.long v64), .second, .val (.long v72), .second, .val (.long v81), .second, .val (.long (v64 + (192 : Int64))), .second, .val (.long (v72 + (192 : Int64))), .second, .val (.long (v81 + (192 : Int64))), .second, .val (.ref bu), .val (.long ((0 : Int64) + (v64 + (192 : Int64)))), .second, .val (.long (own_max (0 : Int64) (v64 + (192 : Int64)))), .second, .val (.ref c137), .val (.int (0 : Int32))]) rfl (pc' := 270) rfl ?_
              refine g_aload K W at_270 rfl rfl (pc' := 272) rfl ?_
              refine g_callV (c8 l Z a0 hw n0 _ W.sz bu lm ((0 : Int64) + (v64 + (192 : Int64))) (own_max (0 : Int64) (v64 + (192 : Int64))) ((0 : Int64) + (v64 + (192 : Int64))) X_bu F_bu_limit F_bu_charged F_bu_largestCharge F_bu_taken ge_bu) K W X_bu (hw _ (List.mem_of_getElem? (i := 52) rfl)) (hw _ (List.mem_of_getElem? (i := 53) rfl)) (hw _ (List.mem_of_getElem? (i := 55) rfl)) (hw _ (List.mem_of_getElem? (i := 55) rfl)) (hw _ (List.mem_of_getElem? (i := 54) rfl)) (hw _ (List.mem_of_getElem? (i := 3) rfl)) (hw _ (List.mem_of_getElem? (i := 56) rfl)) (by decide) (lenOf pd_3 rfl) at_272 (pc' := 275) rfl (argsL := []) (rest := []) rfl rfl (by decide) (wt := 0) rfl (by decide) (by decide) (by decide) ?_
              rintro T _ _ W ⟨rfl, rfl⟩
              show Go p e below s n0 (Q_c0 Z n0 h0 lx xa xb xc md) 16 128 T (mkF m 275 #[.val (.long lx), .second, .val (.int xa), .val (.int xb), .val (.int xc), .val (.int md), .val (.long lm), .second, .val (.int (1 : Int32)), .val (.int gv), .val (.int hv), .val (.long v64), .second, .val (.long v72), .second, .val (.long v81), .second, .val (.long (v64 + (192 : Int64))), .second, .val (.long (v72 + (192 : Int64))), .second, .val (.long (v81 + (192 : Int64))), .second, .val (.ref bu), .val (.long ((0 : Int64) + (v64 + (192 : Int64)))), .second, .val (.long (own_max (0 : Int64) (v64 + (192 : Int64)))), .second, .val (.ref c137), .val (.int (0 : Int32))] [(.int (if ((0 : Int64) + (v64 + (192 : Int64))) - (own_max (0 : Int64) (v64 + (192 : Int64))) < lm then (0 : Int32) else 1))])
              refine g_iload K W at_275 rfl (pc' := 277) rfl ?_
              refine g_icmp_ne K W at_277 (pt := 284) rfl (pf := 280) rfl (fun hc277 => ?_) (fun hc277 => absurd (if_pos hc259) hc277)
              refine g_iconst K W (v := (1 : Int32)) at_280 rfl (pc' := 281) rfl ?_
              refine g_goto K W at_281 (pt := 285) rfl ?_
              exact g_retN K W (by simp) at_285 (by decide) (by decide) (v := (1 : Int32)) rfl rfl
            · refine g_iconst K W (v := (1 : Int32)) at_263 rfl (pc' := 264) rfl ?_
              refine g_goto K W at_264 (pt := 268) rfl ?_
              refine g_istore K W at_268 (Ls' := #[.val (.long lx), .second, .val (.int xa), .val (.int xb), .val (.int xc), .val (.int md), .val (.long lm), .second, .val (.int (1 : Int32)), .val (.int gv), .val (.int hv), .val (.long v64), .second, .val (.long v72), .second, .val (.long v81), .second, .val (.long (v64 + (192 : Int64))), .second, .val (.long (v72 + (192 : Int64))), .second, .val (.long (v81 + (192 : Int64))), .second, .val (.ref bu), .val (.long ((0 : Int64) + (v64 + (192 : Int64)))), .second, .val (.long (own_max (0 : Int64) (v64 + (192 : Int64)))), .second, .val (.ref c137), .val (.int (1 : Int32))]) rfl (pc' := 270) rfl ?_
              refine g_aload K W at_270 rfl rfl (pc' := 272) rfl ?_
              refine g_callV (c8 l Z a0 hw n0 _ W.sz bu lm ((0 : Int64) + (v64 + (192 : Int64))) (own_max (0 : Int64) (v64 + (192 : Int64))) ((0 : Int64) + (v64 + (192 : Int64))) X_bu F_bu_limit F_bu_charged F_bu_largestCharge F_bu_taken ge_bu) K W X_bu (hw _ (List.mem_of_getElem? (i := 52) rfl)) (hw _ (List.mem_of_getElem? (i := 53) rfl)) (hw _ (List.mem_of_getElem? (i := 55) rfl)) (hw _ (List.mem_of_getElem? (i := 55) rfl)) (hw _ (List.mem_of_getElem? (i := 54) rfl)) (hw _ (List.mem_of_getElem? (i := 3) rfl)) (hw _ (List.mem_of_getElem? (i := 56) rfl)) (by decide) (lenOf pd_3 rfl) at_272 (pc' := 275) rfl (argsL := []) (rest := []) rfl rfl (by decide) (wt := 0) rfl (by decide) (by decide) (by decide) ?_
              rintro T _ _ W ⟨rfl, rfl⟩
              show Go p e below s n0 (Q_c0 Z n0 h0 lx xa xb xc md) 16 128 T (mkF m 275 #[.val (.long lx), .second, .val (.int xa), .val (.int xb), .val (.int xc), .val (.int md), .val (.long lm), .second, .val (.int (1 : Int32)), .val (.int gv), .val (.int hv), .val (.long v64), .second, .val (.long v72), .second, .val (.long v81), .second, .val (.long (v64 + (192 : Int64))), .second, .val (.long (v72 + (192 : Int64))), .second, .val (.long (v81 + (192 : Int64))), .second, .val (.ref bu), .val (.long ((0 : Int64) + (v64 + (192 : Int64)))), .second, .val (.long (own_max (0 : Int64) (v64 + (192 : Int64)))), .second, .val (.ref c137), .val (.int (1 : Int32))] [(.int (if ((0 : Int64) + (v64 + (192 : Int64))) - (own_max (0 : Int64) (v64 + (192 : Int64))) < lm then (0 : Int32) else 1))])
              refine g_iload K W at_275 rfl (pc' := 277) rfl ?_
              refine g_icmp_ne K W at_277 (pt := 284) rfl (pf := 280) rfl (fun hc277 => ?_) (fun hc277 => absurd (if_neg hc259) hc277)
              refine g_iconst K W (v := (1 : Int32)) at_280 rfl (pc' := 281) rfl ?_
              refine g_goto K W at_281 (pt := 285) rfl ?_
              exact g_retN K W (by simp) at_285 (by decide) (by decide) (v := (1 : Int32)) rfl rfl
          · refine g_aload K W at_235 rfl rfl (pc' := 237) rfl ?_
            refine g_ifnull_f K W at_237 (pf := 240) rfl ?_
            refine g_aload K W at_240 rfl rfl (pc' := 242) rfl ?_
            refine g_callV (c10 l Z a0 hw n0 _ W.sz c137 bu (v64 + (192 : Int64)) (0 : Int32) lm ((0 : Int64) + (v64 + (192 : Int64))) (own_max (0 : Int64) (v64 + (192 : Int64))) ((0 : Int64) + (v64 + (192 : Int64))) X_c137 F_c137_taken F_c137_budget F_c137_octets F_c137_places ge_c137 X_bu F_bu_limit F_bu_charged F_bu_largestCharge F_bu_taken ge_bu ne_c137_bu ne_bu_c137) K W X_c137 (hw _ (List.mem_of_getElem? (i := 67) rfl)) (hw _ (List.mem_of_getElem? (i := 68) rfl)) (hw _ (List.mem_of_getElem? (i := 70) rfl)) (hw _ (List.mem_of_getElem? (i := 70) rfl)) (hw _ (List.mem_of_getElem? (i := 69) rfl)) (hw _ (List.mem_of_getElem? (i := 19) rfl)) (hw _ (List.mem_of_getElem? (i := 71) rfl)) (by decide) (lenOf pd_5 rfl) at_242 (pc' := 245) rfl (argsL := []) (rest := []) rfl rfl (by decide) (wt := 0) rfl (by decide) (by decide) (by decide) ?_
            rintro T h _ W ⟨rfl, kq, F_bu_limit, F_bu_charged, F_bu_largestCharge, F_bu_taken⟩
            show Go p e below s n0 (Q_c0 Z n0 h0 lx xa xb xc md) 16 128 T (mkF m 245 #[.val (.long lx), .second, .val (.int xa), .val (.int xb), .val (.int xc), .val (.int md), .val (.long lm), .second, .val (.int (1 : Int32)), .val (.int gv), .val (.int hv), .val (.long v64), .second, .val (.long v72), .second, .val (.long v81), .second, .val (.long (v64 + (192 : Int64))), .second, .val (.long (v72 + (192 : Int64))), .second, .val (.long (v81 + (192 : Int64))), .second, .val (.ref bu), .val (.long ((0 : Int64) + (v64 + (192 : Int64)))), .second, .val (.long (own_max (0 : Int64) (v64 + (192 : Int64)))), .second, .val (.ref c137), .unset] [])
            have X_bu := X_bu.keep kq
            have X_c137 := X_c137.keep kq
            refine g_lload K W at_245 rfl (pc' := 247) rfl ?_
            refine g_lload K W at_247 rfl (pc' := 249) rfl ?_
            refine g_lsub K W at_249 (pc' := 250) rfl ?_
            refine g_lstore K W at_250 (Ls' := #[.val (.long lx), .second, .val (.int xa), .val (.int xb), .val (.int xc), .val (.int md), .val (.long lm), .second, .val (.int (1 : Int32)), .val (.int gv), .val (.int hv), .val (.long v64), .second, .val (.long v72), .second, .val (.long v81), .second, .val (.long (v64 + (192 : Int64))), .second, .val (.long (v72 + (192 : Int64))), .second, .val (.long (v81 + (192 : Int64))), .second, .val (.ref bu), .val (.long (((0 : Int64) + (v64 + (192 : Int64))) - (v64 + (192 : Int64)))), .second, .val (.long (own_max (0 : Int64) (v64 + (192 : Int64)))), .second, .val (.ref c137), .unset]) rfl (pc' := 252) rfl ?_
            refine g_lload K W at_252 rfl (pc' := 254) rfl ?_
            refine g_lload K W at_254 rfl (pc' := 256) rfl ?_
            refine g_lsub K W at_256 (pc' := 257) rfl ?_
            refine g_lload K W at_257 rfl (pc' := 259) rfl ?_
            refine g_lcmp_lt K W at_259 (pc1 := 260) rfl at_260 (pt := 267) rfl (pf := 263) rfl (fun hc259 => ?_) (fun hc259 => ?_)
            · refine g_iconst K W (v := (0 : Int32)) at_267 rfl (pc' := 268) rfl ?_
              refine g_istore K W at_268 (Ls' := #[.val (.long lx), .second, .val (.int xa), .val (.int xb), .val (.int xc), .val (.int md), .val (.long lm), .second, .val (.int (1 : Int32)), .val (.int gv), .val (.int hv), .val (.long v64), .second, .val (.long v72), .second, .val (.long v81), .second, .val (.long (v64 + (192 : Int64))), .second, .val (.long (v72 + (192 : Int64))), .second, .val (.long (v81 + (192 : Int64))), .second, .val (.ref bu), .val (.long (((0 : Int64) + (v64 + (192 : Int64))) - (v64 + (192 : Int64)))), .second, .val (.long (own_max (0 : Int64) (v64 + (192 : Int64)))), .second, .val (.ref c137), .val (.int (0 : Int32))]) rfl (pc' := 270) rfl ?_
              refine g_aload K W at_270 rfl rfl (pc' := 272) rfl ?_
              refine g_callV (c8 l Z a0 hw n0 _ W.sz bu lm (((0 : Int64) + (v64 + (192 : Int64))) - (v64 + (192 : Int64))) (own_max (0 : Int64) (v64 + (192 : Int64))) (((0 : Int64) + (v64 + (192 : Int64))) - (v64 + (192 : Int64))) X_bu F_bu_limit F_bu_charged F_bu_largestCharge F_bu_taken ge_bu) K W X_bu (hw _ (List.mem_of_getElem? (i := 52) rfl)) (hw _ (List.mem_of_getElem? (i := 53) rfl)) (hw _ (List.mem_of_getElem? (i := 55) rfl)) (hw _ (List.mem_of_getElem? (i := 55) rfl)) (hw _ (List.mem_of_getElem? (i := 54) rfl)) (hw _ (List.mem_of_getElem? (i := 3) rfl)) (hw _ (List.mem_of_getElem? (i := 56) rfl)) (by decide) (lenOf pd_3 rfl) at_272 (pc' := 275) rfl (argsL := []) (rest := []) rfl rfl (by decide) (wt := 0) rfl (by decide) (by decide) (by decide) ?_
              rintro T _ _ W ⟨rfl, rfl⟩
              show Go p e below s n0 (Q_c0 Z n0 h0 lx xa xb xc md) 16 128 T (mkF m 275 #[.val (.long lx), .second, .val (.int xa), .val (.int xb), .val (.int xc), .val (.int md), .val (.long lm), .second, .val (.int (1 : Int32)), .val (.int gv), .val (.int hv), .val (.long v64), .second, .val (.long v72), .second, .val (.long v81), .second, .val (.long (v64 + (192 : Int64))), .second, .val (.long (v72 + (192 : Int64))), .second, .val (.long (v81 + (192 : Int64))), .second, .val (.ref bu), .val (.long (((0 : Int64) + (v64 + (192 : Int64))) - (v64 + (192 : Int64)))), .second, .val (.long (own_max (0 : Int64) (v64 + (192 : Int64)))), .second, .val (.ref c137), .val (.int (0 : Int32))] [(.int (if (((0 : Int64) + (v64 + (192 : Int64))) - (v64 + (192 : Int64))) - (own_max (0 : Int64) (v64 + (192 : Int64))) < lm then (0 : Int32) else 1))])
              refine g_iload K W at_275 rfl (pc' := 277) rfl ?_
              refine g_icmp_ne K W at_277 (pt := 284) rfl (pf := 280) rfl (fun hc277 => ?_) (fun hc277 => absurd (if_pos hc259) hc277)
              refine g_iconst K W (v := (1 : Int32)) at_280 rfl (pc' := 281) rfl ?_
              refine g_goto K W at_281 (pt := 285) rfl ?_
              exact g_retN K W (by simp) at_285 (by decide) (by decide) (v := (1 : Int32)) rfl rfl
            · refine g_iconst K W (v := (1 : Int32)) at_263 rfl (pc' := 264) rfl ?_
              refine g_goto K W at_264 (pt := 268) rfl ?_
              refine g_istore K W at_268 (Ls' := #[.val (.long lx), .second, .val (.int xa), .val (.int xb), .val (.int xc), .val (.int md), .val (.long lm), .second, .val (.int (1 : Int32)), .val (.int gv), .val (.int hv), .val (.long v64), .second, .val (.long v72), .second, .val (.long v81), .second, .val (.long (v64 + (192 : Int64))), .second, .val (.long (v72 + (192 : Int64))), .second, .val (.long (v81 + (192 : Int64))), .second, .val (.ref bu), .val (.long (((0 : Int64) + (v64 + (192 : Int64))) - (v64 + (192 : Int64)))), .second, .val (.long (own_max (0 : Int64) (v64 + (192 : Int64)))), .second, .val (.ref c137), .val (.int (1 : Int32))]) rfl (pc' := 270) rfl ?_
              refine g_aload K W at_270 rfl rfl (pc' := 272) rfl ?_
              refine g_callV (c8 l Z a0 hw n0 _ W.sz bu lm (((0 : Int64) + (v64 + (192 : Int64))) - (v64 + (192 : Int64))) (own_max (0 : Int64) (v64 + (192 : Int64))) (((0 : Int64) + (v64 + (192 : Int64))) - (v64 + (192 : Int64))) X_bu F_bu_limit F_bu_charged F_bu_largestCharge F_bu_taken ge_bu) K W X_bu (hw _ (List.mem_of_getElem? (i := 52) rfl)) (hw _ (List.mem_of_getElem? (i := 53) rfl)) (hw _ (List.mem_of_getElem? (i := 55) rfl)) (hw _ (List.mem_of_getElem? (i := 55) rfl)) (hw _ (List.mem_of_getElem? (i := 54) rfl)) (hw _ (List.mem_of_getElem? (i := 3) rfl)) (hw _ (List.mem_of_getElem? (i := 56) rfl)) (by decide) (lenOf pd_3 rfl) at_272 (pc' := 275) rfl (argsL := []) (rest := []) rfl rfl (by decide) (wt := 0) rfl (by decide) (by decide) (by decide) ?_
              rintro T _ _ W ⟨rfl, rfl⟩
              show Go p e below s n0 (Q_c0 Z n0 h0 lx xa xb xc md) 16 128 T (mkF m 275 #[.val (.long lx), .second, .val (.int xa), .val (.int xb), .val (.int xc), .val (.int md), .val (.long lm), .second, .val (.int (1 : Int32)), .val (.int gv), .val (.int hv), .val (.long v64), .second, .val (.long v72), .second, .val (.long v81), .second, .val (.long (v64 + (192 : Int64))), .second, .val (.long (v72 + (192 : Int64))), .second, .val (.long (v81 + (192 : Int64))), .second, .val (.ref bu), .val (.long (((0 : Int64) + (v64 + (192 : Int64))) - (v64 + (192 : Int64)))), .second, .val (.long (own_max (0 : Int64) (v64 + (192 : Int64)))), .second, .val (.ref c137), .val (.int (1 : Int32))] [(.int (if (((0 : Int64) + (v64 + (192 : Int64))) - (v64 + (192 : Int64))) - (own_max (0 : Int64) (v64 + (192 : Int64))) < lm then (0 : Int32) else 1))])
              refine g_iload K W at_275 rfl (pc' := 277) rfl ?_
              refine g_icmp_ne K W at_277 (pt := 284) rfl (pf := 280) rfl (fun hc277 => ?_) (fun hc277 => absurd (if_neg hc259) hc277)
              refine g_iconst K W (v := (1 : Int32)) at_280 rfl (pc' := 281) rfl ?_
              refine g_goto K W at_281 (pt := 285) rfl ?_
              exact g_retN K W (by simp) at_285 (by decide) (by decide) (v := (1 : Int32)) rfl rfl
        · refine g_iload K W at_127 rfl (pc' := 129) rfl ?_
          refine g_iconst K W (v := (1 : Int32)) at_129 rfl (pc' := 130) rfl ?_
          refine g_icmp_lt K W at_130 (pt := 158) rfl (pf := 133) rfl (fun hc130 => absurd hc130 (by decide)) (fun hc130 => ?_)
          refine g_aload K W at_133 rfl rfl (pc' := 135) rfl ?_
          refine g_lload K W at_135 rfl (pc' := 137) rfl ?_
          have lt_bu := X_bu.lt
          refine g_callV (c3 l Z a0 hw n0 _ W.sz bu v64 lm (0 : Int64) (0 : Int64) (0 : Int64) X_bu F_bu_limit F_bu_charged F_bu_largestCharge F_bu_taken ge_bu) K W X_bu (hw _ (List.mem_of_getElem? (i := 12) rfl)) (hw _ (List.mem_of_getElem? (i := 13) rfl)) (hw _ (List.mem_of_getElem? (i := 15) rfl)) (hw _ (List.mem_of_getElem? (i := 15) rfl)) (hw _ (List.mem_of_getElem? (i := 14) rfl)) (hw _ (List.mem_of_getElem? (i := 3) rfl)) (hw _ (List.mem_of_getElem? (i := 16) rfl)) (by decide) (lenOf pd_4 rfl) at_137 (pc' := 140) rfl (argsL := [(.long v64)]) (rest := []) rfl rfl (by decide) (wt := 0) rfl (by decide) (by decide) (by decide) ?_
          rintro T h _ W ⟨c137, rfl, ge_c137, sz_c137, kq, X_c137, F_c137_taken, F_c137_budget, F_c137_octets, F_c137_places, F_bu_limit, F_bu_charged, F_bu_largestCharge, F_bu_taken⟩
          show Go p e below s n0 (Q_c0 Z n0 h0 lx xa xb xc md) 16 128 T (mkF m 140 #[.val (.long lx), .second, .val (.int xa), .val (.int xb), .val (.int xc), .val (.int md), .val (.long lm), .second, .val (.int (2 : Int32)), .val (.int gv), .val (.int hv), .val (.long v64), .second, .val (.long v72), .second, .val (.long v81), .second, .val (.long (v64 + (192 : Int64))), .second, .val (.long (v72 + (192 : Int64))), .second, .val (.long (v81 + (192 : Int64))), .second, .val (.ref bu), .val (.long (0 : Int64)), .second, .val (.long (0 : Int64)), .second, .val .null, .unset] [(.ref c137)])
          have X_bu := X_bu.keep kq
          have ne_bu_c137 : bu ≠ c137 := Nat.ne_of_lt (Nat.lt_of_lt_of_le lt_bu sz_c137)
          have ne_c137_bu := Ne.symm ne_bu_c137
          refine g_astore K W at_140 rfl (Ls' := #[.val (.long lx), .second, .val (.int xa), .val (.int xb), .val (.int xc), .val (.int md), .val (.long lm), .second, .val (.int (2 : Int32)), .val (.int gv), .val (.int hv), .val (.long v64), .second, .val (.long v72), .second, .val (.long v81), .second, .val (.long (v64 + (192 : Int64))), .second, .val (.long (v72 + (192 : Int64))), .second, .val (.long (v81 + (192 : Int64))), .second, .val (.ref bu), .val (.long (0 : Int64)), .second, .val (.long (0 : Int64)), .second, .val (.ref c137), .unset]) rfl (pc' := 142) rfl ?_
          refine g_lload K W at_142 rfl (pc' := 144) rfl ?_
          refine g_lload K W at_144 rfl (pc' := 146) rfl ?_
          refine g_ladd K W at_146 (pc' := 147) rfl ?_
          refine g_lstore K W at_147 (Ls' := #[.val (.long lx), .second, .val (.int xa), .val (.int xb), .val (.int xc), .val (.int md), .val (.long lm), .second, .val (.int (2 : Int32)), .val (.int gv), .val (.int hv), .val (.long v64), .second, .val (.long v72), .second, .val (.long v81), .second, .val (.long (v64 + (192 : Int64))), .second, .val (.long (v72 + (192 : Int64))), .second, .val (.long (v81 + (192 : Int64))), .second, .val (.ref bu), .val (.long ((0 : Int64) + (v64 + (192 : Int64)))), .second, .val (.long (0 : Int64)), .second, .val (.ref c137), .unset]) rfl (pc' := 149) rfl ?_
          refine g_lload K W at_149 rfl (pc' := 151) rfl ?_
          refine g_lload K W at_151 rfl (pc' := 153) rfl ?_
          refine g_callS (c5 l Z a0 hw n0 _ W.sz (0 : Int64) (v64 + (192 : Int64))) K W (hw _ (List.mem_of_getElem? (i := 51) rfl)) (hw _ (List.mem_of_getElem? (i := 35) rfl)) (hw _ (List.mem_of_getElem? (i := 36) rfl)) (hw _ (List.mem_of_getElem? (i := 37) rfl)) (by decide) (lenOf pd_2 rfl) at_153 (pc' := 156) rfl (argsL := [(.long (0 : Int64)), (.long (v64 + (192 : Int64)))]) (rest := []) rfl rfl (by decide) (wt := 0) rfl (by decide) (by decide) (by decide) ?_
          rintro T _ _ W ⟨rfl, rfl⟩
          show Go p e below s n0 (Q_c0 Z n0 h0 lx xa xb xc md) 16 128 T (mkF m 156 #[.val (.long lx), .second, .val (.int xa), .val (.int xb), .val (.int xc), .val (.int md), .val (.long lm), .second, .val (.int (2 : Int32)), .val (.int gv), .val (.int hv), .val (.long v64), .second, .val (.long v72), .second, .val (.long v81), .second, .val (.long (v64 + (192 : Int64))), .second, .val (.long (v72 + (192 : Int64))), .second, .val (.long (v81 + (192 : Int64))), .second, .val (.ref bu), .val (.long ((0 : Int64) + (v64 + (192 : Int64)))), .second, .val (.long (0 : Int64)), .second, .val (.ref c137), .unset] [(.long (own_max (0 : Int64) (v64 + (192 : Int64))))])
          refine g_lstore K W at_156 (Ls' := #[.val (.long lx), .second, .val (.int xa), .val (.int xb), .val (.int xc), .val (.int md), .val (.long lm), .second, .val (.int (2 : Int32)), .val (.int gv), .val (.int hv), .val (.long v64), .second, .val (.long v72), .second, .val (.long v81), .second, .val (.long (v64 + (192 : Int64))), .second, .val (.long (v72 + (192 : Int64))), .second, .val (.long (v81 + (192 : Int64))), .second, .val (.ref bu), .val (.long ((0 : Int64) + (v64 + (192 : Int64)))), .second, .val (.long (own_max (0 : Int64) (v64 + (192 : Int64)))), .second, .val (.ref c137), .unset]) rfl (pc' := 158) rfl ?_
          refine g_iload K W at_158 rfl (pc' := 160) rfl ?_
          refine g_iconst K W (v := (2 : Int32)) at_160 rfl (pc' := 161) rfl ?_
          refine g_icmp_lt K W at_161 (pt := 200) rfl (pf := 164) rfl (fun hc161 => absurd hc161 (by decide)) (fun hc161 => ?_)
          refine g_aload K W at_164 rfl rfl (pc' := 166) rfl ?_
          refine g_lload K W at_166 rfl (pc' := 168) rfl ?_
          have lt_bu := X_bu.lt
          have lt_c137 := X_c137.lt
          refine g_callV (c3 l Z a0 hw n0 _ W.sz bu v72 lm ((0 : Int64) + (v64 + (192 : Int64))) (own_max (0 : Int64) (v64 + (192 : Int64))) ((0 : Int64) + (v64 + (192 : Int64))) X_bu F_bu_limit F_bu_charged F_bu_largestCharge F_bu_taken ge_bu) K W X_bu (hw _ (List.mem_of_getElem? (i := 12) rfl)) (hw _ (List.mem_of_getElem? (i := 13) rfl)) (hw _ (List.mem_of_getElem? (i := 15) rfl)) (hw _ (List.mem_of_getElem? (i := 15) rfl)) (hw _ (List.mem_of_getElem? (i := 14) rfl)) (hw _ (List.mem_of_getElem? (i := 3) rfl)) (hw _ (List.mem_of_getElem? (i := 16) rfl)) (by decide) (lenOf pd_4 rfl) at_168 (pc' := 171) rfl (argsL := [(.long v72)]) (rest := []) rfl rfl (by decide) (wt := 0) rfl (by decide) (by decide) (by decide) ?_
          rintro T h _ W ⟨c168, rfl, ge_c168, sz_c168, kq, X_c168, F_c168_taken, F_c168_budget, F_c168_octets, F_c168_places, F_bu_limit, F_bu_charged, F_bu_largestCharge, F_bu_taken⟩
          show Go p e below s n0 (Q_c0 Z n0 h0 lx xa xb xc md) 16 128 T (mkF m 171 #[.val (.long lx), .second, .val (.int xa), .val (.int xb), .val (.int xc), .val (.int md), .val (.long lm), .second, .val (.int (2 : Int32)), .val (.int gv), .val (.int hv), .val (.long v64), .second, .val (.long v72), .second, .val (.long v81), .second, .val (.long (v64 + (192 : Int64))), .second, .val (.long (v72 + (192 : Int64))), .second, .val (.long (v81 + (192 : Int64))), .second, .val (.ref bu), .val (.long ((0 : Int64) + (v64 + (192 : Int64)))), .second, .val (.long (own_max (0 : Int64) (v64 + (192 : Int64)))), .second, .val (.ref c137), .unset] [(.ref c168)])
          have X_bu := X_bu.keep kq
          have X_c137 := X_c137.keep kq
          have F_c137_taken := F_c137_taken.keep kq (ninS ne_c137_bu nin0)
          have F_c137_budget := F_c137_budget.keep kq (ninS ne_c137_bu nin0)
          have F_c137_octets := F_c137_octets.keep kq (ninS ne_c137_bu nin0)
          have F_c137_places := F_c137_places.keep kq (ninS ne_c137_bu nin0)
          have ne_bu_c168 : bu ≠ c168 := Nat.ne_of_lt (Nat.lt_of_lt_of_le lt_bu sz_c168)
          have ne_c168_bu := Ne.symm ne_bu_c168
          have ne_c137_c168 : c137 ≠ c168 := Nat.ne_of_lt (Nat.lt_of_lt_of_le lt_c137 sz_c168)
          have ne_c168_c137 := Ne.symm ne_c137_c168
          refine g_astore K W at_171 rfl (Ls' := #[.val (.long lx), .second, .val (.int xa), .val (.int xb), .val (.int xc), .val (.int md), .val (.long lm), .second, .val (.int (2 : Int32)), .val (.int gv), .val (.int hv), .val (.long v64), .second, .val (.long v72), .second, .val (.long v81), .second, .val (.long (v64 + (192 : Int64))), .second, .val (.long (v72 + (192 : Int64))), .second, .val (.long (v81 + (192 : Int64))), .second, .val (.ref bu), .val (.long ((0 : Int64) + (v64 + (192 : Int64)))), .second, .val (.long (own_max (0 : Int64) (v64 + (192 : Int64)))), .second, .val (.ref c137), .val (.ref c168)]) rfl (pc' := 173) rfl ?_
          refine g_lload K W at_173 rfl (pc' := 175) rfl ?_
          refine g_lload K W at_175 rfl (pc' := 177) rfl ?_
          refine g_ladd K W at_177 (pc' := 178) rfl ?_
          refine g_lstore K W at_178 (Ls' := #[.val (.long lx), .second, .val (.int xa), .val (.int xb), .val (.int xc), .val (.int md), .val (.long lm), .second, .val (.int (2 : Int32)), .val (.int gv), .val (.int hv), .val (.long v64), .second, .val (.long v72), .second, .val (.long v81), .second, .val (.long (v64 + (192 : Int64))), .second, .val (.long (v72 + (192 : Int64))), .second, .val (.long (v81 + (192 : Int64))), .second, .val (.ref bu), .val (.long (((0 : Int64) + (v64 + (192 : Int64))) + (v72 + (192 : Int64)))), .second, .val (.long (own_max (0 : Int64) (v64 + (192 : Int64)))), .second, .val (.ref c137), .val (.ref c168)]) rfl (pc' := 180) rfl ?_
          refine g_lload K W at_180 rfl (pc' := 182) rfl ?_
          refine g_lload K W at_182 rfl (pc' := 184) rfl ?_
          refine g_callS (c5 l Z a0 hw n0 _ W.sz (own_max (0 : Int64) (v64 + (192 : Int64))) (v72 + (192 : Int64))) K W (hw _ (List.mem_of_getElem? (i := 51) rfl)) (hw _ (List.mem_of_getElem? (i := 35) rfl)) (hw _ (List.mem_of_getElem? (i := 36) rfl)) (hw _ (List.mem_of_getElem? (i := 37) rfl)) (by decide) (lenOf pd_2 rfl) at_184 (pc' := 187) rfl (argsL := [(.long (own_max (0 : Int64) (v64 + (192 : Int64)))), (.long (v72 + (192 : Int64)))]) (rest := []) rfl rfl (by decide) (wt := 0) rfl (by decide) (by decide) (by decide) ?_
          rintro T _ _ W ⟨rfl, rfl⟩
          show Go p e below s n0 (Q_c0 Z n0 h0 lx xa xb xc md) 16 128 T (mkF m 187 #[.val (.long lx), .second, .val (.int xa), .val (.int xb), .val (.int xc), .val (.int md), .val (.long lm), .second, .val (.int (2 : Int32)), .val (.int gv), .val (.int hv), .val (.long v64), .second, .val (.long v72), .second, .val (.long v81), .second, .val (.long (v64 + (192 : Int64))), .second, .val (.long (v72 + (192 : Int64))), .second, .val (.long (v81 + (192 : Int64))), .second, .val (.ref bu), .val (.long (((0 : Int64) + (v64 + (192 : Int64))) + (v72 + (192 : Int64)))), .second, .val (.long (own_max (0 : Int64) (v64 + (192 : Int64)))), .second, .val (.ref c137), .val (.ref c168)] [(.long (own_max (own_max (0 : Int64) (v64 + (192 : Int64))) (v72 + (192 : Int64))))])
          refine g_lstore K W at_187 (Ls' := #[.val (.long lx), .second, .val (.int xa), .val (.int xb), .val (.int xc), .val (.int md), .val (.long lm), .second, .val (.int (2 : Int32)), .val (.int gv), .val (.int hv), .val (.long v64), .second, .val (.long v72), .second, .val (.long v81), .second, .val (.long (v64 + (192 : Int64))), .second, .val (.long (v72 + (192 : Int64))), .second, .val (.long (v81 + (192 : Int64))), .second, .val (.ref bu), .val (.long (((0 : Int64) + (v64 + (192 : Int64))) + (v72 + (192 : Int64)))), .second, .val (.long (own_max (own_max (0 : Int64) (v64 + (192 : Int64))) (v72 + (192 : Int64)))), .second, .val (.ref c137), .val (.ref c168)]) rfl (pc' := 189) rfl ?_
          refine g_iload K W at_189 rfl (pc' := 191) rfl ?_
          refine g_if_eq K W at_191 (pt := 200) rfl (pf := 194) rfl (fun hc191 => ?_) (fun hc191 => ?_)
          · refine g_iload K W at_200 rfl (pc' := 202) rfl ?_
            refine g_iconst K W (v := (3 : Int32)) at_202 rfl (pc' := 203) rfl ?_
            refine g_icmp_lt K W at_203 (pt := 230) rfl (pf := 206) rfl (fun hc203 => ?_) (fun hc203 => absurd (by decide) hc203)
            refine g_iload K W at_230 rfl (pc' := 232) rfl ?_
            refine g_if_eq K W at_232 (pt := 252) rfl (pf := 235) rfl (fun hc232 => ?_) (fun hc232 => ?_)
            · refine g_lload K W at_252 rfl (pc' := 254) rfl ?_
              refine g_lload K W at_254 rfl (pc' := 256) rfl ?_
              refine g_lsub K W at_256 (pc' := 257) rfl ?_
              refine g_lload K W at_257 rfl (pc' := 259) rfl ?_
              refine g_lcmp_lt K W at_259 (pc1 := 260) rfl at_260 (pt := 267) rfl (pf := 263) rfl (fun hc259 => ?_) (fun hc259 => ?_)
              · refine g_iconst K W (v := (0 : Int32)) at_267 rfl (pc' := 268) rfl ?_
                refine g_istore K W at_268 (Ls' := #[.val (.long lx), .second, .val (.int xa), .val (.int xb), .val (.int xc), .val (.int md), .val (.long lm), .second, .val (.int (2 : Int32)), .val (.int gv), .val (.int hv), .val (.long v64), .second, .val (.long v72), .second, .val (.long v81), .second, .val (.long (v64 + (192 : Int64))), .second, .val (.long (v72 + (192 : Int64))), .second, .val (.long (v81 + (192 : Int64))), .second, .val (.ref bu), .val (.long (((0 : Int64) + (v64 + (192 : Int64))) + (v72 + (192 : Int64)))), .second, .val (.long (own_max (own_max (0 : Int64) (v64 + (192 : Int64))) (v72 + (192 : Int64)))), .second, .val (.ref c137), .val (.int (0 : Int32))]) rfl (pc' := 270) rfl ?_
                refine g_aload K W at_270 rfl rfl (pc' := 272) rfl ?_
                refine g_callV (c8 l Z a0 hw n0 _ W.sz bu lm (((0 : Int64) + (v64 + (192 : Int64))) + (v72 + (192 : Int64))) (own_max (own_max (0 : Int64) (v64 + (192 : Int64))) (v72 + (192 : Int64))) (((0 : Int64) + (v64 + (192 : Int64))) + (v72 + (192 : Int64))) X_bu F_bu_limit F_bu_charged F_bu_largestCharge F_bu_taken ge_bu) K W X_bu (hw _ (List.mem_of_getElem? (i := 52) rfl)) (hw _ (List.mem_of_getElem? (i := 53) rfl)) (hw _ (List.mem_of_getElem? (i := 55) rfl)) (hw _ (List.mem_of_getElem? (i := 55) rfl)) (hw _ (List.mem_of_getElem? (i := 54) rfl)) (hw _ (List.mem_of_getElem? (i := 3) rfl)) (hw _ (List.mem_of_getElem? (i := 56) rfl)) (by decide) (lenOf pd_3 rfl) at_272 (pc' := 275) rfl (argsL := []) (rest := []) rfl rfl (by decide) (wt := 0) rfl (by decide) (by decide) (by decide) ?_
                rintro T _ _ W ⟨rfl, rfl⟩
                show Go p e below s n0 (Q_c0 Z n0 h0 lx xa xb xc md) 16 128 T (mkF m 275 #[.val (.long lx), .second, .val (.int xa), .val (.int xb), .val (.int xc), .val (.int md), .val (.long lm), .second, .val (.int (2 : Int32)), .val (.int gv), .val (.int hv), .val (.long v64), .second, .val (.long v72), .second, .val (.long v81), .second, .val (.long (v64 + (192 : Int64))), .second, .val (.long (v72 + (192 : Int64))), .second, .val (.long (v81 + (192 : Int64))), .second, .val (.ref bu), .val (.long (((0 : Int64) + (v64 + (192 : Int64))) + (v72 + (192 : Int64)))), .second, .val (.long (own_max (own_max (0 : Int64) (v64 + (192 : Int64))) (v72 + (192 : Int64)))), .second, .val (.ref c137), .val (.int (0 : Int32))] [(.int (if (((0 : Int64) + (v64 + (192 : Int64))) + (v72 + (192 : Int64))) - (own_max (own_max (0 : Int64) (v64 + (192 : Int64))) (v72 + (192 : Int64))) < lm then (0 : Int32) else 1))])
                refine g_iload K W at_275 rfl (pc' := 277) rfl ?_
                refine g_icmp_ne K W at_277 (pt := 284) rfl (pf := 280) rfl (fun hc277 => ?_) (fun hc277 => absurd (if_pos hc259) hc277)
                refine g_iconst K W (v := (1 : Int32)) at_280 rfl (pc' := 281) rfl ?_
                refine g_goto K W at_281 (pt := 285) rfl ?_
                exact g_retN K W (by simp) at_285 (by decide) (by decide) (v := (1 : Int32)) rfl rfl
              · refine g_iconst K W (v := (1 : Int32)) at_263 rfl (pc' := 264) rfl ?_
                refine g_goto K W at_264 (pt := 268) rfl ?_
                refine g_istore K W at_268 (Ls' := #[.val (.long lx), .second, .val (.int xa), .val (.int xb), .val (.int xc), .val (.int md), .val (.long lm), .second, .val (.int (2 : Int32)), .val (.int gv), .val (.int hv), .val (.long v64), .second, .val (.long v72), .second, .val (.long v81), .second, .val (.long (v64 + (192 : Int64))), .second, .val (.long (v72 + (192 : Int64))), .second, .val (.long (v81 + (192 : Int64))), .second, .val (.ref bu), .val (.long (((0 : Int64) + (v64 + (192 : Int64))) + (v72 + (192 : Int64)))), .second, .val (.long (own_max (own_max (0 : Int64) (v64 + (192 : Int64))) (v72 + (192 : Int64)))), .second, .val (.ref c137), .val (.int (1 : Int32))]) rfl (pc' := 270) rfl ?_
                refine g_aload K W at_270 rfl rfl (pc' := 272) rfl ?_
                refine g_callV (c8 l Z a0 hw n0 _ W.sz bu lm (((0 : Int64) + (v64 + (192 : Int64))) + (v72 + (192 : Int64))) (own_max (own_max (0 : Int64) (v64 + (192 : Int64))) (v72 + (192 : Int64))) (((0 : Int64) + (v64 + (192 : Int64))) + (v72 + (192 : Int64))) X_bu F_bu_limit F_bu_charged F_bu_largestCharge F_bu_taken ge_bu) K W X_bu (hw _ (List.mem_of_getElem? (i := 52) rfl)) (hw _ (List.mem_of_getElem? (i := 53) rfl)) (hw _ (List.mem_of_getElem? (i := 55) rfl)) (hw _ (List.mem_of_getElem? (i := 55) rfl)) (hw _ (List.mem_of_getElem? (i := 54) rfl)) (hw _ (List.mem_of_getElem? (i := 3) rfl)) (hw _ (List.mem_of_getElem? (i := 56) rfl)) (by decide) (lenOf pd_3 rfl) at_272 (pc' := 275) rfl (argsL := []) (rest := []) rfl rfl (by decide) (wt := 0) rfl (by decide) (by decide) (by decide) ?_
                rintro T _ _ W ⟨rfl, rfl⟩
                show Go p e below s n0 (Q_c0 Z n0 h0 lx xa xb xc md) 16 128 T (mkF m 275 #[.val (.long lx), .second, .val (.int xa), .val (.int xb), .val (.int xc), .val (.int md), .val (.long lm), .second, .val (.int (2 : Int32)), .val (.int gv), .val (.int hv), .val (.long v64), .second, .val (.long v72), .second, .val (.long v81), .second, .val (.long (v64 + (192 : Int64))), .second, .val (.long (v72 + (192 : Int64))), .second, .val (.long (v81 + (192 : Int64))), .second, .val (.ref bu), .val (.long (((0 : Int64) + (v64 + (192 : Int64))) + (v72 + (192 : Int64)))), .second, .val (.long (own_max (own_max (0 : Int64) (v64 + (192 : Int64))) (v72 + (192 : Int64)))), .second, .val (.ref c137), .val (.int (1 : Int32))] [(.int (if (((0 : Int64) + (v64 + (192 : Int64))) + (v72 + (192 : Int64))) - (own_max (own_max (0 : Int64) (v64 + (192 : Int64))) (v72 + (192 : Int64))) < lm then (0 : Int32) else 1))])
                refine g_iload K W at_275 rfl (pc' := 277) rfl ?_
                refine g_icmp_ne K W at_277 (pt := 284) rfl (pf := 280) rfl (fun hc277 => ?_) (fun hc277 => absurd (if_neg hc259) hc277)
                refine g_iconst K W (v := (1 : Int32)) at_280 rfl (pc' := 281) rfl ?_
                refine g_goto K W at_281 (pt := 285) rfl ?_
                exact g_retN K W (by simp) at_285 (by decide) (by decide) (v := (1 : Int32)) rfl rfl
            · refine g_aload K W at_235 rfl rfl (pc' := 237) rfl ?_
              refine g_ifnull_f K W at_237 (pf := 240) rfl ?_
              refine g_aload K W at_240 rfl rfl (pc' := 242) rfl ?_
              refine g_callV (c10 l Z a0 hw n0 _ W.sz c137 bu (v64 + (192 : Int64)) (0 : Int32) lm (((0 : Int64) + (v64 + (192 : Int64))) + (v72 + (192 : Int64))) (own_max (own_max (0 : Int64) (v64 + (192 : Int64))) (v72 + (192 : Int64))) (((0 : Int64) + (v64 + (192 : Int64))) + (v72 + (192 : Int64))) X_c137 F_c137_taken F_c137_budget F_c137_octets F_c137_places ge_c137 X_bu F_bu_limit F_bu_charged F_bu_largestCharge F_bu_taken ge_bu ne_c137_bu ne_bu_c137) K W X_c137 (hw _ (List.mem_of_getElem? (i := 67) rfl)) (hw _ (List.mem_of_getElem? (i := 68) rfl)) (hw _ (List.mem_of_getElem? (i := 70) rfl)) (hw _ (List.mem_of_getElem? (i := 70) rfl)) (hw _ (List.mem_of_getElem? (i := 69) rfl)) (hw _ (List.mem_of_getElem? (i := 19) rfl)) (hw _ (List.mem_of_getElem? (i := 71) rfl)) (by decide) (lenOf pd_5 rfl) at_242 (pc' := 245) rfl (argsL := []) (rest := []) rfl rfl (by decide) (wt := 0) rfl (by decide) (by decide) (by decide) ?_
              rintro T h _ W ⟨rfl, kq, F_bu_limit, F_bu_charged, F_bu_largestCharge, F_bu_taken⟩
              show Go p e below s n0 (Q_c0 Z n0 h0 lx xa xb xc md) 16 128 T (mkF m 245 #[.val (.long lx), .second, .val (.int xa), .val (.int xb), .val (.int xc), .val (.int md), .val (.long lm), .second, .val (.int (2 : Int32)), .val (.int gv), .val (.int hv), .val (.long v64), .second, .val (.long v72), .second, .val (.long v81), .second, .val (.long (v64 + (192 : Int64))), .second, .val (.long (v72 + (192 : Int64))), .second, .val (.long (v81 + (192 : Int64))), .second, .val (.ref bu), .val (.long (((0 : Int64) + (v64 + (192 : Int64))) + (v72 + (192 : Int64)))), .second, .val (.long (own_max (own_max (0 : Int64) (v64 + (192 : Int64))) (v72 + (192 : Int64)))), .second, .val (.ref c137), .val (.ref c168)] [])
              have X_bu := X_bu.keep kq
              have X_c137 := X_c137.keep kq
              have X_c168 := X_c168.keep kq
              have F_c168_taken := F_c168_taken.keep kq (ninS ne_c168_c137 (ninS ne_c168_bu nin0))
              have F_c168_budget := F_c168_budget.keep kq (ninS ne_c168_c137 (ninS ne_c168_bu nin0))
              have F_c168_octets := F_c168_octets.keep kq (ninS ne_c168_c137 (ninS ne_c168_bu nin0))
              have F_c168_places := F_c168_places.keep kq (ninS ne_c168_c137 (ninS ne_c168_bu nin0))
              refine g_lload K W at_245 rfl (pc' := 247) rfl ?_
              refine g_lload K W at_247 rfl (pc' := 249) rfl ?_
              refine g_lsub K W at_249 (pc' := 250) rfl ?_
              refine g_lstore K W at_250 (Ls' := #[.val (.long lx), .second, .val (.int xa), .val (.int xb), .val (.int xc), .val (.int md), .val (.long lm), .second, .val (.int (2 : Int32)), .val (.int gv), .val (.int hv), .val (.long v64), .second, .val (.long v72), .second, .val (.long v81), .second, .val (.long (v64 + (192 : Int64))), .second, .val (.long (v72 + (192 : Int64))), .second, .val (.long (v81 + (192 : Int64))), .second, .val (.ref bu), .val (.long ((((0 : Int64) + (v64 + (192 : Int64))) + (v72 + (192 : Int64))) - (v64 + (192 : Int64)))), .second, .val (.long (own_max (own_max (0 : Int64) (v64 + (192 : Int64))) (v72 + (192 : Int64)))), .second, .val (.ref c137), .val (.ref c168)]) rfl (pc' := 252) rfl ?_
              refine g_lload K W at_252 rfl (pc' := 254) rfl ?_
              refine g_lload K W at_254 rfl (pc' := 256) rfl ?_
              refine g_lsub K W at_256 (pc' := 257) rfl ?_
              refine g_lload K W at_257 rfl (pc' := 259) rfl ?_
              refine g_lcmp_lt K W at_259 (pc1 := 260) rfl at_260 (pt := 267) rfl (pf := 263) rfl (fun hc259 => ?_) (fun hc259 => ?_)
              · refine g_iconst K W (v := (0 : Int32)) at_267 rfl (pc' := 268) rfl ?_
                refine g_istore K W at_268 (Ls' := #[.val (.long lx), .second, .val (.int xa), .val (.int xb), .val (.int xc), .val (.int md), .val (.long lm), .second, .val (.int (2 : Int32)), .val (.int gv), .val (.int hv), .val (.long v64), .second, .val (.long v72), .second, .val (.long v81), .second, .val (.long (v64 + (192 : Int64))), .second, .val (.long (v72 + (192 : Int64))), .second, .val (.long (v81 + (192 : Int64))), .second, .val (.ref bu), .val (.long ((((0 : Int64) + (v64 + (192 : Int64))) + (v72 + (192 : Int64))) - (v64 + (192 : Int64)))), .second, .val (.long (own_max (own_max (0 : Int64) (v64 + (192 : Int64))) (v72 + (192 : Int64)))), .second, .val (.ref c137), .val (.int (0 : Int32))]) rfl (pc' := 270) rfl ?_
                refine g_aload K W at_270 rfl rfl (pc' := 272) rfl ?_
                refine g_callV (c8 l Z a0 hw n0 _ W.sz bu lm ((((0 : Int64) + (v64 + (192 : Int64))) + (v72 + (192 : Int64))) - (v64 + (192 : Int64))) (own_max (own_max (0 : Int64) (v64 + (192 : Int64))) (v72 + (192 : Int64))) ((((0 : Int64) + (v64 + (192 : Int64))) + (v72 + (192 : Int64))) - (v64 + (192 : Int64))) X_bu F_bu_limit F_bu_charged F_bu_largestCharge F_bu_taken ge_bu) K W X_bu (hw _ (List.mem_of_getElem? (i := 52) rfl)) (hw _ (List.mem_of_getElem? (i := 53) rfl)) (hw _ (List.mem_of_getElem? (i := 55) rfl)) (hw _ (List.mem_of_getElem? (i := 55) rfl)) (hw _ (List.mem_of_getElem? (i := 54) rfl)) (hw _ (List.mem_of_getElem? (i := 3) rfl)) (hw _ (List.mem_of_getElem? (i := 56) rfl)) (by decide) (lenOf pd_3 rfl) at_272 (pc' := 275) rfl (argsL := []) (rest := []) rfl rfl (by decide) (wt := 0) rfl (by decide) (by decide) (by decide) ?_
                rintro T _ _ W ⟨rfl, rfl⟩
                show Go p e below s n0 (Q_c0 Z n0 h0 lx xa xb xc md) 16 128 T (mkF m 275 #[.val (.long lx), .second, .val (.int xa), .val (.int xb), .val (.int xc), .val (.int md), .val (.long lm), .second, .val (.int (2 : Int32)), .val (.int gv), .val (.int hv), .val (.long v64), .second, .val (.long v72), .second, .val (.long v81), .second, .val (.long (v64 + (192 : Int64))), .second, .val (.long (v72 + (192 : Int64))), .second, .val (.long (v81 + (192 : Int64))), .second, .val (.ref bu), .val (.long ((((0 : Int64) + (v64 + (192 : Int64))) + (v72 + (192 : Int64))) - (v64 + (192 : Int64)))), .second, .val (.long (own_max (own_max (0 : Int64) (v64 + (192 : Int64))) (v72 + (192 : Int64)))), .second, .val (.ref c137), .val (.int (0 : Int32))] [(.int (if ((((0 : Int64) + (v64 + (192 : Int64))) + (v72 + (192 : Int64))) - (v64 + (192 : Int64))) - (own_max (own_max (0 : Int64) (v64 + (192 : Int64))) (v72 + (192 : Int64))) < lm then (0 : Int32) else 1))])
                refine g_iload K W at_275 rfl (pc' := 277) rfl ?_
                refine g_icmp_ne K W at_277 (pt := 284) rfl (pf := 280) rfl (fun hc277 => ?_) (fun hc277 => absurd (if_pos hc259) hc277)
                refine g_iconst K W (v := (1 : Int32)) at_280 rfl (pc' := 281) rfl ?_
                refine g_goto K W at_281 (pt := 285) rfl ?_
                exact g_retN K W (by simp) at_285 (by decide) (by decide) (v := (1 : Int32)) rfl rfl
              · refine g_iconst K W (v := (1 : Int32)) at_263 rfl (pc' := 264) rfl ?_
                refine g_goto K W at_264 (pt := 268) rfl ?_
                refine g_istore K W at_268 (Ls' := #[.val (.long lx), .second, .val (.int xa), .val (.int xb), .val (.int xc), .val (.int md), .val (.long lm), .second, .val (.int (2 : Int32)), .val (.int gv), .val (.int hv), .val (.long v64), .second, .val (.long v72), .second, .val (.long v81), .second, .val (.long (v64 + (192 : Int64))), .second, .val (.long (v72 + (192 : Int64))), .second, .val (.long (v81 + (192 : Int64))), .second, .val (.ref bu), .val (.long ((((0 : Int64) + (v64 + (192 : Int64))) + (v72 + (192 : Int64))) - (v64 + (192 : Int64)))), .second, .val (.long (own_max (own_max (0 : Int64) (v64 + (192 : Int64))) (v72 + (192 : Int64)))), .second, .val (.ref c137), .val (.int (1 : Int32))]) rfl (pc' := 270) rfl ?_
                refine g_aload K W at_270 rfl rfl (pc' := 272) rfl ?_
                refine g_callV (c8 l Z a0 hw n0 _ W.sz bu lm ((((0 : Int64) + (v64 + (192 : Int64))) + (v72 + (192 : Int64))) - (v64 + (192 : Int64))) (own_max (own_max (0 : Int64) (v64 + (192 : Int64))) (v72 + (192 : Int64))) ((((0 : Int64) + (v64 + (192 : Int64))) + (v72 + (192 : Int64))) - (v64 + (192 : Int64))) X_bu F_bu_limit F_bu_charged F_bu_largestCharge F_bu_taken ge_bu) K W X_bu (hw _ (List.mem_of_getElem? (i := 52) rfl)) (hw _ (List.mem_of_getElem? (i := 53) rfl)) (hw _ (List.mem_of_getElem? (i := 55) rfl)) (hw _ (List.mem_of_getElem? (i := 55) rfl)) (hw _ (List.mem_of_getElem? (i := 54) rfl)) (hw _ (List.mem_of_getElem? (i := 3) rfl)) (hw _ (List.mem_of_getElem? (i := 56) rfl)) (by decide) (lenOf pd_3 rfl) at_272 (pc' := 275) rfl (argsL := []) (rest := []) rfl rfl (by decide) (wt := 0) rfl (by decide) (by decide) (by decide) ?_
                rintro T _ _ W ⟨rfl, rfl⟩
                show Go p e below s n0 (Q_c0 Z n0 h0 lx xa xb xc md) 16 128 T (mkF m 275 #[.val (.long lx), .second, .val (.int xa), .val (.int xb), .val (.int xc), .val (.int md), .val (.long lm), .second, .val (.int (2 : Int32)), .val (.int gv), .val (.int hv), .val (.long v64), .second, .val (.long v72), .second, .val (.long v81), .second, .val (.long (v64 + (192 : Int64))), .second, .val (.long (v72 + (192 : Int64))), .second, .val (.long (v81 + (192 : Int64))), .second, .val (.ref bu), .val (.long ((((0 : Int64) + (v64 + (192 : Int64))) + (v72 + (192 : Int64))) - (v64 + (192 : Int64)))), .second, .val (.long (own_max (own_max (0 : Int64) (v64 + (192 : Int64))) (v72 + (192 : Int64)))), .second, .val (.ref c137), .val (.int (1 : Int32))] [(.int (if ((((0 : Int64) + (v64 + (192 : Int64))) + (v72 + (192 : Int64))) - (v64 + (192 : Int64))) - (own_max (own_max (0 : Int64) (v64 + (192 : Int64))) (v72 + (192 : Int64))) < lm then (0 : Int32) else 1))])
                refine g_iload K W at_275 rfl (pc' := 277) rfl ?_
                refine g_icmp_ne K W at_277 (pt := 284) rfl (pf := 280) rfl (fun hc277 => ?_) (fun hc277 => absurd (if_neg hc259) hc277)
                refine g_iconst K W (v := (1 : Int32)) at_280 rfl (pc' := 281) rfl ?_
                refine g_goto K W at_281 (pt := 285) rfl ?_
                exact g_retN K W (by simp) at_285 (by decide) (by decide) (v := (1 : Int32)) rfl rfl
          · refine g_aload K W at_194 rfl rfl (pc' := 196) rfl ?_
            refine g_iconst K W (v := (1 : Int32)) at_196 rfl (pc' := 197) rfl ?_
            refine g_callV (c9 l Z a0 hw n0 _ W.sz c168 (1 : Int32) bu (v72 + (192 : Int64)) (0 : Int32) lm (((0 : Int64) + (v64 + (192 : Int64))) + (v72 + (192 : Int64))) (own_max (own_max (0 : Int64) (v64 + (192 : Int64))) (v72 + (192 : Int64))) (((0 : Int64) + (v64 + (192 : Int64))) + (v72 + (192 : Int64))) X_c168 F_c168_taken F_c168_budget F_c168_octets F_c168_places ge_c168 X_bu F_bu_limit F_bu_charged F_bu_largestCharge F_bu_taken ge_bu ne_c168_bu ne_bu_c168 rfl rfl) K W X_c168 (hw _ (List.mem_of_getElem? (i := 58) rfl)) (hw _ (List.mem_of_getElem? (i := 59) rfl)) (hw _ (List.mem_of_getElem? (i := 61) rfl)) (hw _ (List.mem_of_getElem? (i := 61) rfl)) (hw _ (List.mem_of_getElem? (i := 60) rfl)) (hw _ (List.mem_of_getElem? (i := 19) rfl)) (hw _ (List.mem_of_getElem? (i := 62) rfl)) (by decide) (lenOf pd_6 rfl) at_197 (pc' := 200) rfl (argsL := [(.int (1 : Int32))]) (rest := []) rfl rfl (by decide) (wt := 0) rfl (by decide) (by decide) (by decide) ?_
            rintro T h _ W ⟨rfl, kq, tk', F_bu_limit, F_bu_charged, F_bu_largestCharge, F_bu_taken⟩
            show Go p e below s n0 (Q_c0 Z n0 h0 lx xa xb xc md) 16 128 T (mkF m 200 #[.val (.long lx), .second, .val (.int xa), .val (.int xb), .val (.int xc), .val (.int md), .val (.long lm), .second, .val (.int (2 : Int32)), .val (.int gv), .val (.int hv), .val (.long v64), .second, .val (.long v72), .second, .val (.long v81), .second, .val (.long (v64 + (192 : Int64))), .second, .val (.long (v72 + (192 : Int64))), .second, .val (.long (v81 + (192 : Int64))), .second, .val (.ref bu), .val (.long (((0 : Int64) + (v64 + (192 : Int64))) + (v72 + (192 : Int64)))), .second, .val (.long (own_max (own_max (0 : Int64) (v64 + (192 : Int64))) (v72 + (192 : Int64)))), .second, .val (.ref c137), .val (.ref c168)] [])
            have X_bu := X_bu.keep kq
            have X_c137 := X_c137.keep kq
            have F_c137_taken := F_c137_taken.keep kq (ninS ne_c137_c168 (ninS ne_c137_bu nin0))
            have F_c137_budget := F_c137_budget.keep kq (ninS ne_c137_c168 (ninS ne_c137_bu nin0))
            have F_c137_octets := F_c137_octets.keep kq (ninS ne_c137_c168 (ninS ne_c137_bu nin0))
            have F_c137_places := F_c137_places.keep kq (ninS ne_c137_c168 (ninS ne_c137_bu nin0))
            have X_c168 := X_c168.keep kq
            refine g_iload K W at_200 rfl (pc' := 202) rfl ?_
            refine g_iconst K W (v := (3 : Int32)) at_202 rfl (pc' := 203) rfl ?_
            refine g_icmp_lt K W at_203 (pt := 230) rfl (pf := 206) rfl (fun hc203 => ?_) (fun hc203 => absurd (by decide) hc203)
            refine g_iload K W at_230 rfl (pc' := 232) rfl ?_
            refine g_if_eq K W at_232 (pt := 252) rfl (pf := 235) rfl (fun hc232 => ?_) (fun hc232 => ?_)
            · refine g_lload K W at_252 rfl (pc' := 254) rfl ?_
              refine g_lload K W at_254 rfl (pc' := 256) rfl ?_
              refine g_lsub K W at_256 (pc' := 257) rfl ?_
              refine g_lload K W at_257 rfl (pc' := 259) rfl ?_
              refine g_lcmp_lt K W at_259 (pc1 := 260) rfl at_260 (pt := 267) rfl (pf := 263) rfl (fun hc259 => ?_) (fun hc259 => ?_)
              · refine g_iconst K W (v := (0 : Int32)) at_267 rfl (pc' := 268) rfl ?_
                refine g_istore K W at_268 (Ls' := #[.val (.long lx), .second, .val (.int xa), .val (.int xb), .val (.int xc), .val (.int md), .val (.long lm), .second, .val (.int (2 : Int32)), .val (.int gv), .val (.int hv), .val (.long v64), .second, .val (.long v72), .second, .val (.long v81), .second, .val (.long (v64 + (192 : Int64))), .second, .val (.long (v72 + (192 : Int64))), .second, .val (.long (v81 + (192 : Int64))), .second, .val (.ref bu), .val (.long (((0 : Int64) + (v64 + (192 : Int64))) + (v72 + (192 : Int64)))), .second, .val (.long (own_max (own_max (0 : Int64) (v64 + (192 : Int64))) (v72 + (192 : Int64)))), .second, .val (.ref c137), .val (.int (0 : Int32))]) rfl (pc' := 270) rfl ?_
                refine g_aload K W at_270 rfl rfl (pc' := 272) rfl ?_
                refine g_callV (c8 l Z a0 hw n0 _ W.sz bu lm (((0 : Int64) + (v64 + (192 : Int64))) + (v72 + (192 : Int64))) (own_max (own_max (0 : Int64) (v64 + (192 : Int64))) (v72 + (192 : Int64))) tk' X_bu F_bu_limit F_bu_charged F_bu_largestCharge F_bu_taken ge_bu) K W X_bu (hw _ (List.mem_of_getElem? (i := 52) rfl)) (hw _ (List.mem_of_getElem? (i := 53) rfl)) (hw _ (List.mem_of_getElem? (i := 55) rfl)) (hw _ (List.mem_of_getElem? (i := 55) rfl)) (hw _ (List.mem_of_getElem? (i := 54) rfl)) (hw _ (List.mem_of_getElem? (i := 3) rfl)) (hw _ (List.mem_of_getElem? (i := 56) rfl)) (by decide) (lenOf pd_3 rfl) at_272 (pc' := 275) rfl (argsL := []) (rest := []) rfl rfl (by decide) (wt := 0) rfl (by decide) (by decide) (by decide) ?_
                rintro T _ _ W ⟨rfl, rfl⟩
                show Go p e below s n0 (Q_c0 Z n0 h0 lx xa xb xc md) 16 128 T (mkF m 275 #[.val (.long lx), .second, .val (.int xa), .val (.int xb), .val (.int xc), .val (.int md), .val (.long lm), .second, .val (.int (2 : Int32)), .val (.int gv), .val (.int hv), .val (.long v64), .second, .val (.long v72), .second, .val (.long v81), .second, .val (.long (v64 + (192 : Int64))), .second, .val (.long (v72 + (192 : Int64))), .second, .val (.long (v81 + (192 : Int64))), .second, .val (.ref bu), .val (.long (((0 : Int64) + (v64 + (192 : Int64))) + (v72 + (192 : Int64)))), .second, .val (.long (own_max (own_max (0 : Int64) (v64 + (192 : Int64))) (v72 + (192 : Int64)))), .second, .val (.ref c137), .val (.int (0 : Int32))] [(.int (if (((0 : Int64) + (v64 + (192 : Int64))) + (v72 + (192 : Int64))) - (own_max (own_max (0 : Int64) (v64 + (192 : Int64))) (v72 + (192 : Int64))) < lm then (0 : Int32) else 1))])
                refine g_iload K W at_275 rfl (pc' := 277) rfl ?_
                refine g_icmp_ne K W at_277 (pt := 284) rfl (pf := 280) rfl (fun hc277 => ?_) (fun hc277 => absurd (if_pos hc259) hc277)
                refine g_iconst K W (v := (1 : Int32)) at_280 rfl (pc' := 281) rfl ?_
                refine g_goto K W at_281 (pt := 285) rfl ?_
                exact g_retN K W (by simp) at_285 (by decide) (by decide) (v := (1 : Int32)) rfl rfl
              · refine g_iconst K W (v := (1 : Int32)) at_263 rfl (pc' := 264) rfl ?_
                refine g_goto K W at_264 (pt := 268) rfl ?_
                refine g_istore K W at_268 (Ls' := #[.val (.long lx), .second, .val (.int xa), .val (.int xb), .val (.int xc), .val (.int md), .val (.long lm), .second, .val (.int (2 : Int32)), .val (.int gv), .val (.int hv), .val (.long v64), .second, .val (.long v72), .second, .val (.long v81), .second, .val (.long (v64 + (192 : Int64))), .second, .val (.long (v72 + (192 : Int64))), .second, .val (.long (v81 + (192 : Int64))), .second, .val (.ref bu), .val (.long (((0 : Int64) + (v64 + (192 : Int64))) + (v72 + (192 : Int64)))), .second, .val (.long (own_max (own_max (0 : Int64) (v64 + (192 : Int64))) (v72 + (192 : Int64)))), .second, .val (.ref c137), .val (.int (1 : Int32))]) rfl (pc' := 270) rfl ?_
                refine g_aload K W at_270 rfl rfl (pc' := 272) rfl ?_
                refine g_callV (c8 l Z a0 hw n0 _ W.sz bu lm (((0 : Int64) + (v64 + (192 : Int64))) + (v72 + (192 : Int64))) (own_max (own_max (0 : Int64) (v64 + (192 : Int64))) (v72 + (192 : Int64))) tk' X_bu F_bu_limit F_bu_charged F_bu_largestCharge F_bu_taken ge_bu) K W X_bu (hw _ (List.mem_of_getElem? (i := 52) rfl)) (hw _ (List.mem_of_getElem? (i := 53) rfl)) (hw _ (List.mem_of_getElem? (i := 55) rfl)) (hw _ (List.mem_of_getElem? (i := 55) rfl)) (hw _ (List.mem_of_getElem? (i := 54) rfl)) (hw _ (List.mem_of_getElem? (i := 3) rfl)) (hw _ (List.mem_of_getElem? (i := 56) rfl)) (by decide) (lenOf pd_3 rfl) at_272 (pc' := 275) rfl (argsL := []) (rest := []) rfl rfl (by decide) (wt := 0) rfl (by decide) (by decide) (by decide) ?_
                rintro T _ _ W ⟨rfl, rfl⟩
                show Go p e below s n0 (Q_c0 Z n0 h0 lx xa xb xc md) 16 128 T (mkF m 275 #[.val (.long lx), .second, .val (.int xa), .val (.int xb), .val (.int xc), .val (.int md), .val (.long lm), .second, .val (.int (2 : Int32)), .val (.int gv), .val (.int hv), .val (.long v64), .second, .val (.long v72), .second, .val (.long v81), .second, .val (.long (v64 + (192 : Int64))), .second, .val (.long (v72 + (192 : Int64))), .second, .val (.long (v81 + (192 : Int64))), .second, .val (.ref bu), .val (.long (((0 : Int64) + (v64 + (192 : Int64))) + (v72 + (192 : Int64)))), .second, .val (.long (own_max (own_max (0 : Int64) (v64 + (192 : Int64))) (v72 + (192 : Int64)))), .second, .val (.ref c137), .val (.int (1 : Int32))] [(.int (if (((0 : Int64) + (v64 + (192 : Int64))) + (v72 + (192 : Int64))) - (own_max (own_max (0 : Int64) (v64 + (192 : Int64))) (v72 + (192 : Int64))) < lm then (0 : Int32) else 1))])
                refine g_iload K W at_275 rfl (pc' := 277) rfl ?_
                refine g_icmp_ne K W at_277 (pt := 284) rfl (pf := 280) rfl (fun hc277 => ?_) (fun hc277 => absurd (if_neg hc259) hc277)
                refine g_iconst K W (v := (1 : Int32)) at_280 rfl (pc' := 281) rfl ?_
                refine g_goto K W at_281 (pt := 285) rfl ?_
                exact g_retN K W (by simp) at_285 (by decide) (by decide) (v := (1 : Int32)) rfl rfl
            · refine g_aload K W at_235 rfl rfl (pc' := 237) rfl ?_
              refine g_ifnull_f K W at_237 (pf := 240) rfl ?_
              refine g_aload K W at_240 rfl rfl (pc' := 242) rfl ?_
              refine g_callV (c10 l Z a0 hw n0 _ W.sz c137 bu (v64 + (192 : Int64)) (0 : Int32) lm (((0 : Int64) + (v64 + (192 : Int64))) + (v72 + (192 : Int64))) (own_max (own_max (0 : Int64) (v64 + (192 : Int64))) (v72 + (192 : Int64))) tk' X_c137 F_c137_taken F_c137_budget F_c137_octets F_c137_places ge_c137 X_bu F_bu_limit F_bu_charged F_bu_largestCharge F_bu_taken ge_bu ne_c137_bu ne_bu_c137) K W X_c137 (hw _ (List.mem_of_getElem? (i := 67) rfl)) (hw _ (List.mem_of_getElem? (i := 68) rfl)) (hw _ (List.mem_of_getElem? (i := 70) rfl)) (hw _ (List.mem_of_getElem? (i := 70) rfl)) (hw _ (List.mem_of_getElem? (i := 69) rfl)) (hw _ (List.mem_of_getElem? (i := 19) rfl)) (hw _ (List.mem_of_getElem? (i := 71) rfl)) (by decide) (lenOf pd_5 rfl) at_242 (pc' := 245) rfl (argsL := []) (rest := []) rfl rfl (by decide) (wt := 0) rfl (by decide) (by decide) (by decide) ?_
              rintro T h _ W ⟨rfl, kq, F_bu_limit, F_bu_charged, F_bu_largestCharge, F_bu_taken⟩
              show Go p e below s n0 (Q_c0 Z n0 h0 lx xa xb xc md) 16 128 T (mkF m 245 #[.val (.long lx), .second, .val (.int xa), .val (.int xb), .val (.int xc), .val (.int md), .val (.long lm), .second, .val (.int (2 : Int32)), .val (.int gv), .val (.int hv), .val (.long v64), .second, .val (.long v72), .second, .val (.long v81), .second, .val (.long (v64 + (192 : Int64))), .second, .val (.long (v72 + (192 : Int64))), .second, .val (.long (v81 + (192 : Int64))), .second, .val (.ref bu), .val (.long (((0 : Int64) + (v64 + (192 : Int64))) + (v72 + (192 : Int64)))), .second, .val (.long (own_max (own_max (0 : Int64) (v64 + (192 : Int64))) (v72 + (192 : Int64)))), .second, .val (.ref c137), .val (.ref c168)] [])
              have X_bu := X_bu.keep kq
              have X_c137 := X_c137.keep kq
              have X_c168 := X_c168.keep kq
              refine g_lload K W at_245 rfl (pc' := 247) rfl ?_
              refine g_lload K W at_247 rfl (pc' := 249) rfl ?_
              refine g_lsub K W at_249 (pc' := 250) rfl ?_
              refine g_lstore K W at_250 (Ls' := #[.val (.long lx), .second, .val (.int xa), .val (.int xb), .val (.int xc), .val (.int md), .val (.long lm), .second, .val (.int (2 : Int32)), .val (.int gv), .val (.int hv), .val (.long v64), .second, .val (.long v72), .second, .val (.long v81), .second, .val (.long (v64 + (192 : Int64))), .second, .val (.long (v72 + (192 : Int64))), .second, .val (.long (v81 + (192 : Int64))), .second, .val (.ref bu), .val (.long ((((0 : Int64) + (v64 + (192 : Int64))) + (v72 + (192 : Int64))) - (v64 + (192 : Int64)))), .second, .val (.long (own_max (own_max (0 : Int64) (v64 + (192 : Int64))) (v72 + (192 : Int64)))), .second, .val (.ref c137), .val (.ref c168)]) rfl (pc' := 252) rfl ?_
              refine g_lload K W at_252 rfl (pc' := 254) rfl ?_
              refine g_lload K W at_254 rfl (pc' := 256) rfl ?_
              refine g_lsub K W at_256 (pc' := 257) rfl ?_
              refine g_lload K W at_257 rfl (pc' := 259) rfl ?_
              refine g_lcmp_lt K W at_259 (pc1 := 260) rfl at_260 (pt := 267) rfl (pf := 263) rfl (fun hc259 => ?_) (fun hc259 => ?_)
              · refine g_iconst K W (v := (0 : Int32)) at_267 rfl (pc' := 268) rfl ?_
                refine g_istore K W at_268 (Ls' := #[.val (.long lx), .second, .val (.int xa), .val (.int xb), .val (.int xc), .val (.int md), .val (.long lm), .second, .val (.int (2 : Int32)), .val (.int gv), .val (.int hv), .val (.long v64), .second, .val (.long v72), .second, .val (.long v81), .second, .val (.long (v64 + (192 : Int64))), .second, .val (.long (v72 + (192 : Int64))), .second, .val (.long (v81 + (192 : Int64))), .second, .val (.ref bu), .val (.long ((((0 : Int64) + (v64 + (192 : Int64))) + (v72 + (192 : Int64))) - (v64 + (192 : Int64)))), .second, .val (.long (own_max (own_max (0 : Int64) (v64 + (192 : Int64))) (v72 + (192 : Int64)))), .second, .val (.ref c137), .val (.int (0 : Int32))]) rfl (pc' := 270) rfl ?_
                refine g_aload K W at_270 rfl rfl (pc' := 272) rfl ?_
                refine g_callV (c8 l Z a0 hw n0 _ W.sz bu lm ((((0 : Int64) + (v64 + (192 : Int64))) + (v72 + (192 : Int64))) - (v64 + (192 : Int64))) (own_max (own_max (0 : Int64) (v64 + (192 : Int64))) (v72 + (192 : Int64))) (tk' - (v64 + (192 : Int64))) X_bu F_bu_limit F_bu_charged F_bu_largestCharge F_bu_taken ge_bu) K W X_bu (hw _ (List.mem_of_getElem? (i := 52) rfl)) (hw _ (List.mem_of_getElem? (i := 53) rfl)) (hw _ (List.mem_of_getElem? (i := 55) rfl)) (hw _ (List.mem_of_getElem? (i := 55) rfl)) (hw _ (List.mem_of_getElem? (i := 54) rfl)) (hw _ (List.mem_of_getElem? (i := 3) rfl)) (hw _ (List.mem_of_getElem? (i := 56) rfl)) (by decide) (lenOf pd_3 rfl) at_272 (pc' := 275) rfl (argsL := []) (rest := []) rfl rfl (by decide) (wt := 0) rfl (by decide) (by decide) (by decide) ?_
                rintro T _ _ W ⟨rfl, rfl⟩
                show Go p e below s n0 (Q_c0 Z n0 h0 lx xa xb xc md) 16 128 T (mkF m 275 #[.val (.long lx), .second, .val (.int xa), .val (.int xb), .val (.int xc), .val (.int md), .val (.long lm), .second, .val (.int (2 : Int32)), .val (.int gv), .val (.int hv), .val (.long v64), .second, .val (.long v72), .second, .val (.long v81), .second, .val (.long (v64 + (192 : Int64))), .second, .val (.long (v72 + (192 : Int64))), .second, .val (.long (v81 + (192 : Int64))), .second, .val (.ref bu), .val (.long ((((0 : Int64) + (v64 + (192 : Int64))) + (v72 + (192 : Int64))) - (v64 + (192 : Int64)))), .second, .val (.long (own_max (own_max (0 : Int64) (v64 + (192 : Int64))) (v72 + (192 : Int64)))), .second, .val (.ref c137), .val (.int (0 : Int32))] [(.int (if ((((0 : Int64) + (v64 + (192 : Int64))) + (v72 + (192 : Int64))) - (v64 + (192 : Int64))) - (own_max (own_max (0 : Int64) (v64 + (192 : Int64))) (v72 + (192 : Int64))) < lm then (0 : Int32) else 1))])
                refine g_iload K W at_275 rfl (pc' := 277) rfl ?_
                refine g_icmp_ne K W at_277 (pt := 284) rfl (pf := 280) rfl (fun hc277 => ?_) (fun hc277 => absurd (if_pos hc259) hc277)
                refine g_iconst K W (v := (1 : Int32)) at_280 rfl (pc' := 281) rfl ?_
                refine g_goto K W at_281 (pt := 285) rfl ?_
                exact g_retN K W (by simp) at_285 (by decide) (by decide) (v := (1 : Int32)) rfl rfl
              · refine g_iconst K W (v := (1 : Int32)) at_263 rfl (pc' := 264) rfl ?_
                refine g_goto K W at_264 (pt := 268) rfl ?_
                refine g_istore K W at_268 (Ls' := #[.val (.long lx), .second, .val (.int xa), .val (.int xb), .val (.int xc), .val (.int md), .val (.long lm), .second, .val (.int (2 : Int32)), .val (.int gv), .val (.int hv), .val (.long v64), .second, .val (.long v72), .second, .val (.long v81), .second, .val (.long (v64 + (192 : Int64))), .second, .val (.long (v72 + (192 : Int64))), .second, .val (.long (v81 + (192 : Int64))), .second, .val (.ref bu), .val (.long ((((0 : Int64) + (v64 + (192 : Int64))) + (v72 + (192 : Int64))) - (v64 + (192 : Int64)))), .second, .val (.long (own_max (own_max (0 : Int64) (v64 + (192 : Int64))) (v72 + (192 : Int64)))), .second, .val (.ref c137), .val (.int (1 : Int32))]) rfl (pc' := 270) rfl ?_
                refine g_aload K W at_270 rfl rfl (pc' := 272) rfl ?_
                refine g_callV (c8 l Z a0 hw n0 _ W.sz bu lm ((((0 : Int64) + (v64 + (192 : Int64))) + (v72 + (192 : Int64))) - (v64 + (192 : Int64))) (own_max (own_max (0 : Int64) (v64 + (192 : Int64))) (v72 + (192 : Int64))) (tk' - (v64 + (192 : Int64))) X_bu F_bu_limit F_bu_charged F_bu_largestCharge F_bu_taken ge_bu) K W X_bu (hw _ (List.mem_of_getElem? (i := 52) rfl)) (hw _ (List.mem_of_getElem? (i := 53) rfl)) (hw _ (List.mem_of_getElem? (i := 55) rfl)) (hw _ (List.mem_of_getElem? (i := 55) rfl)) (hw _ (List.mem_of_getElem? (i := 54) rfl)) (hw _ (List.mem_of_getElem? (i := 3) rfl)) (hw _ (List.mem_of_getElem? (i := 56) rfl)) (by decide) (lenOf pd_3 rfl) at_272 (pc' := 275) rfl (argsL := []) (rest := []) rfl rfl (by decide) (wt := 0) rfl (by decide) (by decide) (by decide) ?_
                rintro T _ _ W ⟨rfl, rfl⟩
                show Go p e below s n0 (Q_c0 Z n0 h0 lx xa xb xc md) 16 128 T (mkF m 275 #[.val (.long lx), .second, .val (.int xa), .val (.int xb), .val (.int xc), .val (.int md), .val (.long lm), .second, .val (.int (2 : Int32)), .val (.int gv), .val (.int hv), .val (.long v64), .second, .val (.long v72), .second, .val (.long v81), .second, .val (.long (v64 + (192 : Int64))), .second, .val (.long (v72 + (192 : Int64))), .second, .val (.long (v81 + (192 : Int64))), .second, .val (.ref bu), .val (.long ((((0 : Int64) + (v64 + (192 : Int64))) + (v72 + (192 : Int64))) - (v64 + (192 : Int64)))), .second, .val (.long (own_max (own_max (0 : Int64) (v64 + (192 : Int64))) (v72 + (192 : Int64)))), .second, .val (.ref c137), .val (.int (1 : Int32))] [(.int (if ((((0 : Int64) + (v64 + (192 : Int64))) + (v72 + (192 : Int64))) - (v64 + (192 : Int64))) - (own_max (own_max (0 : Int64) (v64 + (192 : Int64))) (v72 + (192 : Int64))) < lm then (0 : Int32) else 1))])
                refine g_iload K W at_275 rfl (pc' := 277) rfl ?_
                refine g_icmp_ne K W at_277 (pt := 284) rfl (pf := 280) rfl (fun hc277 => ?_) (fun hc277 => absurd (if_neg hc259) hc277)
                refine g_iconst K W (v := (1 : Int32)) at_280 rfl (pc' := 281) rfl ?_
                refine g_goto K W at_281 (pt := 285) rfl ?_
                exact g_retN K W (by simp) at_285 (by decide) (by decide) (v := (1 : Int32)) rfl rfl
        · refine g_iload K W at_127 rfl (pc' := 129) rfl ?_
          refine g_iconst K W (v := (1 : Int32)) at_129 rfl (pc' := 130) rfl ?_
          refine g_icmp_lt K W at_130 (pt := 158) rfl (pf := 133) rfl (fun hc130 => absurd hc130 (by decide)) (fun hc130 => ?_)
          refine g_aload K W at_133 rfl rfl (pc' := 135) rfl ?_
          refine g_lload K W at_135 rfl (pc' := 137) rfl ?_
          have lt_bu := X_bu.lt
          refine g_callV (c3 l Z a0 hw n0 _ W.sz bu v64 lm (0 : Int64) (0 : Int64) (0 : Int64) X_bu F_bu_limit F_bu_charged F_bu_largestCharge F_bu_taken ge_bu) K W X_bu (hw _ (List.mem_of_getElem? (i := 12) rfl)) (hw _ (List.mem_of_getElem? (i := 13) rfl)) (hw _ (List.mem_of_getElem? (i := 15) rfl)) (hw _ (List.mem_of_getElem? (i := 15) rfl)) (hw _ (List.mem_of_getElem? (i := 14) rfl)) (hw _ (List.mem_of_getElem? (i := 3) rfl)) (hw _ (List.mem_of_getElem? (i := 16) rfl)) (by decide) (lenOf pd_4 rfl) at_137 (pc' := 140) rfl (argsL := [(.long v64)]) (rest := []) rfl rfl (by decide) (wt := 0) rfl (by decide) (by decide) (by decide) ?_
          rintro T h _ W ⟨c137, rfl, ge_c137, sz_c137, kq, X_c137, F_c137_taken, F_c137_budget, F_c137_octets, F_c137_places, F_bu_limit, F_bu_charged, F_bu_largestCharge, F_bu_taken⟩
          show Go p e below s n0 (Q_c0 Z n0 h0 lx xa xb xc md) 16 128 T (mkF m 140 #[.val (.long lx), .second, .val (.int xa), .val (.int xb), .val (.int xc), .val (.int md), .val (.long lm), .second, .val (.int (3 : Int32)), .val (.int gv), .val (.int hv), .val (.long v64), .second, .val (.long v72), .second, .val (.long v81), .second, .val (.long (v64 + (192 : Int64))), .second, .val (.long (v72 + (192 : Int64))), .second, .val (.long (v81 + (192 : Int64))), .second, .val (.ref bu), .val (.long (0 : Int64)), .second, .val (.long (0 : Int64)), .second, .val .null, .unset] [(.ref c137)])
          have X_bu := X_bu.keep kq
          have ne_bu_c137 : bu ≠ c137 := Nat.ne_of_lt (Nat.lt_of_lt_of_le lt_bu sz_c137)
          have ne_c137_bu := Ne.symm ne_bu_c137
          refine g_astore K W at_140 rfl (Ls' := #[.val (.long lx), .second, .val (.int xa), .val (.int xb), .val (.int xc), .val (.int md), .val (.long lm), .second, .val (.int (3 : Int32)), .val (.int gv), .val (.int hv), .val (.long v64), .second, .val (.long v72), .second, .val (.long v81), .second, .val (.long (v64 + (192 : Int64))), .second, .val (.long (v72 + (192 : Int64))), .second, .val (.long (v81 + (192 : Int64))), .second, .val (.ref bu), .val (.long (0 : Int64)), .second, .val (.long (0 : Int64)), .second, .val (.ref c137), .unset]) rfl (pc' := 142) rfl ?_
          refine g_lload K W at_142 rfl (pc' := 144) rfl ?_
          refine g_lload K W at_144 rfl (pc' := 146) rfl ?_
          refine g_ladd K W at_146 (pc' := 147) rfl ?_
          refine g_lstore K W at_147 (Ls' := #[.val (.long lx), .second, .val (.int xa), .val (.int xb), .val (.int xc), .val (.int md), .val (.long lm), .second, .val (.int (3 : Int32)), .val (.int gv), .val (.int hv), .val (.long v64), .second, .val (.long v72), .second, .val (.long v81), .second, .val (.long (v64 + (192 : Int64))), .second, .val (.long (v72 + (192 : Int64))), .second, .val (.long (v81 + (192 : Int64))), .second, .val (.ref bu), .val (.long ((0 : Int64) + (v64 + (192 : Int64)))), .second, .val (.long (0 : Int64)), .second, .val (.ref c137), .unset]) rfl (pc' := 149) rfl ?_
          refine g_lload K W at_149 rfl (pc' := 151) rfl ?_
          refine g_lload K W at_151 rfl (pc' := 153) rfl ?_
          refine g_callS (c5 l Z a0 hw n0 _ W.sz (0 : Int64) (v64 + (192 : Int64))) K W (hw _ (List.mem_of_getElem? (i := 51) rfl)) (hw _ (List.mem_of_getElem? (i := 35) rfl)) (hw _ (List.mem_of_getElem? (i := 36) rfl)) (hw _ (List.mem_of_getElem? (i := 37) rfl)) (by decide) (lenOf pd_2 rfl) at_153 (pc' := 156) rfl (argsL := [(.long (0 : Int64)), (.long (v64 + (192 : Int64)))]) (rest := []) rfl rfl (by decide) (wt := 0) rfl (by decide) (by decide) (by decide) ?_
          rintro T _ _ W ⟨rfl, rfl⟩
          show Go p e below s n0 (Q_c0 Z n0 h0 lx xa xb xc md) 16 128 T (mkF m 156 #[.val (.long lx), .second, .val (.int xa), .val (.int xb), .val (.int xc), .val (.int md), .val (.long lm), .second, .val (.int (3 : Int32)), .val (.int gv), .val (.int hv), .val (.long v64), .second, .val (.long v72), .second, .val (.long v81), .second, .val (.long (v64 + (192 : Int64))), .second, .val (.long (v72 + (192 : Int64))), .second, .val (.long (v81 + (192 : Int64))), .second, .val (.ref bu), .val (.long ((0 : Int64) + (v64 + (192 : Int64)))), .second, .val (.long (0 : Int64)), .second, .val (.ref c137), .unset] [(.long (own_max (0 : Int64) (v64 + (192 : Int64))))])
          refine g_lstore K W at_156 (Ls' := #[.val (.long lx), .second, .val (.int xa), .val (.int xb), .val (.int xc), .val (.int md), .val (.long lm), .second, .val (.int (3 : Int32)), .val (.int gv), .val (.int hv), .val (.long v64), .second, .val (.long v72), .second, .val (.long v81), .second, .val (.long (v64 + (192 : Int64))), .second, .val (.long (v72 + (192 : Int64))), .second, .val (.long (v81 + (192 : Int64))), .second, .val (.ref bu), .val (.long ((0 : Int64) + (v64 + (192 : Int64)))), .second, .val (.long (own_max (0 : Int64) (v64 + (192 : Int64)))), .second, .val (.ref c137), .unset]) rfl (pc' := 158) rfl ?_
          refine g_iload K W at_158 rfl (pc' := 160) rfl ?_
          refine g_iconst K W (v := (2 : Int32)) at_160 rfl (pc' := 161) rfl ?_
          refine g_icmp_lt K W at_161 (pt := 200) rfl (pf := 164) rfl (fun hc161 => absurd hc161 (by decide)) (fun hc161 => ?_)
          refine g_aload K W at_164 rfl rfl (pc' := 166) rfl ?_
          refine g_lload K W at_166 rfl (pc' := 168) rfl ?_
          have lt_bu := X_bu.lt
          have lt_c137 := X_c137.lt
          refine g_callV (c3 l Z a0 hw n0 _ W.sz bu v72 lm ((0 : Int64) + (v64 + (192 : Int64))) (own_max (0 : Int64) (v64 + (192 : Int64))) ((0 : Int64) + (v64 + (192 : Int64))) X_bu F_bu_limit F_bu_charged F_bu_largestCharge F_bu_taken ge_bu) K W X_bu (hw _ (List.mem_of_getElem? (i := 12) rfl)) (hw _ (List.mem_of_getElem? (i := 13) rfl)) (hw _ (List.mem_of_getElem? (i := 15) rfl)) (hw _ (List.mem_of_getElem? (i := 15) rfl)) (hw _ (List.mem_of_getElem? (i := 14) rfl)) (hw _ (List.mem_of_getElem? (i := 3) rfl)) (hw _ (List.mem_of_getElem? (i := 16) rfl)) (by decide) (lenOf pd_4 rfl) at_168 (pc' := 171) rfl (argsL := [(.long v72)]) (rest := []) rfl rfl (by decide) (wt := 0) rfl (by decide) (by decide) (by decide) ?_
          rintro T h _ W ⟨c168, rfl, ge_c168, sz_c168, kq, X_c168, F_c168_taken, F_c168_budget, F_c168_octets, F_c168_places, F_bu_limit, F_bu_charged, F_bu_largestCharge, F_bu_taken⟩
          show Go p e below s n0 (Q_c0 Z n0 h0 lx xa xb xc md) 16 128 T (mkF m 171 #[.val (.long lx), .second, .val (.int xa), .val (.int xb), .val (.int xc), .val (.int md), .val (.long lm), .second, .val (.int (3 : Int32)), .val (.int gv), .val (.int hv), .val (.long v64), .second, .val (.long v72), .second, .val (.long v81), .second, .val (.long (v64 + (192 : Int64))), .second, .val (.long (v72 + (192 : Int64))), .second, .val (.long (v81 + (192 : Int64))), .second, .val (.ref bu), .val (.long ((0 : Int64) + (v64 + (192 : Int64)))), .second, .val (.long (own_max (0 : Int64) (v64 + (192 : Int64)))), .second, .val (.ref c137), .unset] [(.ref c168)])
          have X_bu := X_bu.keep kq
          have X_c137 := X_c137.keep kq
          have F_c137_taken := F_c137_taken.keep kq (ninS ne_c137_bu nin0)
          have F_c137_budget := F_c137_budget.keep kq (ninS ne_c137_bu nin0)
          have F_c137_octets := F_c137_octets.keep kq (ninS ne_c137_bu nin0)
          have F_c137_places := F_c137_places.keep kq (ninS ne_c137_bu nin0)
          have ne_bu_c168 : bu ≠ c168 := Nat.ne_of_lt (Nat.lt_of_lt_of_le lt_bu sz_c168)
          have ne_c168_bu := Ne.symm ne_bu_c168
          have ne_c137_c168 : c137 ≠ c168 := Nat.ne_of_lt (Nat.lt_of_lt_of_le lt_c137 sz_c168)
          have ne_c168_c137 := Ne.symm ne_c137_c168
          refine g_astore K W at_171 rfl (Ls' := #[.val (.long lx), .second, .val (.int xa), .val (.int xb), .val (.int xc), .val (.int md), .val (.long lm), .second, .val (.int (3 : Int32)), .val (.int gv), .val (.int hv), .val (.long v64), .second, .val (.long v72), .second, .val (.long v81), .second, .val (.long (v64 + (192 : Int64))), .second, .val (.long (v72 + (192 : Int64))), .second, .val (.long (v81 + (192 : Int64))), .second, .val (.ref bu), .val (.long ((0 : Int64) + (v64 + (192 : Int64)))), .second, .val (.long (own_max (0 : Int64) (v64 + (192 : Int64)))), .second, .val (.ref c137), .val (.ref c168)]) rfl (pc' := 173) rfl ?_
          refine g_lload K W at_173 rfl (pc' := 175) rfl ?_
          refine g_lload K W at_175 rfl (pc' := 177) rfl ?_
          refine g_ladd K W at_177 (pc' := 178) rfl ?_
          refine g_lstore K W at_178 (Ls' := #[.val (.long lx), .second, .val (.int xa), .val (.int xb), .val (.int xc), .val (.int md), .val (.long lm), .second, .val (.int (3 : Int32)), .val (.int gv), .val (.int hv), .val (.long v64), .second, .val (.long v72), .second, .val (.long v81), .second, .val (.long (v64 + (192 : Int64))), .second, .val (.long (v72 + (192 : Int64))), .second, .val (.long (v81 + (192 : Int64))), .second, .val (.ref bu), .val (.long (((0 : Int64) + (v64 + (192 : Int64))) + (v72 + (192 : Int64)))), .second, .val (.long (own_max (0 : Int64) (v64 + (192 : Int64)))), .second, .val (.ref c137), .val (.ref c168)]) rfl (pc' := 180) rfl ?_
          refine g_lload K W at_180 rfl (pc' := 182) rfl ?_
          refine g_lload K W at_182 rfl (pc' := 184) rfl ?_
          refine g_callS (c5 l Z a0 hw n0 _ W.sz (own_max (0 : Int64) (v64 + (192 : Int64))) (v72 + (192 : Int64))) K W (hw _ (List.mem_of_getElem? (i := 51) rfl)) (hw _ (List.mem_of_getElem? (i := 35) rfl)) (hw _ (List.mem_of_getElem? (i := 36) rfl)) (hw _ (List.mem_of_getElem? (i := 37) rfl)) (by decide) (lenOf pd_2 rfl) at_184 (pc' := 187) rfl (argsL := [(.long (own_max (0 : Int64) (v64 + (192 : Int64)))), (.long (v72 + (192 : Int64)))]) (rest := []) rfl rfl (by decide) (wt := 0) rfl (by decide) (by decide) (by decide) ?_
          rintro T _ _ W ⟨rfl, rfl⟩
          show Go p e below s n0 (Q_c0 Z n0 h0 lx xa xb xc md) 16 128 T (mkF m 187 #[.val (.long lx), .second, .val (.int xa), .val (.int xb), .val (.int xc), .val (.int md), .val (.long lm), .second, .val (.int (3 : Int32)), .val (.int gv), .val (.int hv), .val (.long v64), .second, .val (.long v72), .second, .val (.long v81), .second, .val (.long (v64 + (192 : Int64))), .second, .val (.long (v72 + (192 : Int64))), .second, .val (.long (v81 + (192 : Int64))), .second, .val (.ref bu), .val (.long (((0 : Int64) + (v64 + (192 : Int64))) + (v72 + (192 : Int64)))), .second, .val (.long (own_max (0 : Int64) (v64 + (192 : Int64)))), .second, .val (.ref c137), .val (.ref c168)] [(.long (own_max (own_max (0 : Int64) (v64 + (192 : Int64))) (v72 + (192 : Int64))))])
          refine g_lstore K W at_187 (Ls' := #[.val (.long lx), .second, .val (.int xa), .val (.int xb), .val (.int xc), .val (.int md), .val (.long lm), .second, .val (.int (3 : Int32)), .val (.int gv), .val (.int hv), .val (.long v64), .second, .val (.long v72), .second, .val (.long v81), .second, .val (.long (v64 + (192 : Int64))), .second, .val (.long (v72 + (192 : Int64))), .second, .val (.long (v81 + (192 : Int64))), .second, .val (.ref bu), .val (.long (((0 : Int64) + (v64 + (192 : Int64))) + (v72 + (192 : Int64)))), .second, .val (.long (own_max (own_max (0 : Int64) (v64 + (192 : Int64))) (v72 + (192 : Int64)))), .second, .val (.ref c137), .val (.ref c168)]) rfl (pc' := 189) rfl ?_
          refine g_iload K W at_189 rfl (pc' := 191) rfl ?_
          refine g_if_eq K W at_191 (pt := 200) rfl (pf := 194) rfl (fun hc191 => ?_) (fun hc191 => ?_)
          · refine g_iload K W at_200 rfl (pc' := 202) rfl ?_
            refine g_iconst K W (v := (3 : Int32)) at_202 rfl (pc' := 203) rfl ?_
            refine g_icmp_lt K W at_203 (pt := 230) rfl (pf := 206) rfl (fun hc203 => absurd hc203 (by decide)) (fun hc203 => ?_)
            refine g_aload K W at_206 rfl rfl (pc' := 208) rfl ?_
            refine g_lload K W at_208 rfl (pc' := 210) rfl ?_
            have lt_bu := X_bu.lt
            have lt_c137 := X_c137.lt
            have lt_c168 := X_c168.lt
            refine g_callV (c3 l Z a0 hw n0 _ W.sz bu v81 lm (((0 : Int64) + (v64 + (192 : Int64))) + (v72 + (192 : Int64))) (own_max (own_max (0 : Int64) (v64 + (192 : Int64))) (v72 + (192 : Int64))) (((0 : Int64) + (v64 + (192 : Int64))) + (v72 + (192 : Int64))) X_bu F_bu_limit F_bu_charged F_bu_largestCharge F_bu_taken ge_bu) K W X_bu (hw _ (List.mem_of_getElem? (i := 12) rfl)) (hw _ (List.mem_of_getElem? (i := 13) rfl)) (hw _ (List.mem_of_getElem? (i := 15) rfl)) (hw _ (List.mem_of_getElem? (i := 15) rfl)) (hw _ (List.mem_of_getElem? (i := 14) rfl)) (hw _ (List.mem_of_getElem? (i := 3) rfl)) (hw _ (List.mem_of_getElem? (i := 16) rfl)) (by decide) (lenOf pd_4 rfl) at_210 (pc' := 213) rfl (argsL := [(.long v81)]) (rest := []) rfl rfl (by decide) (wt := 0) rfl (by decide) (by decide) (by decide) ?_
            rintro T h _ W ⟨c210, rfl, ge_c210, sz_c210, kq, X_c210, F_c210_taken, F_c210_budget, F_c210_octets, F_c210_places, F_bu_limit, F_bu_charged, F_bu_largestCharge, F_bu_taken⟩
            show Go p e below s n0 (Q_c0 Z n0 h0 lx xa xb xc md) 16 128 T (mkF m 213 #[.val (.long lx), .second, .val (.int xa), .val (.int xb), .val (.int xc), .val (.int md), .val (.long lm), .second, .val (.int (3 : Int32)), .val (.int gv), .val (.int hv), .val (.long v64), .second, .val (.long v72), .second, .val (.long v81), .second, .val (.long (v64 + (192 : Int64))), .second, .val (.long (v72 + (192 : Int64))), .second, .val (.long (v81 + (192 : Int64))), .second, .val (.ref bu), .val (.long (((0 : Int64) + (v64 + (192 : Int64))) + (v72 + (192 : Int64)))), .second, .val (.long (own_max (own_max (0 : Int64) (v64 + (192 : Int64))) (v72 + (192 : Int64)))), .second, .val (.ref c137), .val (.ref c168)] [(.ref c210)])
            have X_bu := X_bu.keep kq
            have X_c137 := X_c137.keep kq
            have F_c137_taken := F_c137_taken.keep kq (ninS ne_c137_bu nin0)
            have F_c137_budget := F_c137_budget.keep kq (ninS ne_c137_bu nin0)
            have F_c137_octets := F_c137_octets.keep kq (ninS ne_c137_bu nin0)
            have F_c137_places := F_c137_places.keep kq (ninS ne_c137_bu nin0)
            have X_c168 := X_c168.keep kq
            have F_c168_taken := F_c168_taken.keep kq (ninS ne_c168_bu nin0)
            have F_c168_budget := F_c168_budget.keep kq (ninS ne_c168_bu nin0)
            have F_c168_octets := F_c168_octets.keep kq (ninS ne_c168_bu nin0)
            have F_c168_places := F_c168_places.keep kq (ninS ne_c168_bu nin0)
            have ne_bu_c210 : bu ≠ c210 := Nat.ne_of_lt (Nat.lt_of_lt_of_le lt_bu sz_c210)
            have ne_c210_bu := Ne.symm ne_bu_c210
            have ne_c137_c210 : c137 ≠ c210 := Nat.ne_of_lt (Nat.lt_of_lt_of_le lt_c137 sz_c210)
            have ne_c210_c137 := Ne.symm ne_c137_c210
            have ne_c168_c210 : c168 ≠ c210 := Nat.ne_of_lt (Nat.lt_of_lt_of_le lt_c168 sz_c210)
            have ne_c210_c168 := Ne.symm ne_c168_c210
            refine g_pop K W at_213 rfl (pc' := 214) rfl ?_
            refine g_lload K W at_214 rfl (pc' := 216) rfl ?_
            refine g_lload K W at_216 rfl (pc' := 218) rfl ?_
            refine g_ladd K W at_218 (pc' := 219) rfl ?_
            refine g_lstore K W at_219 (Ls' := #[.val (.long lx), .second, .val (.int xa), .val (.int xb), .val (.int xc), .val (.int md), .val (.long lm), .second, .val (.int (3 : Int32)), .val (.int gv), .val (.int hv), .val (.long v64), .second, .val (.long v72), .second, .val (.long v81), .second, .val (.long (v64 + (192 : Int64))), .second, .val (.long (v72 + (192 : Int64))), .second, .val (.long (v81 + (192 : Int64))), .second, .val (.ref bu), .val (.long ((((0 : Int64) + (v64 + (192 : Int64))) + (v72 + (192 : Int64))) + (v81 + (192 : Int64)))), .second, .val (.long (own_max (own_max (0 : Int64) (v64 + (192 : Int64))) (v72 + (192 : Int64)))), .second, .val (.ref c137), .val (.ref c168)]) rfl (pc' := 221) rfl ?_
            refine g_lload K W at_221 rfl (pc' := 223) rfl ?_
            refine g_lload K W at_223 rfl (pc' := 225) rfl ?_
            refine g_callS (c5 l Z a0 hw n0 _ W.sz (own_max (own_max (0 : Int64) (v64 + (192 : Int64))) (v72 + (192 : Int64))) (v81 + (192 : Int64))) K W (hw _ (List.mem_of_getElem? (i := 51) rfl)) (hw _ (List.mem_of_getElem? (i := 35) rfl)) (hw _ (List.mem_of_getElem? (i := 36) rfl)) (hw _ (List.mem_of_getElem? (i := 37) rfl)) (by decide) (lenOf pd_2 rfl) at_225 (pc' := 228) rfl (argsL := [(.long (own_max (own_max (0 : Int64) (v64 + (192 : Int64))) (v72 + (192 : Int64)))), (.long (v81 + (192 : Int64)))]) (rest := []) rfl rfl (by decide) (wt := 0) rfl (by decide) (by decide) (by decide) ?_
            rintro T _ _ W ⟨rfl, rfl⟩
            show Go p e below s n0 (Q_c0 Z n0 h0 lx xa xb xc md) 16 128 T (mkF m 228 #[.val (.long lx), .second, .val (.int xa), .val (.int xb), .val (.int xc), .val (.int md), .val (.long lm), .second, .val (.int (3 : Int32)), .val (.int gv), .val (.int hv), .val (.long v64), .second, .val (.long v72), .second, .val (.long v81), .second, .val (.long (v64 + (192 : Int64))), .second, .val (.long (v72 + (192 : Int64))), .second, .val (.long (v81 + (192 : Int64))), .second, .val (.ref bu), .val (.long ((((0 : Int64) + (v64 + (192 : Int64))) + (v72 + (192 : Int64))) + (v81 + (192 : Int64)))), .second, .val (.long (own_max (own_max (0 : Int64) (v64 + (192 : Int64))) (v72 + (192 : Int64)))), .second, .val (.ref c137), .val (.ref c168)] [(.long (own_max (own_max (own_max (0 : Int64) (v64 + (192 : Int64))) (v72 + (192 : Int64))) (v81 + (192 : Int64))))])
            refine g_lstore K W at_228 (Ls' := #[.val (.long lx), .second, .val (.int xa), .val (.int xb), .val (.int xc), .val (.int md), .val (.long lm), .second, .val (.int (3 : Int32)), .val (.int gv), .val (.int hv), .val (.long v64), .second, .val (.long v72), .second, .val (.long v81), .second, .val (.long (v64 + (192 : Int64))), .second, .val (.long (v72 + (192 : Int64))), .second, .val (.long (v81 + (192 : Int64))), .second, .val (.ref bu), .val (.long ((((0 : Int64) + (v64 + (192 : Int64))) + (v72 + (192 : Int64))) + (v81 + (192 : Int64)))), .second, .val (.long (own_max (own_max (own_max (0 : Int64) (v64 + (192 : Int64))) (v72 + (192 : Int64))) (v81 + (192 : Int64)))), .second, .val (.ref c137), .val (.ref c168)]) rfl (pc' := 230) rfl ?_
            refine g_iload K W at_230 rfl (pc' := 232) rfl ?_
            refine g_if_eq K W at_232 (pt := 252) rfl (pf := 235) rfl (fun hc232 => ?_) (fun hc232 => ?_)
            · refine g_lload K W at_252 rfl (pc' := 254) rfl ?_
              refine g_lload K W at_254 rfl (pc' := 256) rfl ?_
              refine g_lsub K W at_256 (pc' := 257) rfl ?_
              refine g_lload K W at_257 rfl (pc' := 259) rfl ?_
              refine g_lcmp_lt K W at_259 (pc1 := 260) rfl at_260 (pt := 267) rfl (pf := 263) rfl (fun hc259 => ?_) (fun hc259 => ?_)
              · refine g_iconst K W (v := (0 : Int32)) at_267 rfl (pc' := 268) rfl ?_
                refine g_istore K W at_268 (Ls' := #[.val (.long lx), .second, .val (.int xa), .val (.int xb), .val (.int xc), .val (.int md), .val (.long lm), .second, .val (.int (3 : Int32)), .val (.int gv), .val (.int hv), .val (.long v64), .second, .val (.long v72), .second, .val (.long v81), .second, .val (.long (v64 + (192 : Int64))), .second, .val (.long (v72 + (192 : Int64))), .second, .val (.long (v81 + (192 : Int64))), .second, .val (.ref bu), .val (.long ((((0 : Int64) + (v64 + (192 : Int64))) + (v72 + (192 : Int64))) + (v81 + (192 : Int64)))), .second, .val (.long (own_max (own_max (own_max (0 : Int64) (v64 + (192 : Int64))) (v72 + (192 : Int64))) (v81 + (192 : Int64)))), .second, .val (.ref c137), .val (.int (0 : Int32))]) rfl (pc' := 270) rfl ?_
                refine g_aload K W at_270 rfl rfl (pc' := 272) rfl ?_
                refine g_callV (c8 l Z a0 hw n0 _ W.sz bu lm ((((0 : Int64) + (v64 + (192 : Int64))) + (v72 + (192 : Int64))) + (v81 + (192 : Int64))) (own_max (own_max (own_max (0 : Int64) (v64 + (192 : Int64))) (v72 + (192 : Int64))) (v81 + (192 : Int64))) ((((0 : Int64) + (v64 + (192 : Int64))) + (v72 + (192 : Int64))) + (v81 + (192 : Int64))) X_bu F_bu_limit F_bu_charged F_bu_largestCharge F_bu_taken ge_bu) K W X_bu (hw _ (List.mem_of_getElem? (i := 52) rfl)) (hw _ (List.mem_of_getElem? (i := 53) rfl)) (hw _ (List.mem_of_getElem? (i := 55) rfl)) (hw _ (List.mem_of_getElem? (i := 55) rfl)) (hw _ (List.mem_of_getElem? (i := 54) rfl)) (hw _ (List.mem_of_getElem? (i := 3) rfl)) (hw _ (List.mem_of_getElem? (i := 56) rfl)) (by decide) (lenOf pd_3 rfl) at_272 (pc' := 275) rfl (argsL := []) (rest := []) rfl rfl (by decide) (wt := 0) rfl (by decide) (by decide) (by decide) ?_
                rintro T _ _ W ⟨rfl, rfl⟩
                show Go p e below s n0 (Q_c0 Z n0 h0 lx xa xb xc md) 16 128 T (mkF m 275 #[.val (.long lx), .second, .val (.int xa), .val (.int xb), .val (.int xc), .val (.int md), .val (.long lm), .second, .val (.int (3 : Int32)), .val (.int gv), .val (.int hv), .val (.long v64), .second, .val (.long v72), .second, .val (.long v81), .second, .val (.long (v64 + (192 : Int64))), .second, .val (.long (v72 + (192 : Int64))), .second, .val (.long (v81 + (192 : Int64))), .second, .val (.ref bu), .val (.long ((((0 : Int64) + (v64 + (192 : Int64))) + (v72 + (192 : Int64))) + (v81 + (192 : Int64)))), .second, .val (.long (own_max (own_max (own_max (0 : Int64) (v64 + (192 : Int64))) (v72 + (192 : Int64))) (v81 + (192 : Int64)))), .second, .val (.ref c137), .val (.int (0 : Int32))] [(.int (if ((((0 : Int64) + (v64 + (192 : Int64))) + (v72 + (192 : Int64))) + (v81 + (192 : Int64))) - (own_max (own_max (own_max (0 : Int64) (v64 + (192 : Int64))) (v72 + (192 : Int64))) (v81 + (192 : Int64))) < lm then (0 : Int32) else 1))])
                refine g_iload K W at_275 rfl (pc' := 277) rfl ?_
                refine g_icmp_ne K W at_277 (pt := 284) rfl (pf := 280) rfl (fun hc277 => ?_) (fun hc277 => absurd (if_pos hc259) hc277)
                refine g_iconst K W (v := (1 : Int32)) at_280 rfl (pc' := 281) rfl ?_
                refine g_goto K W at_281 (pt := 285) rfl ?_
                exact g_retN K W (by simp) at_285 (by decide) (by decide) (v := (1 : Int32)) rfl rfl
              · refine g_iconst K W (v := (1 : Int32)) at_263 rfl (pc' := 264) rfl ?_
                refine g_goto K W at_264 (pt := 268) rfl ?_
                refine g_istore K W at_268 (Ls' := #[.val (.long lx), .second, .val (.int xa), .val (.int xb), .val (.int xc), .val (.int md), .val (.long lm), .second, .val (.int (3 : Int32)), .val (.int gv), .val (.int hv), .val (.long v64), .second, .val (.long v72), .second, .val (.long v81), .second, .val (.long (v64 + (192 : Int64))), .second, .val (.long (v72 + (192 : Int64))), .second, .val (.long (v81 + (192 : Int64))), .second, .val (.ref bu), .val (.long ((((0 : Int64) + (v64 + (192 : Int64))) + (v72 + (192 : Int64))) + (v81 + (192 : Int64)))), .second, .val (.long (own_max (own_max (own_max (0 : Int64) (v64 + (192 : Int64))) (v72 + (192 : Int64))) (v81 + (192 : Int64)))), .second, .val (.ref c137), .val (.int (1 : Int32))]) rfl (pc' := 270) rfl ?_
                refine g_aload K W at_270 rfl rfl (pc' := 272) rfl ?_
                refine g_callV (c8 l Z a0 hw n0 _ W.sz bu lm ((((0 : Int64) + (v64 + (192 : Int64))) + (v72 + (192 : Int64))) + (v81 + (192 : Int64))) (own_max (own_max (own_max (0 : Int64) (v64 + (192 : Int64))) (v72 + (192 : Int64))) (v81 + (192 : Int64))) ((((0 : Int64) + (v64 + (192 : Int64))) + (v72 + (192 : Int64))) + (v81 + (192 : Int64))) X_bu F_bu_limit F_bu_charged F_bu_largestCharge F_bu_taken ge_bu) K W X_bu (hw _ (List.mem_of_getElem? (i := 52) rfl)) (hw _ (List.mem_of_getElem? (i := 53) rfl)) (hw _ (List.mem_of_getElem? (i := 55) rfl)) (hw _ (List.mem_of_getElem? (i := 55) rfl)) (hw _ (List.mem_of_getElem? (i := 54) rfl)) (hw _ (List.mem_of_getElem? (i := 3) rfl)) (hw _ (List.mem_of_getElem? (i := 56) rfl)) (by decide) (lenOf pd_3 rfl) at_272 (pc' := 275) rfl (argsL := []) (rest := []) rfl rfl (by decide) (wt := 0) rfl (by decide) (by decide) (by decide) ?_
                rintro T _ _ W ⟨rfl, rfl⟩
                show Go p e below s n0 (Q_c0 Z n0 h0 lx xa xb xc md) 16 128 T (mkF m 275 #[.val (.long lx), .second, .val (.int xa), .val (.int xb), .val (.int xc), .val (.int md), .val (.long lm), .second, .val (.int (3 : Int32)), .val (.int gv), .val (.int hv), .val (.long v64), .second, .val (.long v72), .second, .val (.long v81), .second, .val (.long (v64 + (192 : Int64))), .second, .val (.long (v72 + (192 : Int64))), .second, .val (.long (v81 + (192 : Int64))), .second, .val (.ref bu), .val (.long ((((0 : Int64) + (v64 + (192 : Int64))) + (v72 + (192 : Int64))) + (v81 + (192 : Int64)))), .second, .val (.long (own_max (own_max (own_max (0 : Int64) (v64 + (192 : Int64))) (v72 + (192 : Int64))) (v81 + (192 : Int64)))), .second, .val (.ref c137), .val (.int (1 : Int32))] [(.int (if ((((0 : Int64) + (v64 + (192 : Int64))) + (v72 + (192 : Int64))) + (v81 + (192 : Int64))) - (own_max (own_max (own_max (0 : Int64) (v64 + (192 : Int64))) (v72 + (192 : Int64))) (v81 + (192 : Int64))) < lm then (0 : Int32) else 1))])
                refine g_iload K W at_275 rfl (pc' := 277) rfl ?_
                refine g_icmp_ne K W at_277 (pt := 284) rfl (pf := 280) rfl (fun hc277 => ?_) (fun hc277 => absurd (if_neg hc259) hc277)
                refine g_iconst K W (v := (1 : Int32)) at_280 rfl (pc' := 281) rfl ?_
                refine g_goto K W at_281 (pt := 285) rfl ?_
                exact g_retN K W (by simp) at_285 (by decide) (by decide) (v := (1 : Int32)) rfl rfl
            · refine g_aload K W at_235 rfl rfl (pc' := 237) rfl ?_
              refine g_ifnull_f K W at_237 (pf := 240) rfl ?_
              refine g_aload K W at_240 rfl rfl (pc' := 242) rfl ?_
              refine g_callV (c10 l Z a0 hw n0 _ W.sz c137 bu (v64 + (192 : Int64)) (0 : Int32) lm ((((0 : Int64) + (v64 + (192 : Int64))) + (v72 + (192 : Int64))) + (v81 + (192 : Int64))) (own_max (own_max (own_max (0 : Int64) (v64 + (192 : Int64))) (v72 + (192 : Int64))) (v81 + (192 : Int64))) ((((0 : Int64) + (v64 + (192 : Int64))) + (v72 + (192 : Int64))) + (v81 + (192 : Int64))) X_c137 F_c137_taken F_c137_budget F_c137_octets F_c137_places ge_c137 X_bu F_bu_limit F_bu_charged F_bu_largestCharge F_bu_taken ge_bu ne_c137_bu ne_bu_c137) K W X_c137 (hw _ (List.mem_of_getElem? (i := 67) rfl)) (hw _ (List.mem_of_getElem? (i := 68) rfl)) (hw _ (List.mem_of_getElem? (i := 70) rfl)) (hw _ (List.mem_of_getElem? (i := 70) rfl)) (hw _ (List.mem_of_getElem? (i := 69) rfl)) (hw _ (List.mem_of_getElem? (i := 19) rfl)) (hw _ (List.mem_of_getElem? (i := 71) rfl)) (by decide) (lenOf pd_5 rfl) at_242 (pc' := 245) rfl (argsL := []) (rest := []) rfl rfl (by decide) (wt := 0) rfl (by decide) (by decide) (by decide) ?_
              rintro T h _ W ⟨rfl, kq, F_bu_limit, F_bu_charged, F_bu_largestCharge, F_bu_taken⟩
              show Go p e below s n0 (Q_c0 Z n0 h0 lx xa xb xc md) 16 128 T (mkF m 245 #[.val (.long lx), .second, .val (.int xa), .val (.int xb), .val (.int xc), .val (.int md), .val (.long lm), .second, .val (.int (3 : Int32)), .val (.int gv), .val (.int hv), .val (.long v64), .second, .val (.long v72), .second, .val (.long v81), .second, .val (.long (v64 + (192 : Int64))), .second, .val (.long (v72 + (192 : Int64))), .second, .val (.long (v81 + (192 : Int64))), .second, .val (.ref bu), .val (.long ((((0 : Int64) + (v64 + (192 : Int64))) + (v72 + (192 : Int64))) + (v81 + (192 : Int64)))), .second, .val (.long (own_max (own_max (own_max (0 : Int64) (v64 + (192 : Int64))) (v72 + (192 : Int64))) (v81 + (192 : Int64)))), .second, .val (.ref c137), .val (.ref c168)] [])
              have X_bu := X_bu.keep kq
              have X_c137 := X_c137.keep kq
              have X_c168 := X_c168.keep kq
              have F_c168_taken := F_c168_taken.keep kq (ninS ne_c168_c137 (ninS ne_c168_bu nin0))
              have F_c168_budget := F_c168_budget.keep kq (ninS ne_c168_c137 (ninS ne_c168_bu nin0))
              have F_c168_octets := F_c168_octets.keep kq (ninS ne_c168_c137 (ninS ne_c168_bu nin0))
              have F_c168_places := F_c168_places.keep kq (ninS ne_c168_c137 (ninS ne_c168_bu nin0))
              have X_c210 := X_c210.keep kq
              have F_c210_taken := F_c210_taken.keep kq (ninS ne_c210_c137 (ninS ne_c210_bu nin0))
              have F_c210_budget := F_c210_budget.keep kq (ninS ne_c210_c137 (ninS ne_c210_bu nin0))
              have F_c210_octets := F_c210_octets.keep kq (ninS ne_c210_c137 (ninS ne_c210_bu nin0))
              have F_c210_places := F_c210_places.keep kq (ninS ne_c210_c137 (ninS ne_c210_bu nin0))
              refine g_lload K W at_245 rfl (pc' := 247) rfl ?_
              refine g_lload K W at_247 rfl (pc' := 249) rfl ?_
              refine g_lsub K W at_249 (pc' := 250) rfl ?_
              refine g_lstore K W at_250 (Ls' := #[.val (.long lx), .second, .val (.int xa), .val (.int xb), .val (.int xc), .val (.int md), .val (.long lm), .second, .val (.int (3 : Int32)), .val (.int gv), .val (.int hv), .val (.long v64), .second, .val (.long v72), .second, .val (.long v81), .second, .val (.long (v64 + (192 : Int64))), .second, .val (.long (v72 + (192 : Int64))), .second, .val (.long (v81 + (192 : Int64))), .second, .val (.ref bu), .val (.long (((((0 : Int64) + (v64 + (192 : Int64))) + (v72 + (192 : Int64))) + (v81 + (192 : Int64))) - (v64 + (192 : Int64)))), .second, .val (.long (own_max (own_max (own_max (0 : Int64) (v64 + (192 : Int64))) (v72 + (192 : Int64))) (v81 + (192 : Int64)))), .second, .val (.ref c137), .val (.ref c168)]) rfl (pc' := 252) rfl ?_
              refine g_lload K W at_252 rfl (pc' := 254) rfl ?_
              refine g_lload K W at_254 rfl (pc' := 256) rfl ?_
              refine g_lsub K W at_256 (pc' := 257) rfl ?_
              refine g_lload K W at_257 rfl (pc' := 259) rfl ?_
              refine g_lcmp_lt K W at_259 (pc1 := 260) rfl at_260 (pt := 267) rfl (pf := 263) rfl (fun hc259 => ?_) (fun hc259 => ?_)
              · refine g_iconst K W (v := (0 : Int32)) at_267 rfl (pc' := 268) rfl ?_
                refine g_istore K W at_268 (Ls' := #[.val (.long lx), .second, .val (.int xa), .val (.int xb), .val (.int xc), .val (.int md), .val (.long lm), .second, .val (.int (3 : Int32)), .val (.int gv), .val (.int hv), .val (.long v64), .second, .val (.long v72), .second, .val (.long v81), .second, .val (.long (v64 + (192 : Int64))), .second, .val (.long (v72 + (192 : Int64))), .second, .val (.long (v81 + (192 : Int64))), .second, .val (.ref bu), .val (.long (((((0 : Int64) + (v64 + (192 : Int64))) + (v72 + (192 : Int64))) + (v81 + (192 : Int64))) - (v64 + (192 : Int64)))), .second, .val (.long (own_max (own_max (own_max (0 : Int64) (v64 + (192 : Int64))) (v72 + (192 : Int64))) (v81 + (192 : Int64)))), .second, .val (.ref c137), .val (.int (0 : Int32))]) rfl (pc' := 270) rfl ?_
                refine g_aload K W at_270 rfl rfl (pc' := 272) rfl ?_
                refine g_callV (c8 l Z a0 hw n0 _ W.sz bu lm (((((0 : Int64) + (v64 + (192 : Int64))) + (v72 + (192 : Int64))) + (v81 + (192 : Int64))) - (v64 + (192 : Int64))) (own_max (own_max (own_max (0 : Int64) (v64 + (192 : Int64))) (v72 + (192 : Int64))) (v81 + (192 : Int64))) (((((0 : Int64) + (v64 + (192 : Int64))) + (v72 + (192 : Int64))) + (v81 + (192 : Int64))) - (v64 + (192 : Int64))) X_bu F_bu_limit F_bu_charged F_bu_largestCharge F_bu_taken ge_bu) K W X_bu (hw _ (List.mem_of_getElem? (i := 52) rfl)) (hw _ (List.mem_of_getElem? (i := 53) rfl)) (hw _ (List.mem_of_getElem? (i := 55) rfl)) (hw _ (List.mem_of_getElem? (i := 55) rfl)) (hw _ (List.mem_of_getElem? (i := 54) rfl)) (hw _ (List.mem_of_getElem? (i := 3) rfl)) (hw _ (List.mem_of_getElem? (i := 56) rfl)) (by decide) (lenOf pd_3 rfl) at_272 (pc' := 275) rfl (argsL := []) (rest := []) rfl rfl (by decide) (wt := 0) rfl (by decide) (by decide) (by decide) ?_
                rintro T _ _ W ⟨rfl, rfl⟩
                show Go p e below s n0 (Q_c0 Z n0 h0 lx xa xb xc md) 16 128 T (mkF m 275 #[.val (.long lx), .second, .val (.int xa), .val (.int xb), .val (.int xc), .val (.int md), .val (.long lm), .second, .val (.int (3 : Int32)), .val (.int gv), .val (.int hv), .val (.long v64), .second, .val (.long v72), .second, .val (.long v81), .second, .val (.long (v64 + (192 : Int64))), .second, .val (.long (v72 + (192 : Int64))), .second, .val (.long (v81 + (192 : Int64))), .second, .val (.ref bu), .val (.long (((((0 : Int64) + (v64 + (192 : Int64))) + (v72 + (192 : Int64))) + (v81 + (192 : Int64))) - (v64 + (192 : Int64)))), .second, .val (.long (own_max (own_max (own_max (0 : Int64) (v64 + (192 : Int64))) (v72 + (192 : Int64))) (v81 + (192 : Int64)))), .second, .val (.ref c137), .val (.int (0 : Int32))] [(.int (if (((((0 : Int64) + (v64 + (192 : Int64))) + (v72 + (192 : Int64))) + (v81 + (192 : Int64))) - (v64 + (192 : Int64))) - (own_max (own_max (own_max (0 : Int64) (v64 + (192 : Int64))) (v72 + (192 : Int64))) (v81 + (192 : Int64))) < lm then (0 : Int32) else 1))])
                refine g_iload K W at_275 rfl (pc' := 277) rfl ?_
                refine g_icmp_ne K W at_277 (pt := 284) rfl (pf := 280) rfl (fun hc277 => ?_) (fun hc277 => absurd (if_pos hc259) hc277)
                refine g_iconst K W (v := (1 : Int32)) at_280 rfl (pc' := 281) rfl ?_
                refine g_goto K W at_281 (pt := 285) rfl ?_
                exact g_retN K W (by simp) at_285 (by decide) (by decide) (v := (1 : Int32)) rfl rfl
              · refine g_iconst K W (v := (1 : Int32)) at_263 rfl (pc' := 264) rfl ?_
                refine g_goto K W at_264 (pt := 268) rfl ?_
                refine g_istore K W at_268 (Ls' := #[.val (.long lx), .second, .val (.int xa), .val (.int xb), .val (.int xc), .val (.int md), .val (.long lm), .second, .val (.int (3 : Int32)), .val (.int gv), .val (.int hv), .val (.long v64), .second, .val (.long v72), .second, .val (.long v81), .second, .val (.long (v64 + (192 : Int64))), .second, .val (.long (v72 + (192 : Int64))), .second, .val (.long (v81 + (192 : Int64))), .second, .val (.ref bu), .val (.long (((((0 : Int64) + (v64 + (192 : Int64))) + (v72 + (192 : Int64))) + (v81 + (192 : Int64))) - (v64 + (192 : Int64)))), .second, .val (.long (own_max (own_max (own_max (0 : Int64) (v64 + (192 : Int64))) (v72 + (192 : Int64))) (v81 + (192 : Int64)))), .second, .val (.ref c137), .val (.int (1 : Int32))]) rfl (pc' := 270) rfl ?_
                refine g_aload K W at_270 rfl rfl (pc' := 272) rfl ?_
                refine g_callV (c8 l Z a0 hw n0 _ W.sz bu lm (((((0 : Int64) + (v64 + (192 : Int64))) + (v72 + (192 : Int64))) + (v81 + (192 : Int64))) - (v64 + (192 : Int64))) (own_max (own_max (own_max (0 : Int64) (v64 + (192 : Int64))) (v72 + (192 : Int64))) (v81 + (192 : Int64))) (((((0 : Int64) + (v64 + (192 : Int64))) + (v72 + (192 : Int64))) + (v81 + (192 : Int64))) - (v64 + (192 : Int64))) X_bu F_bu_limit F_bu_charged F_bu_largestCharge F_bu_taken ge_bu) K W X_bu (hw _ (List.mem_of_getElem? (i := 52) rfl)) (hw _ (List.mem_of_getElem? (i := 53) rfl)) (hw _ (List.mem_of_getElem? (i := 55) rfl)) (hw _ (List.mem_of_getElem? (i := 55) rfl)) (hw _ (List.mem_of_getElem? (i := 54) rfl)) (hw _ (List.mem_of_getElem? (i := 3) rfl)) (hw _ (List.mem_of_getElem? (i := 56) rfl)) (by decide) (lenOf pd_3 rfl) at_272 (pc' := 275) rfl (argsL := []) (rest := []) rfl rfl (by decide) (wt := 0) rfl (by decide) (by decide) (by decide) ?_
                rintro T _ _ W ⟨rfl, rfl⟩
                show Go p e below s n0 (Q_c0 Z n0 h0 lx xa xb xc md) 16 128 T (mkF m 275 #[.val (.long lx), .second, .val (.int xa), .val (.int xb), .val (.int xc), .val (.int md), .val (.long lm), .second, .val (.int (3 : Int32)), .val (.int gv), .val (.int hv), .val (.long v64), .second, .val (.long v72), .second, .val (.long v81), .second, .val (.long (v64 + (192 : Int64))), .second, .val (.long (v72 + (192 : Int64))), .second, .val (.long (v81 + (192 : Int64))), .second, .val (.ref bu), .val (.long (((((0 : Int64) + (v64 + (192 : Int64))) + (v72 + (192 : Int64))) + (v81 + (192 : Int64))) - (v64 + (192 : Int64)))), .second, .val (.long (own_max (own_max (own_max (0 : Int64) (v64 + (192 : Int64))) (v72 + (192 : Int64))) (v81 + (192 : Int64)))), .second, .val (.ref c137), .val (.int (1 : Int32))] [(.int (if (((((0 : Int64) + (v64 + (192 : Int64))) + (v72 + (192 : Int64))) + (v81 + (192 : Int64))) - (v64 + (192 : Int64))) - (own_max (own_max (own_max (0 : Int64) (v64 + (192 : Int64))) (v72 + (192 : Int64))) (v81 + (192 : Int64))) < lm then (0 : Int32) else 1))])
                refine g_iload K W at_275 rfl (pc' := 277) rfl ?_
                refine g_icmp_ne K W at_277 (pt := 284) rfl (pf := 280) rfl (fun hc277 => ?_) (fun hc277 => absurd (if_neg hc259) hc277)
                refine g_iconst K W (v := (1 : Int32)) at_280 rfl (pc' := 281) rfl ?_
                refine g_goto K W at_281 (pt := 285) rfl ?_
                exact g_retN K W (by simp) at_285 (by decide) (by decide) (v := (1 : Int32)) rfl rfl
          · refine g_aload K W at_194 rfl rfl (pc' := 196) rfl ?_
            refine g_iconst K W (v := (1 : Int32)) at_196 rfl (pc' := 197) rfl ?_
            refine g_callV (c9 l Z a0 hw n0 _ W.sz c168 (1 : Int32) bu (v72 + (192 : Int64)) (0 : Int32) lm (((0 : Int64) + (v64 + (192 : Int64))) + (v72 + (192 : Int64))) (own_max (own_max (0 : Int64) (v64 + (192 : Int64))) (v72 + (192 : Int64))) (((0 : Int64) + (v64 + (192 : Int64))) + (v72 + (192 : Int64))) X_c168 F_c168_taken F_c168_budget F_c168_octets F_c168_places ge_c168 X_bu F_bu_limit F_bu_charged F_bu_largestCharge F_bu_taken ge_bu ne_c168_bu ne_bu_c168 rfl rfl) K W X_c168 (hw _ (List.mem_of_getElem? (i := 58) rfl)) (hw _ (List.mem_of_getElem? (i := 59) rfl)) (hw _ (List.mem_of_getElem? (i := 61) rfl)) (hw _ (List.mem_of_getElem? (i := 61) rfl)) (hw _ (List.mem_of_getElem? (i := 60) rfl)) (hw _ (List.mem_of_getElem? (i := 19) rfl)) (hw _ (List.mem_of_getElem? (i := 62) rfl)) (by decide) (lenOf pd_6 rfl) at_197 (pc' := 200) rfl (argsL := [(.int (1 : Int32))]) (rest := []) rfl rfl (by decide) (wt := 0) rfl (by decide) (by decide) (by decide) ?_
            rintro T h _ W ⟨rfl, kq, tk', F_bu_limit, F_bu_charged, F_bu_largestCharge, F_bu_taken⟩
            show Go p e below s n0 (Q_c0 Z n0 h0 lx xa xb xc md) 16 128 T (mkF m 200 #[.val (.long lx), .second, .val (.int xa), .val (.int xb), .val (.int xc), .val (.int md), .val (.long lm), .second, .val (.int (3 : Int32)), .val (.int gv), .val (.int hv), .val (.long v64), .second, .val (.long v72), .second, .val (.long v81), .second, .val (.long (v64 + (192 : Int64))), .second, .val (.long (v72 + (192 : Int64))), .second, .val (.long (v81 + (192 : Int64))), .second, .val (.ref bu), .val (.long (((0 : Int64) + (v64 + (192 : Int64))) + (v72 + (192 : Int64)))), .second, .val (.long (own_max (own_max (0 : Int64) (v64 + (192 : Int64))) (v72 + (192 : Int64)))), .second, .val (.ref c137), .val (.ref c168)] [])
            have X_bu := X_bu.keep kq
            have X_c137 := X_c137.keep kq
            have F_c137_taken := F_c137_taken.keep kq (ninS ne_c137_c168 (ninS ne_c137_bu nin0))
            have F_c137_budget := F_c137_budget.keep kq (ninS ne_c137_c168 (ninS ne_c137_bu nin0))
            have F_c137_octets := F_c137_octets.keep kq (ninS ne_c137_c168 (ninS ne_c137_bu nin0))
            have F_c137_places := F_c137_places.keep kq (ninS ne_c137_c168 (ninS ne_c137_bu nin0))
            have X_c168 := X_c168.keep kq
            refine g_iload K W at_200 rfl (pc' := 202) rfl ?_
            refine g_iconst K W (v := (3 : Int32)) at_202 rfl (pc' := 203) rfl ?_
            refine g_icmp_lt K W at_203 (pt := 230) rfl (pf := 206) rfl (fun hc203 => absurd hc203 (by decide)) (fun hc203 => ?_)
            refine g_aload K W at_206 rfl rfl (pc' := 208) rfl ?_
            refine g_lload K W at_208 rfl (pc' := 210) rfl ?_
            have lt_bu := X_bu.lt
            have lt_c137 := X_c137.lt
            have lt_c168 := X_c168.lt
            refine g_callV (c3 l Z a0 hw n0 _ W.sz bu v81 lm (((0 : Int64) + (v64 + (192 : Int64))) + (v72 + (192 : Int64))) (own_max (own_max (0 : Int64) (v64 + (192 : Int64))) (v72 + (192 : Int64))) tk' X_bu F_bu_limit F_bu_charged F_bu_largestCharge F_bu_taken ge_bu) K W X_bu (hw _ (List.mem_of_getElem? (i := 12) rfl)) (hw _ (List.mem_of_getElem? (i := 13) rfl)) (hw _ (List.mem_of_getElem? (i := 15) rfl)) (hw _ (List.mem_of_getElem? (i := 15) rfl)) (hw _ (List.mem_of_getElem? (i := 14) rfl)) (hw _ (List.mem_of_getElem? (i := 3) rfl)) (hw _ (List.mem_of_getElem? (i := 16) rfl)) (by decide) (lenOf pd_4 rfl) at_210 (pc' := 213) rfl (argsL := [(.long v81)]) (rest := []) rfl rfl (by decide) (wt := 0) rfl (by decide) (by decide) (by decide) ?_
            rintro T h _ W ⟨c210, rfl, ge_c210, sz_c210, kq, X_c210, F_c210_taken, F_c210_budget, F_c210_octets, F_c210_places, F_bu_limit, F_bu_charged, F_bu_largestCharge, F_bu_taken⟩
            show Go p e below s n0 (Q_c0 Z n0 h0 lx xa xb xc md) 16 128 T (mkF m 213 #[.val (.long lx), .second, .val (.int xa), .val (.int xb), .val (.int xc), .val (.int md), .val (.long lm), .second, .val (.int (3 : Int32)), .val (.int gv), .val (.int hv), .val (.long v64), .second, .val (.long v72), .second, .val (.long v81), .second, .val (.long (v64 + (192 : Int64))), .second, .val (.long (v72 + (192 : Int64))), .second, .val (.long (v81 + (192 : Int64))), .second, .val (.ref bu), .val (.long (((0 : Int64) + (v64 + (192 : Int64))) + (v72 + (192 : Int64)))), .second, .val (.long (own_max (own_max (0 : Int64) (v64 + (192 : Int64))) (v72 + (192 : Int64)))), .second, .val (.ref c137), .val (.ref c168)] [(.ref c210)])
            have X_bu := X_bu.keep kq
            have X_c137 := X_c137.keep kq
            have F_c137_taken := F_c137_taken.keep kq (ninS ne_c137_bu nin0)
            have F_c137_budget := F_c137_budget.keep kq (ninS ne_c137_bu nin0)
            have F_c137_octets := F_c137_octets.keep kq (ninS ne_c137_bu nin0)
            have F_c137_places := F_c137_places.keep kq (ninS ne_c137_bu nin0)
            have X_c168 := X_c168.keep kq
            have ne_bu_c210 : bu ≠ c210 := Nat.ne_of_lt (Nat.lt_of_lt_of_le lt_bu sz_c210)
            have ne_c210_bu := Ne.symm ne_bu_c210
            have ne_c137_c210 : c137 ≠ c210 := Nat.ne_of_lt (Nat.lt_of_lt_of_le lt_c137 sz_c210)
            have ne_c210_c137 := Ne.symm ne_c137_c210
            have ne_c168_c210 : c168 ≠ c210 := Nat.ne_of_lt (Nat.lt_of_lt_of_le lt_c168 sz_c210)
            have ne_c210_c168 := Ne.symm ne_c168_c210
            refine g_pop K W at_213 rfl (pc' := 214) rfl ?_
            refine g_lload K W at_214 rfl (pc' := 216) rfl ?_
            refine g_lload K W at_216 rfl (pc' := 218) rfl ?_
            refine g_ladd K W at_218 (pc' := 219) rfl ?_
            refine g_lstore K W at_219 (Ls' := #[.val (.long lx), .second, .val (.int xa), .val (.int xb), .val (.int xc), .val (.int md), .val (.long lm), .second, .val (.int (3 : Int32)), .val (.int gv), .val (.int hv), .val (.long v64), .second, .val (.long v72), .second, .val (.long v81), .second, .val (.long (v64 + (192 : Int64))), .second, .val (.long (v72 + (192 : Int64))), .second, .val (.long (v81 + (192 : Int64))), .second, .val (.ref bu), .val (.long ((((0 : Int64) + (v64 + (192 : Int64))) + (v72 + (192 : Int64))) + (v81 + (192 : Int64)))), .second, .val (.long (own_max (own_max (0 : Int64) (v64 + (192 : Int64))) (v72 + (192 : Int64)))), .second, .val (.ref c137), .val (.ref c168)]) rfl (pc' := 221) rfl ?_
            refine g_lload K W at_221 rfl (pc' := 223) rfl ?_
            refine g_lload K W at_223 rfl (pc' := 225) rfl ?_
            refine g_callS (c5 l Z a0 hw n0 _ W.sz (own_max (own_max (0 : Int64) (v64 + (192 : Int64))) (v72 + (192 : Int64))) (v81 + (192 : Int64))) K W (hw _ (List.mem_of_getElem? (i := 51) rfl)) (hw _ (List.mem_of_getElem? (i := 35) rfl)) (hw _ (List.mem_of_getElem? (i := 36) rfl)) (hw _ (List.mem_of_getElem? (i := 37) rfl)) (by decide) (lenOf pd_2 rfl) at_225 (pc' := 228) rfl (argsL := [(.long (own_max (own_max (0 : Int64) (v64 + (192 : Int64))) (v72 + (192 : Int64)))), (.long (v81 + (192 : Int64)))]) (rest := []) rfl rfl (by decide) (wt := 0) rfl (by decide) (by decide) (by decide) ?_
            rintro T _ _ W ⟨rfl, rfl⟩
            show Go p e below s n0 (Q_c0 Z n0 h0 lx xa xb xc md) 16 128 T (mkF m 228 #[.val (.long lx), .second, .val (.int xa), .val (.int xb), .val (.int xc), .val (.int md), .val (.long lm), .second, .val (.int (3 : Int32)), .val (.int gv), .val (.int hv), .val (.long v64), .second, .val (.long v72), .second, .val (.long v81), .second, .val (.long (v64 + (192 : Int64))), .second, .val (.long (v72 + (192 : Int64))), .second, .val (.long (v81 + (192 : Int64))), .second, .val (.ref bu), .val (.long ((((0 : Int64) + (v64 + (192 : Int64))) + (v72 + (192 : Int64))) + (v81 + (192 : Int64)))), .second, .val (.long (own_max (own_max (0 : Int64) (v64 + (192 : Int64))) (v72 + (192 : Int64)))), .second, .val (.ref c137), .val (.ref c168)] [(.long (own_max (own_max (own_max (0 : Int64) (v64 + (192 : Int64))) (v72 + (192 : Int64))) (v81 + (192 : Int64))))])
            refine g_lstore K W at_228 (Ls' := #[.val (.long lx), .second, .val (.int xa), .val (.int xb), .val (.int xc), .val (.int md), .val (.long lm), .second, .val (.int (3 : Int32)), .val (.int gv), .val (.int hv), .val (.long v64), .second, .val (.long v72), .second, .val (.long v81), .second, .val (.long (v64 + (192 : Int64))), .second, .val (.long (v72 + (192 : Int64))), .second, .val (.long (v81 + (192 : Int64))), .second, .val (.ref bu), .val (.long ((((0 : Int64) + (v64 + (192 : Int64))) + (v72 + (192 : Int64))) + (v81 + (192 : Int64)))), .second, .val (.long (own_max (own_max (own_max (0 : Int64) (v64 + (192 : Int64))) (v72 + (192 : Int64))) (v81 + (192 : Int64)))), .second, .val (.ref c137), .val (.ref c168)]) rfl (pc' := 230) rfl ?_
            refine g_iload K W at_230 rfl (pc' := 232) rfl ?_
            refine g_if_eq K W at_232 (pt := 252) rfl (pf := 235) rfl (fun hc232 => ?_) (fun hc232 => ?_)
            · refine g_lload K W at_252 rfl (pc' := 254) rfl ?_
              refine g_lload K W at_254 rfl (pc' := 256) rfl ?_
              refine g_lsub K W at_256 (pc' := 257) rfl ?_
              refine g_lload K W at_257 rfl (pc' := 259) rfl ?_
              refine g_lcmp_lt K W at_259 (pc1 := 260) rfl at_260 (pt := 267) rfl (pf := 263) rfl (fun hc259 => ?_) (fun hc259 => ?_)
              · refine g_iconst K W (v := (0 : Int32)) at_267 rfl (pc' := 268) rfl ?_
                refine g_istore K W at_268 (Ls' := #[.val (.long lx), .second, .val (.int xa), .val (.int xb), .val (.int xc), .val (.int md), .val (.long lm), .second, .val (.int (3 : Int32)), .val (.int gv), .val (.int hv), .val (.long v64), .second, .val (.long v72), .second, .val (.long v81), .second, .val (.long (v64 + (192 : Int64))), .second, .val (.long (v72 + (192 : Int64))), .second, .val (.long (v81 + (192 : Int64))), .second, .val (.ref bu), .val (.long ((((0 : Int64) + (v64 + (192 : Int64))) + (v72 + (192 : Int64))) + (v81 + (192 : Int64)))), .second, .val (.long (own_max (own_max (own_max (0 : Int64) (v64 + (192 : Int64))) (v72 + (192 : Int64))) (v81 + (192 : Int64)))), .second, .val (.ref c137), .val (.int (0 : Int32))]) rfl (pc' := 270) rfl ?_
                refine g_aload K W at_270 rfl rfl (pc' := 272) rfl ?_
                refine g_callV (c8 l Z a0 hw n0 _ W.sz bu lm ((((0 : Int64) + (v64 + (192 : Int64))) + (v72 + (192 : Int64))) + (v81 + (192 : Int64))) (own_max (own_max (own_max (0 : Int64) (v64 + (192 : Int64))) (v72 + (192 : Int64))) (v81 + (192 : Int64))) (tk' + (v81 + (192 : Int64))) X_bu F_bu_limit F_bu_charged F_bu_largestCharge F_bu_taken ge_bu) K W X_bu (hw _ (List.mem_of_getElem? (i := 52) rfl)) (hw _ (List.mem_of_getElem? (i := 53) rfl)) (hw _ (List.mem_of_getElem? (i := 55) rfl)) (hw _ (List.mem_of_getElem? (i := 55) rfl)) (hw _ (List.mem_of_getElem? (i := 54) rfl)) (hw _ (List.mem_of_getElem? (i := 3) rfl)) (hw _ (List.mem_of_getElem? (i := 56) rfl)) (by decide) (lenOf pd_3 rfl) at_272 (pc' := 275) rfl (argsL := []) (rest := []) rfl rfl (by decide) (wt := 0) rfl (by decide) (by decide) (by decide) ?_
                rintro T _ _ W ⟨rfl, rfl⟩
                show Go p e below s n0 (Q_c0 Z n0 h0 lx xa xb xc md) 16 128 T (mkF m 275 #[.val (.long lx), .second, .val (.int xa), .val (.int xb), .val (.int xc), .val (.int md), .val (.long lm), .second, .val (.int (3 : Int32)), .val (.int gv), .val (.int hv), .val (.long v64), .second, .val (.long v72), .second, .val (.long v81), .second, .val (.long (v64 + (192 : Int64))), .second, .val (.long (v72 + (192 : Int64))), .second, .val (.long (v81 + (192 : Int64))), .second, .val (.ref bu), .val (.long ((((0 : Int64) + (v64 + (192 : Int64))) + (v72 + (192 : Int64))) + (v81 + (192 : Int64)))), .second, .val (.long (own_max (own_max (own_max (0 : Int64) (v64 + (192 : Int64))) (v72 + (192 : Int64))) (v81 + (192 : Int64)))), .second, .val (.ref c137), .val (.int (0 : Int32))] [(.int (if ((((0 : Int64) + (v64 + (192 : Int64))) + (v72 + (192 : Int64))) + (v81 + (192 : Int64))) - (own_max (own_max (own_max (0 : Int64) (v64 + (192 : Int64))) (v72 + (192 : Int64))) (v81 + (192 : Int64))) < lm then (0 : Int32) else 1))])
                refine g_iload K W at_275 rfl (pc' := 277) rfl ?_
                refine g_icmp_ne K W at_277 (pt := 284) rfl (pf := 280) rfl (fun hc277 => ?_) (fun hc277 => absurd (if_pos hc259) hc277)
                refine g_iconst K W (v := (1 : Int32)) at_280 rfl (pc' := 281) rfl ?_
                refine g_goto K W at_281 (pt := 285) rfl ?_
                exact g_retN K W (by simp) at_285 (by decide) (by decide) (v := (1 : Int32)) rfl rfl
              · refine g_iconst K W (v := (1 : Int32)) at_263 rfl (pc' := 264) rfl ?_
                refine g_goto K W at_264 (pt := 268) rfl ?_
                refine g_istore K W at_268 (Ls' := #[.val (.long lx), .second, .val (.int xa), .val (.int xb), .val (.int xc), .val (.int md), .val (.long lm), .second, .val (.int (3 : Int32)), .val (.int gv), .val (.int hv), .val (.long v64), .second, .val (.long v72), .second, .val (.long v81), .second, .val (.long (v64 + (192 : Int64))), .second, .val (.long (v72 + (192 : Int64))), .second, .val (.long (v81 + (192 : Int64))), .second, .val (.ref bu), .val (.long ((((0 : Int64) + (v64 + (192 : Int64))) + (v72 + (192 : Int64))) + (v81 + (192 : Int64)))), .second, .val (.long (own_max (own_max (own_max (0 : Int64) (v64 + (192 : Int64))) (v72 + (192 : Int64))) (v81 + (192 : Int64)))), .second, .val (.ref c137), .val (.int (1 : Int32))]) rfl (pc' := 270) rfl ?_
                refine g_aload K W at_270 rfl rfl (pc' := 272) rfl ?_
                refine g_callV (c8 l Z a0 hw n0 _ W.sz bu lm ((((0 : Int64) + (v64 + (192 : Int64))) + (v72 + (192 : Int64))) + (v81 + (192 : Int64))) (own_max (own_max (own_max (0 : Int64) (v64 + (192 : Int64))) (v72 + (192 : Int64))) (v81 + (192 : Int64))) (tk' + (v81 + (192 : Int64))) X_bu F_bu_limit F_bu_charged F_bu_largestCharge F_bu_taken ge_bu) K W X_bu (hw _ (List.mem_of_getElem? (i := 52) rfl)) (hw _ (List.mem_of_getElem? (i := 53) rfl)) (hw _ (List.mem_of_getElem? (i := 55) rfl)) (hw _ (List.mem_of_getElem? (i := 55) rfl)) (hw _ (List.mem_of_getElem? (i := 54) rfl)) (hw _ (List.mem_of_getElem? (i := 3) rfl)) (hw _ (List.mem_of_getElem? (i := 56) rfl)) (by decide) (lenOf pd_3 rfl) at_272 (pc' := 275) rfl (argsL := []) (rest := []) rfl rfl (by decide) (wt := 0) rfl (by decide) (by decide) (by decide) ?_
                rintro T _ _ W ⟨rfl, rfl⟩
                show Go p e below s n0 (Q_c0 Z n0 h0 lx xa xb xc md) 16 128 T (mkF m 275 #[.val (.long lx), .second, .val (.int xa), .val (.int xb), .val (.int xc), .val (.int md), .val (.long lm), .second, .val (.int (3 : Int32)), .val (.int gv), .val (.int hv), .val (.long v64), .second, .val (.long v72), .second, .val (.long v81), .second, .val (.long (v64 + (192 : Int64))), .second, .val (.long (v72 + (192 : Int64))), .second, .val (.long (v81 + (192 : Int64))), .second, .val (.ref bu), .val (.long ((((0 : Int64) + (v64 + (192 : Int64))) + (v72 + (192 : Int64))) + (v81 + (192 : Int64)))), .second, .val (.long (own_max (own_max (own_max (0 : Int64) (v64 + (192 : Int64))) (v72 + (192 : Int64))) (v81 + (192 : Int64)))), .second, .val (.ref c137), .val (.int (1 : Int32))] [(.int (if ((((0 : Int64) + (v64 + (192 : Int64))) + (v72 + (192 : Int64))) + (v81 + (192 : Int64))) - (own_max (own_max (own_max (0 : Int64) (v64 + (192 : Int64))) (v72 + (192 : Int64))) (v81 + (192 : Int64))) < lm then (0 : Int32) else 1))])
                refine g_iload K W at_275 rfl (pc' := 277) rfl ?_
                refine g_icmp_ne K W at_277 (pt := 284) rfl (pf := 280) rfl (fun hc277 => ?_) (fun hc277 => absurd (if_neg hc259) hc277)
                refine g_iconst K W (v := (1 : Int32)) at_280 rfl (pc' := 281) rfl ?_
                refine g_goto K W at_281 (pt := 285) rfl ?_
                exact g_retN K W (by simp) at_285 (by decide) (by decide) (v := (1 : Int32)) rfl rfl
            · refine g_aload K W at_235 rfl rfl (pc' := 237) rfl ?_
              refine g_ifnull_f K W at_237 (pf := 240) rfl ?_
              refine g_aload K W at_240 rfl rfl (pc' := 242) rfl ?_
              refine g_callV (c10 l Z a0 hw n0 _ W.sz c137 bu (v64 + (192 : Int64)) (0 : Int32) lm ((((0 : Int64) + (v64 + (192 : Int64))) + (v72 + (192 : Int64))) + (v81 + (192 : Int64))) (own_max (own_max (own_max (0 : Int64) (v64 + (192 : Int64))) (v72 + (192 : Int64))) (v81 + (192 : Int64))) (tk' + (v81 + (192 : Int64))) X_c137 F_c137_taken F_c137_budget F_c137_octets F_c137_places ge_c137 X_bu F_bu_limit F_bu_charged F_bu_largestCharge F_bu_taken ge_bu ne_c137_bu ne_bu_c137) K W X_c137 (hw _ (List.mem_of_getElem? (i := 67) rfl)) (hw _ (List.mem_of_getElem? (i := 68) rfl)) (hw _ (List.mem_of_getElem? (i := 70) rfl)) (hw _ (List.mem_of_getElem? (i := 70) rfl)) (hw _ (List.mem_of_getElem? (i := 69) rfl)) (hw _ (List.mem_of_getElem? (i := 19) rfl)) (hw _ (List.mem_of_getElem? (i := 71) rfl)) (by decide) (lenOf pd_5 rfl) at_242 (pc' := 245) rfl (argsL := []) (rest := []) rfl rfl (by decide) (wt := 0) rfl (by decide) (by decide) (by decide) ?_
              rintro T h _ W ⟨rfl, kq, F_bu_limit, F_bu_charged, F_bu_largestCharge, F_bu_taken⟩
              show Go p e below s n0 (Q_c0 Z n0 h0 lx xa xb xc md) 16 128 T (mkF m 245 #[.val (.long lx), .second, .val (.int xa), .val (.int xb), .val (.int xc), .val (.int md), .val (.long lm), .second, .val (.int (3 : Int32)), .val (.int gv), .val (.int hv), .val (.long v64), .second, .val (.long v72), .second, .val (.long v81), .second, .val (.long (v64 + (192 : Int64))), .second, .val (.long (v72 + (192 : Int64))), .second, .val (.long (v81 + (192 : Int64))), .second, .val (.ref bu), .val (.long ((((0 : Int64) + (v64 + (192 : Int64))) + (v72 + (192 : Int64))) + (v81 + (192 : Int64)))), .second, .val (.long (own_max (own_max (own_max (0 : Int64) (v64 + (192 : Int64))) (v72 + (192 : Int64))) (v81 + (192 : Int64)))), .second, .val (.ref c137), .val (.ref c168)] [])
              have X_bu := X_bu.keep kq
              have X_c137 := X_c137.keep kq
              have X_c168 := X_c168.keep kq
              have X_c210 := X_c210.keep kq
              have F_c210_taken := F_c210_taken.keep kq (ninS ne_c210_c137 (ninS ne_c210_bu nin0))
              have F_c210_budget := F_c210_budget.keep kq (ninS ne_c210_c137 (ninS ne_c210_bu nin0))
              have F_c210_octets := F_c210_octets.keep kq (ninS ne_c210_c137 (ninS ne_c210_bu nin0))
              have F_c210_places := F_c210_places.keep kq (ninS ne_c210_c137 (ninS ne_c210_bu nin0))
              refine g_lload K W at_245 rfl (pc' := 247) rfl ?_
              refine g_lload K W at_247 rfl (pc' := 249) rfl ?_
              refine g_lsub K W at_249 (pc' := 250) rfl ?_
              refine g_lstore K W at_250 (Ls' := #[.val (.long lx), .second, .val (.int xa), .val (.int xb), .val (.int xc), .val (.int md), .val (.long lm), .second, .val (.int (3 : Int32)), .val (.int gv), .val (.int hv), .val (.long v64), .second, .val (.long v72), .second, .val (.long v81), .second, .val (.long (v64 + (192 : Int64))), .second, .val (.long (v72 + (192 : Int64))), .second, .val (.long (v81 + (192 : Int64))), .second, .val (.ref bu), .val (.long (((((0 : Int64) + (v64 + (192 : Int64))) + (v72 + (192 : Int64))) + (v81 + (192 : Int64))) - (v64 + (192 : Int64)))), .second, .val (.long (own_max (own_max (own_max (0 : Int64) (v64 + (192 : Int64))) (v72 + (192 : Int64))) (v81 + (192 : Int64)))), .second, .val (.ref c137), .val (.ref c168)]) rfl (pc' := 252) rfl ?_
              refine g_lload K W at_252 rfl (pc' := 254) rfl ?_
              refine g_lload K W at_254 rfl (pc' := 256) rfl ?_
              refine g_lsub K W at_256 (pc' := 257) rfl ?_
              refine g_lload K W at_257 rfl (pc' := 259) rfl ?_
              refine g_lcmp_lt K W at_259 (pc1 := 260) rfl at_260 (pt := 267) rfl (pf := 263) rfl (fun hc259 => ?_) (fun hc259 => ?_)
              · refine g_iconst K W (v := (0 : Int32)) at_267 rfl (pc' := 268) rfl ?_
                refine g_istore K W at_268 (Ls' := #[.val (.long lx), .second, .val (.int xa), .val (.int xb), .val (.int xc), .val (.int md), .val (.long lm), .second, .val (.int (3 : Int32)), .val (.int gv), .val (.int hv), .val (.long v64), .second, .val (.long v72), .second, .val (.long v81), .second, .val (.long (v64 + (192 : Int64))), .second, .val (.long (v72 + (192 : Int64))), .second, .val (.long (v81 + (192 : Int64))), .second, .val (.ref bu), .val (.long (((((0 : Int64) + (v64 + (192 : Int64))) + (v72 + (192 : Int64))) + (v81 + (192 : Int64))) - (v64 + (192 : Int64)))), .second, .val (.long (own_max (own_max (own_max (0 : Int64) (v64 + (192 : Int64))) (v72 + (192 : Int64))) (v81 + (192 : Int64)))), .second, .val (.ref c137), .val (.int (0 : Int32))]) rfl (pc' := 270) rfl ?_
                refine g_aload K W at_270 rfl rfl (pc' := 272) rfl ?_
                refine g_callV (c8 l Z a0 hw n0 _ W.sz bu lm (((((0 : Int64) + (v64 + (192 : Int64))) + (v72 + (192 : Int64))) + (v81 + (192 : Int64))) - (v64 + (192 : Int64))) (own_max (own_max (own_max (0 : Int64) (v64 + (192 : Int64))) (v72 + (192 : Int64))) (v81 + (192 : Int64))) ((tk' + (v81 + (192 : Int64))) - (v64 + (192 : Int64))) X_bu F_bu_limit F_bu_charged F_bu_largestCharge F_bu_taken ge_bu) K W X_bu (hw _ (List.mem_of_getElem? (i := 52) rfl)) (hw _ (List.mem_of_getElem? (i := 53) rfl)) (hw _ (List.mem_of_getElem? (i := 55) rfl)) (hw _ (List.mem_of_getElem? (i := 55) rfl)) (hw _ (List.mem_of_getElem? (i := 54) rfl)) (hw _ (List.mem_of_getElem? (i := 3) rfl)) (hw _ (List.mem_of_getElem? (i := 56) rfl)) (by decide) (lenOf pd_3 rfl) at_272 (pc' := 275) rfl (argsL := []) (rest := []) rfl rfl (by decide) (wt := 0) rfl (by decide) (by decide) (by decide) ?_
                rintro T _ _ W ⟨rfl, rfl⟩
                show Go p e below s n0 (Q_c0 Z n0 h0 lx xa xb xc md) 16 128 T (mkF m 275 #[.val (.long lx), .second, .val (.int xa), .val (.int xb), .val (.int xc), .val (.int md), .val (.long lm), .second, .val (.int (3 : Int32)), .val (.int gv), .val (.int hv), .val (.long v64), .second, .val (.long v72), .second, .val (.long v81), .second, .val (.long (v64 + (192 : Int64))), .second, .val (.long (v72 + (192 : Int64))), .second, .val (.long (v81 + (192 : Int64))), .second, .val (.ref bu), .val (.long (((((0 : Int64) + (v64 + (192 : Int64))) + (v72 + (192 : Int64))) + (v81 + (192 : Int64))) - (v64 + (192 : Int64)))), .second, .val (.long (own_max (own_max (own_max (0 : Int64) (v64 + (192 : Int64))) (v72 + (192 : Int64))) (v81 + (192 : Int64)))), .second, .val (.ref c137), .val (.int (0 : Int32))] [(.int (if (((((0 : Int64) + (v64 + (192 : Int64))) + (v72 + (192 : Int64))) + (v81 + (192 : Int64))) - (v64 + (192 : Int64))) - (own_max (own_max (own_max (0 : Int64) (v64 + (192 : Int64))) (v72 + (192 : Int64))) (v81 + (192 : Int64))) < lm then (0 : Int32) else 1))])
                refine g_iload K W at_275 rfl (pc' := 277) rfl ?_
                refine g_icmp_ne K W at_277 (pt := 284) rfl (pf := 280) rfl (fun hc277 => ?_) (fun hc277 => absurd (if_pos hc259) hc277)
                refine g_iconst K W (v := (1 : Int32)) at_280 rfl (pc' := 281) rfl ?_
                refine g_goto K W at_281 (pt := 285) rfl ?_
                exact g_retN K W (by simp) at_285 (by decide) (by decide) (v := (1 : Int32)) rfl rfl
              · refine g_iconst K W (v := (1 : Int32)) at_263 rfl (pc' := 264) rfl ?_
                refine g_goto K W at_264 (pt := 268) rfl ?_
                refine g_istore K W at_268 (Ls' := #[.val (.long lx), .second, .val (.int xa), .val (.int xb), .val (.int xc), .val (.int md), .val (.long lm), .second, .val (.int (3 : Int32)), .val (.int gv), .val (.int hv), .val (.long v64), .second, .val (.long v72), .second, .val (.long v81), .second, .val (.long (v64 + (192 : Int64))), .second, .val (.long (v72 + (192 : Int64))), .second, .val (.long (v81 + (192 : Int64))), .second, .val (.ref bu), .val (.long (((((0 : Int64) + (v64 + (192 : Int64))) + (v72 + (192 : Int64))) + (v81 + (192 : Int64))) - (v64 + (192 : Int64)))), .second, .val (.long (own_max (own_max (own_max (0 : Int64) (v64 + (192 : Int64))) (v72 + (192 : Int64))) (v81 + (192 : Int64)))), .second, .val (.ref c137), .val (.int (1 : Int32))]) rfl (pc' := 270) rfl ?_
                refine g_aload K W at_270 rfl rfl (pc' := 272) rfl ?_
                refine g_callV (c8 l Z a0 hw n0 _ W.sz bu lm (((((0 : Int64) + (v64 + (192 : Int64))) + (v72 + (192 : Int64))) + (v81 + (192 : Int64))) - (v64 + (192 : Int64))) (own_max (own_max (own_max (0 : Int64) (v64 + (192 : Int64))) (v72 + (192 : Int64))) (v81 + (192 : Int64))) ((tk' + (v81 + (192 : Int64))) - (v64 + (192 : Int64))) X_bu F_bu_limit F_bu_charged F_bu_largestCharge F_bu_taken ge_bu) K W X_bu (hw _ (List.mem_of_getElem? (i := 52) rfl)) (hw _ (List.mem_of_getElem? (i := 53) rfl)) (hw _ (List.mem_of_getElem? (i := 55) rfl)) (hw _ (List.mem_of_getElem? (i := 55) rfl)) (hw _ (List.mem_of_getElem? (i := 54) rfl)) (hw _ (List.mem_of_getElem? (i := 3) rfl)) (hw _ (List.mem_of_getElem? (i := 56) rfl)) (by decide) (lenOf pd_3 rfl) at_272 (pc' := 275) rfl (argsL := []) (rest := []) rfl rfl (by decide) (wt := 0) rfl (by decide) (by decide) (by decide) ?_
                rintro T _ _ W ⟨rfl, rfl⟩
                show Go p e below s n0 (Q_c0 Z n0 h0 lx xa xb xc md) 16 128 T (mkF m 275 #[.val (.long lx), .second, .val (.int xa), .val (.int xb), .val (.int xc), .val (.int md), .val (.long lm), .second, .val (.int (3 : Int32)), .val (.int gv), .val (.int hv), .val (.long v64), .second, .val (.long v72), .second, .val (.long v81), .second, .val (.long (v64 + (192 : Int64))), .second, .val (.long (v72 + (192 : Int64))), .second, .val (.long (v81 + (192 : Int64))), .second, .val (.ref bu), .val (.long (((((0 : Int64) + (v64 + (192 : Int64))) + (v72 + (192 : Int64))) + (v81 + (192 : Int64))) - (v64 + (192 : Int64)))), .second, .val (.long (own_max (own_max (own_max (0 : Int64) (v64 + (192 : Int64))) (v72 + (192 : Int64))) (v81 + (192 : Int64)))), .second, .val (.ref c137), .val (.int (1 : Int32))] [(.int (if (((((0 : Int64) + (v64 + (192 : Int64))) + (v72 + (192 : Int64))) + (v81 + (192 : Int64))) - (v64 + (192 : Int64))) - (own_max (own_max (own_max (0 : Int64) (v64 + (192 : Int64))) (v72 + (192 : Int64))) (v81 + (192 : Int64))) < lm then (0 : Int32) else 1))])
                refine g_iload K W at_275 rfl (pc' := 277) rfl ?_
                refine g_icmp_ne K W at_277 (pt := 284) rfl (pf := 280) rfl (fun hc277 => ?_) (fun hc277 => absurd (if_neg hc259) hc277)
                refine g_iconst K W (v := (1 : Int32)) at_280 rfl (pc' := 281) rfl ?_
                refine g_goto K W at_281 (pt := 285) rfl ?_
                exact g_retN K W (by simp) at_285 (by decide) (by decide) (v := (1 : Int32)) rfl rfl
      refine g_if_eq K W at_48 (pt := 55) rfl (pf := 51) rfl (fun hc48 => ?_) (fun hc48 => ?_)
      · refine g_iconst K W (v := (0 : Int32)) at_55 rfl (pc' := 56) rfl ?_
        exact hJc _ trivial
      · refine g_iconst K W (v := (1 : Int32)) at_51 rfl (pc' := 52) rfl ?_
        refine g_goto K W at_52 (pt := 56) rfl ?_
        exact hJc _ trivial
    refine g_if_eq K W at_32 (pt := 39) rfl (pf := 35) rfl (fun hc32 => ?_) (fun hc32 => ?_)
    · refine g_iconst K W (v := (0 : Int32)) at_39 rfl (pc' := 40) rfl ?_
      exact hJb _ trivial
    · refine g_iconst K W (v := (1 : Int32)) at_35 rfl (pc' := 36) rfl ?_
      refine g_goto K W at_36 (pt := 40) rfl ?_
      exact hJb _ trivial
  refine g_if_eq K W at_4 (pt := 11) rfl (pf := 7) rfl (fun hc4 => ?_) (fun hc4 => ?_)
  · refine g_lloadN K W at_11 rfl (pc' := 12) rfl ?_
    refine g_ldc2 K W (v := (4096 : Int64)) (hw _ (List.mem_of_getElem? (i := 57) rfl)) at_12 (pc' := 15) rfl ?_
    refine g_lrem K W (by decide) at_15 (pc' := 16) rfl ?_
    exact hJa _ trivial
  · refine g_lloadN K W at_7 rfl (pc' := 8) rfl ?_
    refine g_goto K W at_8 (pt := 16) rfl ?_
    exact hJa _ trivial
set_option maxHeartbeats 40000000 in
theorem comes_1 {Post : Tables → Env → Array Value → State → Outcome → State → Prop} (hpost : ∀ tb e args s v u, (limb_1_1.after args s (.returned v) u = true ∧ limb_1_2.after args s (.returned v) u = true ∧ True) → FrameEnd s (.returned v) u (Jvm.fieldLocs frame_1_writes args s ++ Jvm.arrayLocs frame_1_arrays args s ++ Jvm.staticLocs frame_1_statics s) 16 128 → Post tb e args s (.returned v) u) :
    ArmFor flags0 classFile x code maxLocals ret World_1 tables_1 room_1 Calls_1 rest_1 Pre_1 Post := by
  intro l hfl _ _ p e ha hc hk s m args below hf hA hF happ hP
  obtain ⟨hcalls, hrest, hpre⟩ := hP
  obtain ⟨-, -, -, hnamed, -, -, -, hat⟩ := (Spec.applies_iff hf).mp happ
  obtain ⟨hg, hn⟩ := and_e (Cond.before_iff.mp (show (Jvm.Cond.and given_1 narrow_1).before args s = true from hpre))
  obtain ⟨hcnt, hg⟩ := and_e hg
  obtain ⟨hi0, hg⟩ := and_e hg
  obtain ⟨hi1, hg⟩ := and_e hg
  obtain ⟨hi2, hg⟩ := and_e hg
  obtain ⟨hi3, hg⟩ := and_e hg
  have hi4 := hg
  obtain ⟨w0, w1, w2, w3, w4, rfl⟩ : ∃ w0 w1 w2 w3 w4 : Value, args = #[w0, w1, w2, w3, w4] := by
    have hs : args.size = 5 := by simpa [Cond.value, given_1] using hcnt
    obtain ⟨L⟩ := args
    match L, hs with
    | [w0, w1, w2, w3, w4], _ => exact ⟨w0, w1, w2, w3, w4, rfl⟩
  have hw := fun d (hd : d ∈ tables_1) => atoms_spec (ws := Jvm.Cond.code x code maxLocals ret :: tables_1) hat d (List.mem_cons_of_mem _ hd)
  obtain ⟨i0, ei0⟩ := isL_v hi0
  obtain rfl : w0 = (.long i0) := Option.some.inj ei0
  obtain ⟨i1, ei1⟩ := is_v hi1
  obtain rfl : w1 = (.int i1) := Option.some.inj ei1
  obtain ⟨i2, ei2⟩ := is_v hi2
  obtain rfl : w2 = (.int i2) := Option.some.inj ei2
  obtain ⟨i3, ei3⟩ := is_v hi3
  obtain rfl : w3 = (.int i3) := Option.some.inj ei3
  obtain ⟨i4, ei4⟩ := is_v hi4
  obtain rfl : w4 = (.int i4) := Option.some.inj ei4
  obtain ⟨n, o, h1, h2, h3, v, L, rfl, ⟨hv, N⟩, hq⟩ := c0 l s _ hw s.heap.size s.heap (Nat.le_refl _) i0 i1 i2 i3 i4 tables_1 p e ha hc hk s m _ below hf ((Spec.applies_iff_loose hf).mp happ).1 ⟨rfl, State.Warmed39.refl s, rfl⟩ trivial
  obtain rfl : v = some (.int 1) := hv
  refine ⟨n, _, h1, h2, h3, hpost _ _ _ _ _ _ ⟨Cond.after_iff.mpr rfl, Cond.after_iff.mpr (eq_i res_at (Term.int_eval (1)) rfl), trivial⟩ ⟨hq.1, hq.2.1, (hq.2.2.sift fun y hy => Or.inr (N y hy)).mono (by decide) (by decide)⟩⟩
theorem main_1_1 : Claimed_1_1 := comes_1 fun _ _ _ _ _ _ h hF => ⟨h.1, hF⟩
theorem main_1_2 : Claimed_1_2 := comes_1 fun _ _ _ _ _ _ h hF => ⟨h.2.1, hF⟩
end Jvm.Pilot.@@N@@
namespace Jvm.Pilot.@@N@@
open Jvm Jvm.ClassFile Sem Op Lib Jvm.Free Jvm.Stand Jvm.Pilot.@@N@@.Jvm.D
/-! MADE BY PROGRAM (witnessworld.py) out of the Statement's table words and the real class files: 11 classes; the members and pool entries that the words name. The judged class is class 1, her method 1. -/
namespace start1
open Jvm.ClassFile
def u (s : String) : CpInfo := .utf8 (stringToUtf16 s)
/-- a pool by its gaps: so many unusable entries, then the entry; so many at the end -/
def gap : Nat → List CpInfo → List CpInfo
  | 0, r => r
  | n + 1, r => .unusable :: gap n r
def poolList (es : List (Nat × CpInfo)) (last : Nat) : List CpInfo := es.foldr (fun e r => gap e.1 (e.2 :: r)) (gap last [])
def pool (es : List (Nat × CpInfo)) (last : Nat) : Array CpInfo := ⟨poolList es last⟩
def fileOf (pool : Array CpInfo) (this : Nat) (attrs : Array Attribute := #[]) (ms : Array MethodInfo := #[]) (fl : Nat := 33) (sup : Nat := 0) (ifs : Array Nat := #[]) (fds : Array FieldInfo := #[]) : ClassFile where
  minorVersion := 0
  majorVersion := 65
  constantPool := pool
  accessFlags := fl
  thisClass := this
  superClass := sup
  interfaces := ifs
  fields := fds
  methods := ms
  attributes := attrs
def plain (name : String) (sup : Option ClassId) : Class where
  name := name
  kind := .ordinary
  loader := none
  accessFlags := 33
  super := sup
  interfaces := #[]
  cf := none
  fields := #[]
  methods := #[]
  instanceTypes := #[]
  staticTypes := #[]
  resolved := #[]
  callSites := []
  init := .initialized
  statics := none
  mirror := none

def pool0 : Array CpInfo := pool [(5, u "<init>"), (0, u "()V"), (1, .class_ 10), (1, u "java/lang/Object")] 113

def k0c0 : Code := { maxStack := 0, maxLocals := 1, code := object_method_1_code, exceptionTable := #[], attributes := #[] }
def k0m0 : Method := { name := "<init>", desc := "()V", sig := { parameters := [], returnType := none }, accessFlags := 1, code := some k0c0 }
/-- java/lang/Object -/
def k0 : Class := { plain "java/lang/Object" none with
  accessFlags := 33
  interfaces := #[]
  cf := some (fileOf pool0 8 #[] #[{ accessFlags := 1, nameIndex := 5, descriptorIndex := 6, attributes := #[] }] 33 0 #[] #[])
  fields := #[]
  methods := #[k0m0]
  instanceTypes := #[]
  staticTypes := #[]
  resolved := Array.replicate 124 none
  statics := none }

def pool1 : Array CpInfo := pool [(2, .class_ 4), (1, u "java/lang/Object"), (0, u "<init>"), (0, u "()V"), (0, .long 4096), (1, .long 192), (1, .class_ 12), (0, u "com/example/fanout/fanout/server/MemoryBudget"), (0, .methodref 11 14), (0, .nameAndType 5 15), (0, u "(J)V"), (0, .methodref 11 17), (0, .nameAndType 18 19), (0, u "charge"), (0, u "(J)Lcom/example/fanout/fanout/server/MemoryBudget$Charge;"), (0, .methodref 21 22), (0, .class_ 23), (0, .nameAndType 24 25), (0, u "java/lang/Math"), (0, u "max"), (0, u "(JJ)J"), (0, .methodref 27 28), (0, .class_ 29), (0, .nameAndType 30 31), (0, u "com/example/fanout/fanout/server/MemoryBudget$Charge"), (0, u "hold"), (0, u "(I)V"), (0, .methodref 27 33), (0, .nameAndType 34 6), (0, u "giveBack"), (0, .methodref 11 36), (0, .nameAndType 37 38), (0, u "isOverdrawn"), (0, u "()Z"), (0, .class_ 40), (0, u "com/example/fanout/fanout/server/MemoryBudgetIsOverdrawnPinLaw"), (2, u "law"), (0, u "(JIIII)Z")] 5

def k1m0 : Method := { name := "<init>", desc := "()V", sig := { parameters := [], returnType := none }, accessFlags := 1, code := none }
def k1c1 : Code := { maxStack := 4, maxLocals := 30, code := code, exceptionTable := #[], attributes := #[] }
def k1m1 : Method := { name := "law", desc := "(JIIII)Z", sig := { parameters := [.long, .int, .int, .int, .int], returnType := some .boolean }, accessFlags := 9, code := some k1c1 }
/-- com/example/fanout/fanout/server/MemoryBudgetIsOverdrawnPinLaw -/
def k1 : Class := { plain "com/example/fanout/fanout/server/MemoryBudgetIsOverdrawnPinLaw" (some 0) with
  accessFlags := 49
  interfaces := #[]
  cf := some (fileOf pool1 39 #[] #[{ accessFlags := 1, nameIndex := 5, descriptorIndex := 6, attributes := #[] }, { accessFlags := 9, nameIndex := 43, descriptorIndex := 44, attributes := #[] }] 49 2 #[] #[])
  fields := #[]
  methods := #[k1m0, k1m1]
  instanceTypes := #[]
  staticTypes := #[]
  resolved := Array.replicate 50 none
  statics := none }

def pool2 : Array CpInfo := pool [(1, .methodref 2 3), (0, .class_ 4), (0, .nameAndType 5 6), (0, u "java/lang/Object"), (0, u "<init>"), (0, u "()V"), (0, .fieldref 8 9), (0, .class_ 10), (0, .nameAndType 11 12), (0, u "com/example/fanout/fanout/server/MemoryBudget"), (0, u "limit"), (0, u "J"), (0, .fieldref 8 14), (0, .nameAndType 15 12), (0, u "taken"), (0, .fieldref 8 17), (0, .nameAndType 18 12), (0, u "charged"), (0, .fieldref 8 20), (0, .nameAndType 21 12), (0, u "largestCharge"), (6, .class_ 29), (0, u "com/example/fanout/fanout/server/MemoryBudget$Charge"), (0, .long 192), (1, .methodref 28 33), (0, .nameAndType 5 34), (0, u "(Lcom/example/fanout/fanout/server/MemoryBudget;J)V"), (0, .fieldref 28 36), (0, .nameAndType 37 12), (0, u "octets"), (0, .methodref 39 40), (0, .class_ 41), (0, .nameAndType 42 43), (0, u "java/lang/Math"), (0, u "max"), (0, u "(JJ)J"), (0, .methodref 8 45), (0, .nameAndType 46 47), (0, u "takeCharge"), (0, u "(J)V"), (0, .methodref 8 49), (0, .nameAndType 50 47), (0, u "take"), (0, .methodref 8 52), (0, .nameAndType 53 47), (0, u "give"), (0, u "MESSAGE_OVERHEAD"), (1, u "PLACE_OVERHEAD"), (5, u "isOverdrawn"), (0, u "()Z"), (3, u "charge"), (0, u "(J)Lcom/example/fanout/fanout/server/MemoryBudget$Charge;"), (0, u "giveCharge")] 5

def k2c0 : Code := { maxStack := 3, maxLocals := 3, code := prog_9_method_1_code, exceptionTable := #[], attributes := #[] }
def k2m0 : Method := { name := "<init>", desc := "(J)V", sig := { parameters := [.long], returnType := none }, accessFlags := 0, code := some k2c0 }
def k2c1 : Code := { maxStack := 4, maxLocals := 1, code := prog_9_method_4_code, exceptionTable := #[], attributes := #[] }
def k2m1 : Method := { name := "isOverdrawn", desc := "()Z", sig := { parameters := [], returnType := some .boolean }, accessFlags := 0, code := some k2c1 }
def k2c2 : Code := { maxStack := 7, maxLocals := 4, code := prog_9_method_6_code, exceptionTable := #[], attributes := #[] }
def k2m2 : Method := { name := "charge", desc := "(J)Lcom/example/fanout/fanout/server/MemoryBudget$Charge;", sig := { parameters := [.long], returnType := some (.object "com/example/fanout/fanout/server/MemoryBudget$Charge") }, accessFlags := 0, code := some k2c2 }
def k2c3 : Code := { maxStack := 5, maxLocals := 3, code := prog_9_method_7_code, exceptionTable := #[], attributes := #[] }
def k2m3 : Method := { name := "take", desc := "(J)V", sig := { parameters := [.long], returnType := none }, accessFlags := 0, code := some k2c3 }
def k2c4 : Code := { maxStack := 5, maxLocals := 3, code := prog_9_method_8_code, exceptionTable := #[], attributes := #[] }
def k2m4 : Method := { name := "give", desc := "(J)V", sig := { parameters := [.long], returnType := none }, accessFlags := 0, code := some k2c4 }
def k2c5 : Code := { maxStack := 5, maxLocals := 3, code := prog_9_method_9_code, exceptionTable := #[], attributes := #[] }
def k2m5 : Method := { name := "takeCharge", desc := "(J)V", sig := { parameters := [.long], returnType := none }, accessFlags := 2, code := some k2c5 }
def k2c6 : Code := { maxStack := 5, maxLocals := 3, code := prog_9_method_10_code, exceptionTable := #[], attributes := #[] }
def k2m6 : Method := { name := "giveCharge", desc := "(J)V", sig := { parameters := [.long], returnType := none }, accessFlags := 2, code := some k2c6 }
/-- com/example/fanout/fanout/server/MemoryBudget -/
def k2 : Class := { plain "com/example/fanout/fanout/server/MemoryBudget" (some 0) with
  accessFlags := 48
  interfaces := #[]
  cf := some (fileOf pool2 8 #[.nestMembers #[28]] #[{ accessFlags := 0, nameIndex := 5, descriptorIndex := 47, attributes := #[] }, { accessFlags := 0, nameIndex := 62, descriptorIndex := 63, attributes := #[] }, { accessFlags := 0, nameIndex := 67, descriptorIndex := 68, attributes := #[] }, { accessFlags := 0, nameIndex := 50, descriptorIndex := 47, attributes := #[] }, { accessFlags := 0, nameIndex := 53, descriptorIndex := 47, attributes := #[] }, { accessFlags := 2, nameIndex := 46, descriptorIndex := 47, attributes := #[] }, { accessFlags := 2, nameIndex := 69, descriptorIndex := 47, attributes := #[] }] 48 2 #[] #[{ accessFlags := 26, nameIndex := 54, descriptorIndex := 12, attributes := #[] }, { accessFlags := 26, nameIndex := 56, descriptorIndex := 12, attributes := #[] }, { accessFlags := 18, nameIndex := 11, descriptorIndex := 12, attributes := #[] }, { accessFlags := 2, nameIndex := 15, descriptorIndex := 12, attributes := #[] }, { accessFlags := 2, nameIndex := 18, descriptorIndex := 12, attributes := #[] }, { accessFlags := 2, nameIndex := 21, descriptorIndex := 12, attributes := #[] }])
  fields := #[{ name := "MESSAGE_OVERHEAD", type := .long, accessFlags := 26, slot := 0, constantValue := 0 }, { name := "PLACE_OVERHEAD", type := .long, accessFlags := 26, slot := 1, constantValue := 0 }, { name := "limit", type := .long, accessFlags := 18, slot := 0, constantValue := 0 }, { name := "taken", type := .long, accessFlags := 2, slot := 1, constantValue := 0 }, { name := "charged", type := .long, accessFlags := 2, slot := 2, constantValue := 0 }, { name := "largestCharge", type := .long, accessFlags := 2, slot := 3, constantValue := 0 }]
  methods := #[k2m0, k2m1, k2m2, k2m3, k2m4, k2m5, k2m6]
  instanceTypes := #[.long, .long, .long, .long]
  staticTypes := #[.long, .long]
  resolved := (((Array.replicate 75 none).setIfInBounds 28 (some (.cls 3))).setIfInBounds 32 (some (.method ⟨3, 0⟩))).setIfInBounds 35 (some (.field 3 1))
  statics := none }

def pool3 : Array CpInfo := pool [(1, .class_ 2), (0, u "com/example/fanout/fanout/server/MemoryBudget"), (0, .methodref 4 5), (0, .class_ 6), (0, .nameAndType 7 8), (0, u "java/lang/Object"), (0, u "<init>"), (0, u "()V"), (0, .fieldref 10 11), (0, .class_ 12), (0, .nameAndType 13 14), (0, u "com/example/fanout/fanout/server/MemoryBudget$Charge"), (0, u "taken"), (0, u "Z"), (0, .fieldref 10 16), (0, .nameAndType 17 18), (0, u "budget"), (0, u "Lcom/example/fanout/fanout/server/MemoryBudget;"), (0, .fieldref 10 20), (0, .nameAndType 21 22), (0, u "octets"), (0, u "J"), (0, .methodref 1 24), (0, .nameAndType 25 26), (0, u "takeCharge"), (0, u "(J)V"), (0, .fieldref 10 28), (0, .nameAndType 29 30), (0, u "places"), (0, u "I"), (0, .long 256), (1, .methodref 1 34), (0, .nameAndType 35 26), (0, u "take"), (0, .methodref 10 37), (0, .nameAndType 38 8), (0, u "giveBack"), (3, .methodref 1 43), (0, .nameAndType 44 26), (0, u "giveCharge"), (0, u "(Lcom/example/fanout/fanout/server/MemoryBudget;J)V"), (2, u "hold"), (0, u "(I)V")] 7

def k3c0 : Code := { maxStack := 3, maxLocals := 4, code := prog_10_method_1_code, exceptionTable := #[], attributes := #[] }
def k3m0 : Method := { name := "<init>", desc := "(Lcom/example/fanout/fanout/server/MemoryBudget;J)V", sig := { parameters := [(.object "com/example/fanout/fanout/server/MemoryBudget"), .long], returnType := none }, accessFlags := 2, code := some k3c0 }
def k3c1 : Code := { maxStack := 5, maxLocals := 2, code := prog_10_method_2_code, exceptionTable := #[], attributes := #[] }
def k3m1 : Method := { name := "hold", desc := "(I)V", sig := { parameters := [.int], returnType := none }, accessFlags := 0, code := some k3c1 }
def k3c2 : Code := { maxStack := 3, maxLocals := 1, code := prog_10_method_4_code, exceptionTable := #[], attributes := #[] }
def k3m2 : Method := { name := "giveBack", desc := "()V", sig := { parameters := [], returnType := none }, accessFlags := 0, code := some k3c2 }
/-- com/example/fanout/fanout/server/MemoryBudget$Charge -/
def k3 : Class := { plain "com/example/fanout/fanout/server/MemoryBudget$Charge" (some 0) with
  accessFlags := 48
  interfaces := #[]
  cf := some (fileOf pool3 10 #[.nestHost 1] #[{ accessFlags := 2, nameIndex := 7, descriptorIndex := 45, attributes := #[] }, { accessFlags := 0, nameIndex := 48, descriptorIndex := 49, attributes := #[] }, { accessFlags := 0, nameIndex := 38, descriptorIndex := 8, attributes := #[] }] 48 4 #[] #[{ accessFlags := 18, nameIndex := 17, descriptorIndex := 18, attributes := #[] }, { accessFlags := 18, nameIndex := 21, descriptorIndex := 22, attributes := #[] }, { accessFlags := 2, nameIndex := 29, descriptorIndex := 30, attributes := #[] }, { accessFlags := 2, nameIndex := 13, descriptorIndex := 14, attributes := #[] }])
  fields := #[{ name := "budget", type := (.object "com/example/fanout/fanout/server/MemoryBudget"), accessFlags := 18, slot := 0, constantValue := 0 }, { name := "octets", type := .long, accessFlags := 18, slot := 1, constantValue := 0 }, { name := "places", type := .int, accessFlags := 2, slot := 2, constantValue := 0 }, { name := "taken", type := .boolean, accessFlags := 2, slot := 3, constantValue := 0 }]
  methods := #[k3m0, k3m1, k3m2]
  instanceTypes := #[(.object "com/example/fanout/fanout/server/MemoryBudget"), .long, .int, .boolean]
  staticTypes := #[]
  resolved := Array.replicate 57 none
  statics := none }

def pool4 : Array CpInfo := pool [(1, .class_ 2), (0, u "java/lang/Math"), (1, .class_ 6), (1, u "java/lang/Object"), (0, u "<init>"), (0, u "()V"), (89, .class_ 100), (1, u "java/lang/Math$RandomNumberGeneratorHolder"), (20, u "(JJ)J"), (50, u "negativeZeroFloatBits"), (0, u "J"), (2, u "negativeZeroDoubleBits"), (21, u "max"), (46, u "$assertionsDisabled"), (0, u "Z"), (91, u "twoToTheDoubleScaleDown"), (0, u "D"), (4, u "twoToTheDoubleScaleUp"), (9, u "E"), (3, u "PI"), (2, u "TAU"), (2, u "DEGREES_TO_RADIANS"), (0, u "RADIANS_TO_DEGREES")] 94

def k4m0 : Method := { name := "<init>", desc := "()V", sig := { parameters := [], returnType := none }, accessFlags := 2, code := none }
def k4c1 : Code := { maxStack := 4, maxLocals := 4, code := jdk_29_method_66_code, exceptionTable := #[], attributes := #[] }
def k4m1 : Method := { name := "max", desc := "(JJ)J", sig := { parameters := [.long, .long], returnType := some .long }, accessFlags := 9, code := some k4c1 }
/-- java/lang/Math -/
def k4 : Class := { plain "java/lang/Math" (some 0) with
  accessFlags := 49
  interfaces := #[]
  cf := some (fileOf pool4 1 #[.nestMembers #[98]] #[{ accessFlags := 2, nameIndex := 7, descriptorIndex := 8, attributes := #[] }, { accessFlags := 9, nameIndex := 198, descriptorIndex := 121, attributes := #[] }] 49 4 #[] #[{ accessFlags := 25, nameIndex := 354, descriptorIndex := 339, attributes := #[] }, { accessFlags := 25, nameIndex := 358, descriptorIndex := 339, attributes := #[] }, { accessFlags := 25, nameIndex := 361, descriptorIndex := 339, attributes := #[] }, { accessFlags := 26, nameIndex := 364, descriptorIndex := 339, attributes := #[] }, { accessFlags := 26, nameIndex := 365, descriptorIndex := 339, attributes := #[] }, { accessFlags := 26, nameIndex := 172, descriptorIndex := 173, attributes := #[] }, { accessFlags := 26, nameIndex := 176, descriptorIndex := 173, attributes := #[] }, { accessFlags := 8, nameIndex := 344, descriptorIndex := 339, attributes := #[] }, { accessFlags := 8, nameIndex := 338, descriptorIndex := 339, attributes := #[] }, { accessFlags := 4120, nameIndex := 245, descriptorIndex := 246, attributes := #[] }])
  fields := #[{ name := "E", type := .double, accessFlags := 25, slot := 0, constantValue := 0 }, { name := "PI", type := .double, accessFlags := 25, slot := 1, constantValue := 0 }, { name := "TAU", type := .double, accessFlags := 25, slot := 2, constantValue := 0 }, { name := "DEGREES_TO_RADIANS", type := .double, accessFlags := 26, slot := 3, constantValue := 0 }, { name := "RADIANS_TO_DEGREES", type := .double, accessFlags := 26, slot := 4, constantValue := 0 }, { name := "negativeZeroFloatBits", type := .long, accessFlags := 26, slot := 5, constantValue := 0 }, { name := "negativeZeroDoubleBits", type := .long, accessFlags := 26, slot := 6, constantValue := 0 }, { name := "twoToTheDoubleScaleUp", type := .double, accessFlags := 8, slot := 7, constantValue := 0 }, { name := "twoToTheDoubleScaleDown", type := .double, accessFlags := 8, slot := 8, constantValue := 0 }, { name := "$assertionsDisabled", type := .boolean, accessFlags := 4120, slot := 9, constantValue := 0 }]
  methods := #[k4m0, k4m1]
  instanceTypes := #[]
  staticTypes := #[.double, .double, .double, .double, .double, .long, .long, .double, .double, .boolean]
  resolved := Array.replicate 460 none
  statics := none }

def pool5 : Array CpInfo := pool [(1, u "java/lang/Cloneable"), (0, .class_ 1), (0, u "java/lang/Object"), (0, .class_ 3)] 3

/-- java/lang/Cloneable -/
def k5 : Class := { plain "java/lang/Cloneable" (some 0) with
  accessFlags := 1537
  interfaces := #[]
  cf := some (fileOf pool5 2 #[] #[] 1537 4 #[] #[])
  fields := #[]
  methods := #[]
  instanceTypes := #[]
  staticTypes := #[]
  resolved := Array.replicate 8 none
  statics := none }

def pool6 : Array CpInfo := pool [(1, u "java/io/Serializable"), (0, .class_ 1), (0, u "java/lang/Object"), (0, .class_ 3)] 3

/-- java/io/Serializable -/
def k6 : Class := { plain "java/io/Serializable" (some 0) with
  accessFlags := 1537
  interfaces := #[]
  cf := some (fileOf pool6 2 #[] #[] 1537 4 #[] #[])
  fields := #[]
  methods := #[]
  instanceTypes := #[]
  staticTypes := #[]
  resolved := Array.replicate 8 none
  statics := none }

/-- the primitive byte -/
def k7 : Class := { plain "byte" none with kind := .primitive 'B', accessFlags := 0x411 }
/-- [B -/
def k8 : Class := { plain "[B" (some 0) with kind := .array 7 .byte, interfaces := #[5, 6], accessFlags := 1041 }

/-- the primitive int -/
def k9 : Class := { plain "int" none with kind := .primitive 'I', accessFlags := 0x411 }
/-- [I -/
def k10 : Class := { plain "[I" (some 0) with kind := .array 9 .int, interfaces := #[5, 6], accessFlags := 1041 }

def heap : Heap := #[]
def classes : Array Class := #[k0, k1, k2, k3, k4, k5, k6, k7, k8, k9, k10]
def interned : List (Array UInt16 × Addr) := []
def slotsUsed : Nat := 0
def theMethod : MethodId := ⟨1, 1⟩
def args0 : Array Value := #[.long 5, .int 6, .int 7, .int 1, .int 2]
def aboutOver (below : List Frame) : State where
  vm := { classes := classes, interned := interned.toArray }
  heap := heap
  slotsUsed := slotsUsed
  threads := #[{ frames := .invoking theMethod args0 :: below }]
def below0 : List Frame := [.native { method := ⟨0, 0⟩, args := #[] }]
def about1 : State := aboutOver below0
def p0 : Program := .bare "" "" ""
def e0 : Env := launch0.env 0 0 0
theorem w_frames : about1.frames = Frame.invoking theMethod args0 :: below0 := rfl
set_option maxRecDepth 65536 in
theorem w_args : argsFit about1.vm theMethod args0 = true := by decide +kernel
set_option maxRecDepth 65536 in
theorem w_heap : heapFits about1 = true := by decide +kernel
set_option maxRecDepth 65536 in
theorem w_runnable : about1.curStatus? = some .runnable := by decide +kernel
set_option maxRecDepth 65536 in
theorem w_alone : about1.alone = true := by decide +kernel
set_option maxRecDepth 65536 in
theorem w_named : about1.methodNamed? x = some theMethod := by decide +kernel
set_option maxRecDepth 65536 in
theorem w_hears : about1.hears theMethod below0 = true := by decide +kernel
set_option maxRecDepth 65536 in
theorem w_ripe : about1.ripe theMethod args0 below0 = true := by decide +kernel
theorem w_running : about1.status = .running := rfl
set_option maxRecDepth 65536 in
theorem w_room : about1.hasRoom e0.platform room_1 = true :=
  launch0.hasRoom_least _ room_1 (by decide +kernel) (by decide +kernel) (by decide +kernel) (by decide +kernel) (by decide +kernel) (by decide +kernel)
theorem allAtoms_all (ts : List Jvm.Cond) (a : Array Jvm.Value) (st : Jvm.State) : (allAtoms ts).before a st = ts.all (fun c => c.before a st) := by
  induction ts with
  | nil => rfl
  | cons c t ih =>
    show (Jvm.Cond.and c (allAtoms t)).before a st = _
    rw [Jvm.Cond.before_and, ih, List.all_cons]
def words1 : List Jvm.Cond := Jvm.Cond.code x code maxLocals ret :: tables_1
/-- a 'code' word, met by the world's own term for the bytes: nothing is compared byte by byte -/
theorem code_word {y : MethodName} {bytes : ByteArray} {mx : Nat} {rt : Option FieldType} {a : Array Value} {s : State} {m : MethodId} {meth : Method} {c : Code} (h1 : s.methodNamed? y = some m) (h2 : s.vm.method? m = some meth) (h3 : meth.code = some c) (h4 : c.code = bytes)
    (h5 : (c.maxLocals == mx && c.exceptionTable.isEmpty && decide (c.maxStack ≤ mostOperands) && decide (meth.sig.returnType = rt) && !meth.locks && decide (parseMethodDescriptor y.desc = some meth.sig)) = true) : (Jvm.Cond.code y bytes mx rt).before a s = true := by
  simp only [Bool.and_eq_true, beq_iff_eq, Bool.not_eq_true', decide_eq_true_eq] at h5
  obtain ⟨⟨⟨⟨⟨g1, g2⟩, g3⟩, g4⟩, g5⟩, g6⟩ := h5
  simp [Cond.before, Cond.holds, Cond.value, h1, h2, h3, h4, g1, g2, g3, g4, g5, g6]
def isCode : Jvm.Cond → Bool
  | .code _ _ _ _ => true
  | _ => false
theorem all_split {L : List Jvm.Cond} {P : Jvm.Cond → Bool} (h1 : L.all (fun c => isCode c || P c) = true) (h2 : ∀ c ∈ L.filter isCode, P c = true) : L.all P = true := by
  refine List.all_eq_true.mpr fun c hc => ?_
  have h := List.all_eq_true.mp h1 c hc
  rcases Bool.eq_false_or_eq_true (isCode c) with hi | hi
  · exact h2 c (List.mem_filter.mpr ⟨hc, hi⟩)
  · simpa [hi] using h
set_option maxRecDepth 65536 in
theorem w_c0 : (Jvm.Cond.code x code maxLocals ret).before args0 about1 = true := code_word (m := ⟨1, 1⟩) (meth := k1m1) (c := k1c1) (by decide +kernel) rfl rfl rfl (by decide +kernel)
set_option maxRecDepth 65536 in
theorem w_c1 : (Jvm.Cond.code ({ cls := "com/example/fanout/fanout/server/MemoryBudget", name := "<init>", desc := "(J)V" } : Jvm.MethodName) prog_9_method_1_code (3 : Nat) (Option.none : Option Jvm.ClassFile.FieldType)).before args0 about1 = true := code_word (m := ⟨2, 0⟩) (meth := k2m0) (c := k2c0) (by decide +kernel) rfl rfl rfl (by decide +kernel)
set_option maxRecDepth 65536 in
theorem w_c2 : (Jvm.Cond.code ({ cls := "java/lang/Object", name := "<init>", desc := "()V" } : Jvm.MethodName) object_method_1_code (1 : Nat) (Option.none : Option Jvm.ClassFile.FieldType)).before args0 about1 = true := code_word (m := ⟨0, 0⟩) (meth := k0m0) (c := k0c0) (by decide +kernel) rfl rfl rfl (by decide +kernel)
set_option maxRecDepth 65536 in
theorem w_c3 : (Jvm.Cond.code ({ cls := "com/example/fanout/fanout/server/MemoryBudget", name := "charge", desc := "(J)Lcom/example/fanout/fanout/server/MemoryBudget$Charge;" } : Jvm.MethodName) prog_9_method_6_code (4 : Nat) (Option.some (Jvm.ClassFile.FieldType.object "com/example/fanout/fanout/server/MemoryBudget$Charge"))).before args0 about1 = true := code_word (m := ⟨2, 2⟩) (meth := k2m2) (c := k2c2) (by decide +kernel) rfl rfl rfl (by decide +kernel)
set_option maxRecDepth 65536 in
theorem w_c4 : (Jvm.Cond.code ({ cls := "com/example/fanout/fanout/server/MemoryBudget$Charge", name := "<init>", desc := "(Lcom/example/fanout/fanout/server/MemoryBudget;J)V" } : Jvm.MethodName) prog_10_method_1_code (4 : Nat) (Option.none : Option Jvm.ClassFile.FieldType)).before args0 about1 = true := code_word (m := ⟨3, 0⟩) (meth := k3m0) (c := k3c0) (by decide +kernel) rfl rfl rfl (by decide +kernel)
set_option maxRecDepth 65536 in
theorem w_c5 : (Jvm.Cond.code ({ cls := "java/lang/Math", name := "max", desc := "(JJ)J" } : Jvm.MethodName) jdk_29_method_66_code (4 : Nat) (Option.some Jvm.ClassFile.FieldType.long)).before args0 about1 = true := code_word (m := ⟨4, 1⟩) (meth := k4m1) (c := k4c1) (by decide +kernel) rfl rfl rfl (by decide +kernel)
set_option maxRecDepth 65536 in
theorem w_c6 : (Jvm.Cond.code ({ cls := "com/example/fanout/fanout/server/MemoryBudget", name := "takeCharge", desc := "(J)V" } : Jvm.MethodName) prog_9_method_9_code (3 : Nat) (Option.none : Option Jvm.ClassFile.FieldType)).before args0 about1 = true := code_word (m := ⟨2, 5⟩) (meth := k2m5) (c := k2c5) (by decide +kernel) rfl rfl rfl (by decide +kernel)
set_option maxRecDepth 65536 in
theorem w_c7 : (Jvm.Cond.code ({ cls := "com/example/fanout/fanout/server/MemoryBudget", name := "take", desc := "(J)V" } : Jvm.MethodName) prog_9_method_7_code (3 : Nat) (Option.none : Option Jvm.ClassFile.FieldType)).before args0 about1 = true := code_word (m := ⟨2, 3⟩) (meth := k2m3) (c := k2c3) (by decide +kernel) rfl rfl rfl (by decide +kernel)
set_option maxRecDepth 65536 in
theorem w_c8 : (Jvm.Cond.code ({ cls := "com/example/fanout/fanout/server/MemoryBudget", name := "isOverdrawn", desc := "()Z" } : Jvm.MethodName) prog_9_method_4_code (1 : Nat) (Option.some Jvm.ClassFile.FieldType.boolean)).before args0 about1 = true := code_word (m := ⟨2, 1⟩) (meth := k2m1) (c := k2c1) (by decide +kernel) rfl rfl rfl (by decide +kernel)
set_option maxRecDepth 65536 in
theorem w_c9 : (Jvm.Cond.code ({ cls := "com/example/fanout/fanout/server/MemoryBudget$Charge", name := "hold", desc := "(I)V" } : Jvm.MethodName) prog_10_method_2_code (2 : Nat) (Option.none : Option Jvm.ClassFile.FieldType)).before args0 about1 = true := code_word (m := ⟨3, 1⟩) (meth := k3m1) (c := k3c1) (by decide +kernel) rfl rfl rfl (by decide +kernel)
set_option maxRecDepth 65536 in
theorem w_c10 : (Jvm.Cond.code ({ cls := "com/example/fanout/fanout/server/MemoryBudget$Charge", name := "giveBack", desc := "()V" } : Jvm.MethodName) prog_10_method_4_code (1 : Nat) (Option.none : Option Jvm.ClassFile.FieldType)).before args0 about1 = true := code_word (m := ⟨3, 2⟩) (meth := k3m2) (c := k3c2) (by decide +kernel) rfl rfl rfl (by decide +kernel)
set_option maxRecDepth 65536 in
theorem w_c11 : (Jvm.Cond.code ({ cls := "com/example/fanout/fanout/server/MemoryBudget", name := "giveCharge", desc := "(J)V" } : Jvm.MethodName) prog_9_method_10_code (3 : Nat) (Option.none : Option Jvm.ClassFile.FieldType)).before args0 about1 = true := code_word (m := ⟨2, 6⟩) (meth := k2m6) (c := k2c6) (by decide +kernel) rfl rfl rfl (by decide +kernel)
set_option maxRecDepth 65536 in
theorem w_c12 : (Jvm.Cond.code ({ cls := "com/example/fanout/fanout/server/MemoryBudget", name := "give", desc := "(J)V" } : Jvm.MethodName) prog_9_method_8_code (3 : Nat) (Option.none : Option Jvm.ClassFile.FieldType)).before args0 about1 = true := code_word (m := ⟨2, 4⟩) (meth := k2m4) (c := k2c4) (by decide +kernel) rfl rfl rfl (by decide +kernel)
def codes1 : List Jvm.Cond := [Jvm.Cond.code x code maxLocals ret, Jvm.Cond.code ({ cls := "com/example/fanout/fanout/server/MemoryBudget", name := "<init>", desc := "(J)V" } : Jvm.MethodName) prog_9_method_1_code (3 : Nat) (Option.none : Option Jvm.ClassFile.FieldType), Jvm.Cond.code ({ cls := "java/lang/Object", name := "<init>", desc := "()V" } : Jvm.MethodName) object_method_1_code (1 : Nat) (Option.none : Option Jvm.ClassFile.FieldType), Jvm.Cond.code ({ cls := "com/example/fanout/fanout/server/MemoryBudget", name := "charge", desc := "(J)Lcom/example/fanout/fanout/server/MemoryBudget$Charge;" } : Jvm.MethodName) prog_9_method_6_code (4 : Nat) (Option.some (Jvm.ClassFile.FieldType.object "com/example/fanout/fanout/server/MemoryBudget$Charge")), Jvm.Cond.code ({ cls := "com/example/fanout/fanout/server/MemoryBudget$Charge", name := "<init>", desc := "(Lcom/example/fanout/fanout/server/MemoryBudget;J)V" } : Jvm.MethodName) prog_10_method_1_code (4 : Nat) (Option.none : Option Jvm.ClassFile.FieldType), Jvm.Cond.code ({ cls := "java/lang/Math", name := "max", desc := "(JJ)J" } : Jvm.MethodName) jdk_29_method_66_code (4 : Nat) (Option.some Jvm.ClassFile.FieldType.long), Jvm.Cond.code ({ cls := "com/example/fanout/fanout/server/MemoryBudget", name := "takeCharge", desc := "(J)V" } : Jvm.MethodName) prog_9_method_9_code (3 : Nat) (Option.none : Option Jvm.ClassFile.FieldType), Jvm.Cond.code ({ cls := "com/example/fanout/fanout/server/MemoryBudget", name := "take", desc := "(J)V" } : Jvm.MethodName) prog_9_method_7_code (3 : Nat) (Option.none : Option Jvm.ClassFile.FieldType), Jvm.Cond.code ({ cls := "com/example/fanout/fanout/server/MemoryBudget", name := "isOverdrawn", desc := "()Z" } : Jvm.MethodName) prog_9_method_4_code (1 : Nat) (Option.some Jvm.ClassFile.FieldType.boolean), Jvm.Cond.code ({ cls := "com/example/fanout/fanout/server/MemoryBudget$Charge", name := "hold", desc := "(I)V" } : Jvm.MethodName) prog_10_method_2_code (2 : Nat) (Option.none : Option Jvm.ClassFile.FieldType), Jvm.Cond.code ({ cls := "com/example/fanout/fanout/server/MemoryBudget$Charge", name := "giveBack", desc := "()V" } : Jvm.MethodName) prog_10_method_4_code (1 : Nat) (Option.none : Option Jvm.ClassFile.FieldType), Jvm.Cond.code ({ cls := "com/example/fanout/fanout/server/MemoryBudget", name := "giveCharge", desc := "(J)V" } : Jvm.MethodName) prog_9_method_10_code (3 : Nat) (Option.none : Option Jvm.ClassFile.FieldType), Jvm.Cond.code ({ cls := "com/example/fanout/fanout/server/MemoryBudget", name := "give", desc := "(J)V" } : Jvm.MethodName) prog_9_method_8_code (3 : Nat) (Option.none : Option Jvm.ClassFile.FieldType)]
set_option maxRecDepth 65536 in
theorem codes_eq : words1.filter isCode = codes1 := rfl
theorem w_codes : ∀ c ∈ words1.filter isCode, c.before args0 about1 = true := by
  rw [codes_eq]
  intro c hc
  simp only [codes1, List.mem_cons, List.not_mem_nil, or_false] at hc
  rcases hc with rfl | rfl | rfl | rfl | rfl | rfl | rfl | rfl | rfl | rfl | rfl | rfl | rfl
  · exact w_c0
  · exact w_c1
  · exact w_c2
  · exact w_c3
  · exact w_c4
  · exact w_c5
  · exact w_c6
  · exact w_c7
  · exact w_c8
  · exact w_c9
  · exact w_c10
  · exact w_c11
  · exact w_c12
set_option maxRecDepth 65536 in
theorem w_t1 : (words1.take 24).all (fun c => isCode c || c.before args0 about1) = true := by decide +kernel
set_option maxRecDepth 65536 in
theorem w_t2 : ((words1.drop 24).take 24).all (fun c => isCode c || c.before args0 about1) = true := by decide +kernel
set_option maxRecDepth 65536 in
theorem w_t3 : (((words1.drop 24).drop 24).take 24).all (fun c => isCode c || c.before args0 about1) = true := by decide +kernel
set_option maxRecDepth 65536 in
theorem w_t4 : (((words1.drop 24).drop 24).drop 24).all (fun c => isCode c || c.before args0 about1) = true := by decide +kernel
theorem w_tables : (allAtoms (Jvm.Cond.code x code maxLocals ret :: tables_1)).before args0 about1 = true := by
  rw [allAtoms_all]
  show words1.all (fun c => c.before args0 about1) = true
  refine all_split ?_ w_codes
  rw [← List.take_append_drop 24 words1, List.all_append, w_t1, ← List.take_append_drop 24 (words1.drop 24), List.all_append, w_t2, ← List.take_append_drop 24 ((words1.drop 24).drop 24), List.all_append, w_t3, w_t4]
  rfl
set_option maxRecDepth 65536 in
theorem w_case : (Jvm.Cond.and given_1 narrow_1).before args0 about1 = true := by decide +kernel
theorem w_applies : (headSpec (Jvm.Cond.code x code maxLocals ret :: tables_1) room_1).applies x e0.platform about1 = true :=
  (Spec.applies_iff w_frames).mpr ⟨w_running, w_runnable, w_alone, w_named, w_hears, w_ripe, w_room, w_tables⟩
theorem atStart : AtStart classFile x code maxLocals ret World_1 tables_1 room_1 Calls_1 rest_1 Pre_1 launch0 p0 e0 about1 theMethod args0 below0 :=
  ⟨lists_1, trivial, launch0.admits_env _ _ _, launch0.least_env, fairChoices_fair.cas, fairChoices_fair.clock, w_frames, w_args, w_heap, w_applies, trivial, trivial, w_case⟩
end start1
theorem witness_1 : WitnessClaimed_1 := ⟨start1.p0, start1.e0, start1.about1, start1.theMethod, start1.args0, start1.below0, start1.atStart⟩
end Jvm.Pilot.@@N@@
