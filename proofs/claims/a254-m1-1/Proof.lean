import JvmDerived
import JvmDerived.Pilot.@@N@@Statement
import JvmDerived.Pilot.@@N@@Code
set_option linter.unusedVariables false
set_option linter.unusedSimpArgs false
set_option maxRecDepth 65536
namespace Jvm.Pilot.@@N@@
open Jvm Jvm.ClassFile Sem Op Lib Jvm.Free Jvm.Stand Jvm.LawKit Jvm.RoadKit Bundle Jvm.Pilot.@@N@@.Jvm.D
section OwnBase
/-- where a walk stands: the Stand, that nothing old was written, the heap -/
def Wd (p : Program) (l : Launch) (e : Env) (R : Room) (s : State) (m : MethodId) (args : Array Value) (below : List Frame) (meth : Method) (c : Code) (n0 : Nat) (T : State) (h : Heap) (cs ss : Nat) : Prop :=
  ∃ locs, Stand p l e R s m args below meth c T locs cs ss ∧ Fr n0 locs ∧ T.heap = h ∧ n0 ≤ s.heap.size
/-- from the frame g on the body comes to its end, and Q holds of what it returns and of the heap -/
def Go (p : Program) (e : Env) (below : List Frame) (s : State) (n0 : Nat) (Q : Option Value → Heap → Prop) (rc rs : Nat) (T : State) (g : JFrame) : Prop :=
  ∃ s₂ o, Steps p.tables e below (T.setTop g) s₂ ∧ s₂.status = .running ∧ Ended s₂ below o ∧ ∃ v L, o = .returned v ∧ (Q v s₂.heap ∧ Fr n0 L) ∧ FrameEnd s o s₂ L rc rs
/-- what a walk knows of the body that it walks -/
def Cx (p : Program) (s : State) (m : MethodId) (meth : Method) (c : Code) (Z : State) (own nm : String) (bytes : ByteArray) (maxL : Nat) (ret : Option FieldType) : Prop :=
  p.tables.exec = Jvm.exec ∧ Z.Warmed39 s.vm ∧ c.code = bytes ∧ c.maxLocals = maxL ∧ s.vm.findClass own = some m.cls ∧ meth.sig.returnType = ret ∧ meth.locks = false ∧ meth.name = nm
/-- a body's contract -/
def Mt (l : Launch) (Z : State) (y : MethodName) (bytes : ByteArray) (maxL : Nat) (ret : Option FieldType) (rm : Room) (n0 : Nat) (as' : Array Value) (h0 : Heap) (Q : Option Value → Heap → Prop) : Prop :=
  ∀ ws : List Jvm.Cond, MetFree l y (head1 (Jvm.Cond.code y bytes maxL ret :: ws) rm) (fun a U => a = as' ∧ Z.Warmed39 U.vm ∧ U.heap = h0) (fun _ _ _ _ _ => True) (fun _ U o U' => ∃ v L, o = .returned v ∧ (Q v U'.heap ∧ Fr n0 L) ∧ FrameEnd U o U' L rm.cells rm.slots)
variable {p : Program} {l : Launch} {e : Env} {R : Room} {s : State} {m : MethodId} {args : Array Value} {below : List Frame} {meth : Method} {c : Code} {Z : State} {own nm : String} {bytes : ByteArray} {maxL : Nat} {ret : Option FieldType} {T : State} {h : Heap} {cs ss n0 : Nat} {Q : Option Value → Heap → Prop} {rc rs : Nat} {pc pc' pf pt : Nat} {Ls Ls' : Array Slot} {st rest : List Value} {a0 : Array Value}
theorem Go.stp {T' : State} {g g' : JFrame} (q : ∀ target, Steps p.tables e below (T'.setTop g') target → Steps p.tables e below (T.setTop g) target) (G : Go p e below s n0 Q rc rs T' g') : Go p e below s n0 Q rc rs T g := by
  obtain ⟨s₂, o, h1, r⟩ := G
  exact ⟨s₂, o, q _ h1, r⟩
theorem Wd.mono {cs' ss' : Nat} (W : Wd p l e R s m args below meth c n0 T h cs ss) (h1 : cs ≤ cs') (h2 : ss ≤ ss') : Wd p l e R s m args below meth c n0 T h cs' ss' := by
  obtain ⟨locs, X, r⟩ := W
  exact ⟨locs, ⟨X.admits, X.cas, X.clock, X.frames, X.room, X.hears, X.method, X.code, X.here, X.tail, X.warmed, X.limits, X.bytes, X.same.mono h1 h2⟩, r⟩
theorem met_of {y : MethodName} {rm : Room} {as' : Array Value} {h0 : Heap} (hpl : plainFor y = true) (hent : ∀ m, entryFrame m as' maxL = mkF m 0 Ls []) (hn : n0 ≤ h0.size)
    (H : ∀ p e s m below meth c T, Cx p s m meth c Z y.cls y.name bytes maxL ret → Wd p l e rm s m as' below meth c n0 T h0 0 0 → Go p e below s n0 Q rm.cells rm.slots T (mkF m 0 Ls [])) :
    Mt l Z y bytes maxL ret rm n0 as' h0 Q := by
  intro ws
  refine MetFree.of_bodySF hpl hisR ?_
  intro p e s m args below meth c s₁ Bd hml0 hP hK
  obtain ⟨rfl, hZ, hh⟩ := hP
  have X0 := Stand.of_body Bd
  have e0 : s₁.heap = h0 := by rw [← hh, Bd.state]; rfl
  have G := H p e s m below meth c s₁ ⟨Bd.exec, hZ, Bd.bytes, hml0, findClass_of_methodNamed Bd.named, Bd.returns, Bd.notSynchronized, (name_of_methodNamed Bd.named Bd.method).1⟩ ⟨[], X0, Fr.nil n0, e0, by rw [hh]; exact hn⟩
  obtain ⟨s₂, o, h1, h2, h3, v, L, h4, h5, h6⟩ := G
  exact ⟨s₂, o, castTop (hent m) h1, h2, h3, v, L, h4, h5, h6⟩
/-! the single steps -/
theorem g_iload (K : Cx p s m meth c Z own nm bytes maxL ret) (W : Wd p l e R s m args below meth c n0 T h cs ss) {k : Nat} {v : Int32} (hd : decode bytes pc = .ok (.iload k, 2)) (hl : Ls[k]? = some (.val (.int v))) (hp : pc + 2 = pc') (G : Go p e below s n0 Q rc rs T (mkF m pc' Ls (.int v :: st))) : Go p e below s n0 Q rc rs T (mkF m pc Ls st) := by
  obtain ⟨_, X, -⟩ := W; subst hp
  exact Go.stp (g' := mkF m (pc + 2) Ls (.int v :: st)) (fun _ hr => XS.iload X.here K.1 rfl (hb K.2.2.1 hd) hl hr) G
theorem g_iloadN (K : Cx p s m meth c Z own nm bytes maxL ret) (W : Wd p l e R s m args below meth c n0 T h cs ss) {k : Fin 4} {v : Int32} (hd : decode bytes pc = .ok (.iload_n k, 1)) (hl : Ls[k.val]? = some (.val (.int v))) (hp : pc + 1 = pc') (G : Go p e below s n0 Q rc rs T (mkF m pc' Ls (.int v :: st))) : Go p e below s n0 Q rc rs T (mkF m pc Ls st) := by
  obtain ⟨_, X, -⟩ := W; subst hp
  exact Go.stp (g' := mkF m (pc + 1) Ls (.int v :: st)) (fun _ hr => XS.iloadN X.here K.1 rfl (hb K.2.2.1 hd) hl hr) G
theorem g_lload (K : Cx p s m meth c Z own nm bytes maxL ret) (W : Wd p l e R s m args below meth c n0 T h cs ss) {k : Nat} {v : Int64} (hd : decode bytes pc = .ok (.lload k, 2)) (hl : Ls[k]? = some (.val (.long v))) (hp : pc + 2 = pc') (G : Go p e below s n0 Q rc rs T (mkF m pc' Ls (.long v :: st))) : Go p e below s n0 Q rc rs T (mkF m pc Ls st) := by
  obtain ⟨_, X, -⟩ := W; subst hp
  exact Go.stp (g' := mkF m (pc + 2) Ls (.long v :: st)) (fun _ hr => XS.lload X.here K.1 rfl (hb K.2.2.1 hd) hl hr) G
theorem g_lloadN (K : Cx p s m meth c Z own nm bytes maxL ret) (W : Wd p l e R s m args below meth c n0 T h cs ss) {k : Fin 4} {v : Int64} (hd : decode bytes pc = .ok (.lload_n k, 1)) (hl : Ls[k.val]? = some (.val (.long v))) (hp : pc + 1 = pc') (G : Go p e below s n0 Q rc rs T (mkF m pc' Ls (.long v :: st))) : Go p e below s n0 Q rc rs T (mkF m pc Ls st) := by
  obtain ⟨_, X, -⟩ := W; subst hp
  exact Go.stp (g' := mkF m (pc + 1) Ls (.long v :: st)) (fun _ hr => XS.lloadN X.here K.1 rfl (hb K.2.2.1 hd) hl hr) G
theorem g_aload (K : Cx p s m meth c Z own nm bytes maxL ret) (W : Wd p l e R s m args below meth c n0 T h cs ss) {k : Nat} {v : Value} (hd : decode bytes pc = .ok (.aload k, 2)) (hl : Ls[k]? = some (.val v)) (hv : v.isRef = true) (hp : pc + 2 = pc') (G : Go p e below s n0 Q rc rs T (mkF m pc' Ls (v :: st))) : Go p e below s n0 Q rc rs T (mkF m pc Ls st) := by
  obtain ⟨_, X, -⟩ := W; subst hp
  exact Go.stp (g' := mkF m (pc + 2) Ls (v :: st)) (fun _ hr => XS.aload X.here K.1 rfl (hb K.2.2.1 hd) hl hv hr) G
theorem g_aloadN (K : Cx p s m meth c Z own nm bytes maxL ret) (W : Wd p l e R s m args below meth c n0 T h cs ss) {k : Fin 4} {v : Value} (hd : decode bytes pc = .ok (.aload_n k, 1)) (hl : Ls[k.val]? = some (.val v)) (hv : v.isRef = true) (hp : pc + 1 = pc') (G : Go p e below s n0 Q rc rs T (mkF m pc' Ls (v :: st))) : Go p e below s n0 Q rc rs T (mkF m pc Ls st) := by
  obtain ⟨_, X, -⟩ := W; subst hp
  exact Go.stp (g' := mkF m (pc + 1) Ls (v :: st)) (fun _ hr => XS.aloadN X.here K.1 rfl (hb K.2.2.1 hd) hl hv hr) G
theorem g_istore (K : Cx p s m meth c Z own nm bytes maxL ret) (W : Wd p l e R s m args below meth c n0 T h cs ss) {k : Nat} {x : Int32} (hd : decode bytes pc = .ok (.istore k, 2)) (hl : storeLocals Ls k (.int x) = some Ls') (hp : pc + 2 = pc') (G : Go p e below s n0 Q rc rs T (mkF m pc' Ls' st)) : Go p e below s n0 Q rc rs T (mkF m pc Ls (.int x :: st)) := by
  obtain ⟨_, X, -⟩ := W; subst hp
  exact Go.stp (g' := mkF m (pc + 2) Ls' st) (fun _ hr => XS.istore X.here K.1 rfl (hb K.2.2.1 hd) rfl hl hr) G
theorem g_istoreN (K : Cx p s m meth c Z own nm bytes maxL ret) (W : Wd p l e R s m args below meth c n0 T h cs ss) {k : Fin 4} {x : Int32} (hd : decode bytes pc = .ok (.istore_n k, 1)) (hl : storeLocals Ls k.val (.int x) = some Ls') (hp : pc + 1 = pc') (G : Go p e below s n0 Q rc rs T (mkF m pc' Ls' st)) : Go p e below s n0 Q rc rs T (mkF m pc Ls (.int x :: st)) := by
  obtain ⟨_, X, -⟩ := W; subst hp
  exact Go.stp (g' := mkF m (pc + 1) Ls' st) (fun _ hr => XS.istoreN X.here K.1 rfl (hb K.2.2.1 hd) rfl hl hr) G
theorem g_lstore (K : Cx p s m meth c Z own nm bytes maxL ret) (W : Wd p l e R s m args below meth c n0 T h cs ss) {k : Nat} {x : Int64} (hd : decode bytes pc = .ok (.lstore k, 2)) (hl : storeLocals Ls k (.long x) = some Ls') (hp : pc + 2 = pc') (G : Go p e below s n0 Q rc rs T (mkF m pc' Ls' st)) : Go p e below s n0 Q rc rs T (mkF m pc Ls (.long x :: st)) := by
  obtain ⟨_, X, -⟩ := W; subst hp
  exact Go.stp (g' := mkF m (pc + 2) Ls' st) (fun _ hr => XS.lstore X.here K.1 rfl (hb K.2.2.1 hd) rfl hl hr) G
theorem g_lstoreN (K : Cx p s m meth c Z own nm bytes maxL ret) (W : Wd p l e R s m args below meth c n0 T h cs ss) {k : Fin 4} {x : Int64} (hd : decode bytes pc = .ok (.lstore_n k, 1)) (hl : storeLocals Ls k.val (.long x) = some Ls') (hp : pc + 1 = pc') (G : Go p e below s n0 Q rc rs T (mkF m pc' Ls' st)) : Go p e below s n0 Q rc rs T (mkF m pc Ls (.long x :: st)) := by
  obtain ⟨_, X, -⟩ := W; subst hp
  exact Go.stp (g' := mkF m (pc + 1) Ls' st) (fun _ hr => XS.lstoreN X.here K.1 rfl (hb K.2.2.1 hd) rfl hl hr) G
theorem g_astore (K : Cx p s m meth c Z own nm bytes maxL ret) (W : Wd p l e R s m args below meth c n0 T h cs ss) {k : Nat} {x : Value} (hd : decode bytes pc = .ok (.astore k, 2)) (hv : x.isRef = true) (hl : storeLocals Ls k x = some Ls') (hp : pc + 2 = pc') (G : Go p e below s n0 Q rc rs T (mkF m pc' Ls' st)) : Go p e below s n0 Q rc rs T (mkF m pc Ls (x :: st)) := by
  obtain ⟨_, X, -⟩ := W; subst hp
  exact Go.stp (g' := mkF m (pc + 2) Ls' st) (fun _ hr => XS.astore X.here K.1 rfl (hb K.2.2.1 hd) rfl hv hl hr) G
theorem g_astoreN (K : Cx p s m meth c Z own nm bytes maxL ret) (W : Wd p l e R s m args below meth c n0 T h cs ss) {k : Fin 4} {x : Value} (hd : decode bytes pc = .ok (.astore_n k, 1)) (hv : x.isRef = true) (hl : storeLocals Ls k.val x = some Ls') (hp : pc + 1 = pc') (G : Go p e below s n0 Q rc rs T (mkF m pc' Ls' st)) : Go p e below s n0 Q rc rs T (mkF m pc Ls (x :: st)) := by
  obtain ⟨_, X, -⟩ := W; subst hp
  exact Go.stp (g' := mkF m (pc + 1) Ls' st) (fun _ hr => XS.astoreN X.here K.1 rfl (hb K.2.2.1 hd) rfl hv hl hr) G
theorem g_iconst (K : Cx p s m meth c Z own nm bytes maxL ret) (W : Wd p l e R s m args below meth c n0 T h cs ss) {i : Int} {v : Int32} (hd : decode bytes pc = .ok (.iconst i, 1)) (hv : Int32.ofInt i = v) (hp : pc + 1 = pc') (G : Go p e below s n0 Q rc rs T (mkF m pc' Ls (.int v :: st))) : Go p e below s n0 Q rc rs T (mkF m pc Ls st) := by
  obtain ⟨_, X, -⟩ := W; subst hp hv
  exact Go.stp (g' := mkF m (pc + 1) Ls (.int (Int32.ofInt i) :: st)) (fun _ hr => XS.iconst X.here K.1 rfl (hb K.2.2.1 hd) hr) G
theorem g_bipush (K : Cx p s m meth c Z own nm bytes maxL ret) (W : Wd p l e R s m args below meth c n0 T h cs ss) {i : Int} {v : Int32} (hd : decode bytes pc = .ok (.bipush i, 2)) (hv : (Int8.ofInt i).toInt32 = v) (hp : pc + 2 = pc') (G : Go p e below s n0 Q rc rs T (mkF m pc' Ls (.int v :: st))) : Go p e below s n0 Q rc rs T (mkF m pc Ls st) := by
  obtain ⟨_, X, -⟩ := W; subst hp hv
  exact Go.stp (g' := mkF m (pc + 2) Ls (.int ((Int8.ofInt i).toInt32) :: st)) (fun _ hr => XS.bipush X.here K.1 rfl (hb K.2.2.1 hd) hr) G
theorem g_sipush (K : Cx p s m meth c Z own nm bytes maxL ret) (W : Wd p l e R s m args below meth c n0 T h cs ss) {i : Int} {v : Int32} (hd : decode bytes pc = .ok (.sipush i, 3)) (hv : (Int16.ofInt i).toInt32 = v) (hp : pc + 3 = pc') (G : Go p e below s n0 Q rc rs T (mkF m pc' Ls (.int v :: st))) : Go p e below s n0 Q rc rs T (mkF m pc Ls st) := by
  obtain ⟨_, X, -⟩ := W; subst hp hv
  exact Go.stp (g' := mkF m (pc + 3) Ls (.int ((Int16.ofInt i).toInt32) :: st)) (fun _ hr => XS.sipush X.here K.1 rfl (hb K.2.2.1 hd) hr) G
theorem g_lconst (K : Cx p s m meth c Z own nm bytes maxL ret) (W : Wd p l e R s m args below meth c n0 T h cs ss) {k : Fin 2} {v : Int64} (hd : decode bytes pc = .ok (.lconst k, 1)) (hv : Int64.ofNat k = v) (hp : pc + 1 = pc') (G : Go p e below s n0 Q rc rs T (mkF m pc' Ls (.long v :: st))) : Go p e below s n0 Q rc rs T (mkF m pc Ls st) := by
  obtain ⟨_, X, -⟩ := W; subst hp hv
  exact Go.stp (g' := mkF m (pc + 1) Ls (.long (Int64.ofNat k) :: st)) (fun _ hr => XS.lconst X.here K.1 rfl (hb K.2.2.1 hd) hr) G
theorem g_null (K : Cx p s m meth c Z own nm bytes maxL ret) (W : Wd p l e R s m args below meth c n0 T h cs ss) (hd : decode bytes pc = .ok (.aconst_null, 1)) (hp : pc + 1 = pc') (G : Go p e below s n0 Q rc rs T (mkF m pc' Ls (.null :: st))) : Go p e below s n0 Q rc rs T (mkF m pc Ls st) := by
  obtain ⟨_, X, -⟩ := W; subst hp
  exact Go.stp (g' := mkF m (pc + 1) Ls (.null :: st)) (fun _ hr => XS.aconstNull X.here K.1 rfl (hb K.2.2.1 hd) hr) G
theorem g_ldc (K : Cx p s m meth c Z own nm bytes maxL ret) (W : Wd p l e R s m args below meth c n0 T h cs ss) {index : Nat} {v : Int32} (w : (Jvm.Cond.constant own index v).before a0 Z = true) (hd : decode bytes pc = .ok (.ldc index, 2)) (hp : pc + 2 = pc') (G : Go p e below s n0 Q rc rs T (mkF m pc' Ls (.int v :: st))) : Go p e below s n0 Q rc rs T (mkF m pc Ls st) := by
  obtain ⟨_, X, -⟩ := W; subst hp
  exact Go.stp (g' := mkF m (pc + 2) Ls (.int v :: st)) (X.ldcInt K.1 K.2.2.2.2.1 (mvT K.2.1 w) (g := mkF m pc Ls st) rfl (hb K.2.2.1 hd)) G
theorem g_ldc2 (K : Cx p s m meth c Z own nm bytes maxL ret) (W : Wd p l e R s m args below meth c n0 T h cs ss) {index : Nat} {v : Int64} (w : (Jvm.Cond.constantLong own index v).before a0 Z = true) (hd : decode bytes pc = .ok (.ldc2_w index, 3)) (hp : pc + 3 = pc') (G : Go p e below s n0 Q rc rs T (mkF m pc' Ls (.long v :: st))) : Go p e below s n0 Q rc rs T (mkF m pc Ls st) := by
  obtain ⟨_, X, -⟩ := W; subst hp
  exact Go.stp (g' := mkF m (pc + 3) Ls (.long v :: st)) (X.ldc2Long K.1 K.2.2.2.2.1 (mvT K.2.1 w) (g := mkF m pc Ls st) rfl (hb K.2.2.1 hd)) G
theorem g_iadd (K : Cx p s m meth c Z own nm bytes maxL ret) (W : Wd p l e R s m args below meth c n0 T h cs ss) {x y : Int32} (hd : decode bytes pc = .ok (.iadd, 1)) (hp : pc + 1 = pc') (G : Go p e below s n0 Q rc rs T (mkF m pc' Ls (.int (x + y) :: st))) : Go p e below s n0 Q rc rs T (mkF m pc Ls (.int y :: .int x :: st)) := by
  obtain ⟨_, X, -⟩ := W; subst hp
  exact Go.stp (g' := mkF m (pc + 1) Ls (.int (x + y) :: st)) (fun _ hr => XS.iadd X.here K.1 rfl (hb K.2.2.1 hd) rfl hr) G
theorem g_isub (K : Cx p s m meth c Z own nm bytes maxL ret) (W : Wd p l e R s m args below meth c n0 T h cs ss) {x y : Int32} (hd : decode bytes pc = .ok (.isub, 1)) (hp : pc + 1 = pc') (G : Go p e below s n0 Q rc rs T (mkF m pc' Ls (.int (x - y) :: st))) : Go p e below s n0 Q rc rs T (mkF m pc Ls (.int y :: .int x :: st)) := by
  obtain ⟨_, X, -⟩ := W; subst hp
  exact Go.stp (g' := mkF m (pc + 1) Ls (.int (x - y) :: st)) (fun _ hr => XS.isub X.here K.1 rfl (hb K.2.2.1 hd) rfl hr) G
theorem g_imul (K : Cx p s m meth c Z own nm bytes maxL ret) (W : Wd p l e R s m args below meth c n0 T h cs ss) {x y : Int32} (hd : decode bytes pc = .ok (.imul, 1)) (hp : pc + 1 = pc') (G : Go p e below s n0 Q rc rs T (mkF m pc' Ls (.int (x * y) :: st))) : Go p e below s n0 Q rc rs T (mkF m pc Ls (.int y :: .int x :: st)) := by
  obtain ⟨_, X, -⟩ := W; subst hp
  exact Go.stp (g' := mkF m (pc + 1) Ls (.int (x * y) :: st)) (fun _ hr => XS.imul X.here K.1 rfl (hb K.2.2.1 hd) rfl hr) G
theorem g_iand (K : Cx p s m meth c Z own nm bytes maxL ret) (W : Wd p l e R s m args below meth c n0 T h cs ss) {x y : Int32} (hd : decode bytes pc = .ok (.iand, 1)) (hp : pc + 1 = pc') (G : Go p e below s n0 Q rc rs T (mkF m pc' Ls (.int (x &&& y) :: st))) : Go p e below s n0 Q rc rs T (mkF m pc Ls (.int y :: .int x :: st)) := by
  obtain ⟨_, X, -⟩ := W; subst hp
  exact Go.stp (g' := mkF m (pc + 1) Ls (.int (x &&& y) :: st)) (fun _ hr => XS.iand X.here K.1 rfl (hb K.2.2.1 hd) rfl hr) G
theorem g_ior (K : Cx p s m meth c Z own nm bytes maxL ret) (W : Wd p l e R s m args below meth c n0 T h cs ss) {x y : Int32} (hd : decode bytes pc = .ok (.ior, 1)) (hp : pc + 1 = pc') (G : Go p e below s n0 Q rc rs T (mkF m pc' Ls (.int (x ||| y) :: st))) : Go p e below s n0 Q rc rs T (mkF m pc Ls (.int y :: .int x :: st)) := by
  obtain ⟨_, X, -⟩ := W; subst hp
  exact Go.stp (g' := mkF m (pc + 1) Ls (.int (x ||| y) :: st)) (fun _ hr => XS.ior X.here K.1 rfl (hb K.2.2.1 hd) rfl hr) G
theorem g_ixor (K : Cx p s m meth c Z own nm bytes maxL ret) (W : Wd p l e R s m args below meth c n0 T h cs ss) {x y : Int32} (hd : decode bytes pc = .ok (.ixor, 1)) (hp : pc + 1 = pc') (G : Go p e below s n0 Q rc rs T (mkF m pc' Ls (.int (x ^^^ y) :: st))) : Go p e below s n0 Q rc rs T (mkF m pc Ls (.int y :: .int x :: st)) := by
  obtain ⟨_, X, -⟩ := W; subst hp
  exact Go.stp (g' := mkF m (pc + 1) Ls (.int (x ^^^ y) :: st)) (fun _ hr => XS.ixor X.here K.1 rfl (hb K.2.2.1 hd) rfl hr) G
theorem g_ishl (K : Cx p s m meth c Z own nm bytes maxL ret) (W : Wd p l e R s m args below meth c n0 T h cs ss) {x y : Int32} (hd : decode bytes pc = .ok (.ishl, 1)) (hp : pc + 1 = pc') (G : Go p e below s n0 Q rc rs T (mkF m pc' Ls (.int (x <<< (y &&& 31)) :: st))) : Go p e below s n0 Q rc rs T (mkF m pc Ls (.int y :: .int x :: st)) := by
  obtain ⟨_, X, -⟩ := W; subst hp
  exact Go.stp (g' := mkF m (pc + 1) Ls (.int (x <<< (y &&& 31)) :: st)) (fun _ hr => XS.ishl X.here K.1 rfl (hb K.2.2.1 hd) rfl hr) G
theorem g_ishr (K : Cx p s m meth c Z own nm bytes maxL ret) (W : Wd p l e R s m args below meth c n0 T h cs ss) {x y : Int32} (hd : decode bytes pc = .ok (.ishr, 1)) (hp : pc + 1 = pc') (G : Go p e below s n0 Q rc rs T (mkF m pc' Ls (.int (x >>> (y &&& 31)) :: st))) : Go p e below s n0 Q rc rs T (mkF m pc Ls (.int y :: .int x :: st)) := by
  obtain ⟨_, X, -⟩ := W; subst hp
  exact Go.stp (g' := mkF m (pc + 1) Ls (.int (x >>> (y &&& 31)) :: st)) (fun _ hr => XS.ishr X.here K.1 rfl (hb K.2.2.1 hd) rfl hr) G
theorem g_iushr (K : Cx p s m meth c Z own nm bytes maxL ret) (W : Wd p l e R s m args below meth c n0 T h cs ss) {x y : Int32} (hd : decode bytes pc = .ok (.iushr, 1)) (hp : pc + 1 = pc') (G : Go p e below s n0 Q rc rs T (mkF m pc' Ls (.int ((x.toUInt32 >>> (y &&& 31).toUInt32).toInt32) :: st))) : Go p e below s n0 Q rc rs T (mkF m pc Ls (.int y :: .int x :: st)) := by
  obtain ⟨_, X, -⟩ := W; subst hp
  exact Go.stp (g' := mkF m (pc + 1) Ls (.int ((x.toUInt32 >>> (y &&& 31).toUInt32).toInt32) :: st)) (fun _ hr => XS.iushr X.here K.1 rfl (hb K.2.2.1 hd) rfl hr) G
theorem g_idiv (K : Cx p s m meth c Z own nm bytes maxL ret) (W : Wd p l e R s m args below meth c n0 T h cs ss) {x y : Int32} (hy : y ≠ 0) (hd : decode bytes pc = .ok (.idiv, 1)) (hp : pc + 1 = pc') (G : Go p e below s n0 Q rc rs T (mkF m pc' Ls (.int (x / y) :: st))) : Go p e below s n0 Q rc rs T (mkF m pc Ls (.int y :: .int x :: st)) := by
  obtain ⟨_, X, -⟩ := W; subst hp
  exact Go.stp (g' := mkF m (pc + 1) Ls (.int (x / y) :: st)) (fun _ hr => XS.idiv X.here K.1 rfl (hb K.2.2.1 hd) rfl hy hr) G
theorem g_irem (K : Cx p s m meth c Z own nm bytes maxL ret) (W : Wd p l e R s m args below meth c n0 T h cs ss) {x y : Int32} (hy : y ≠ 0) (hd : decode bytes pc = .ok (.irem, 1)) (hp : pc + 1 = pc') (G : Go p e below s n0 Q rc rs T (mkF m pc' Ls (.int (x % y) :: st))) : Go p e below s n0 Q rc rs T (mkF m pc Ls (.int y :: .int x :: st)) := by
  obtain ⟨_, X, -⟩ := W; subst hp
  exact Go.stp (g' := mkF m (pc + 1) Ls (.int (x % y) :: st)) (fun _ hr => iremM X K.1 rfl (hb K.2.2.1 hd) rfl hy hr) G
theorem g_ladd (K : Cx p s m meth c Z own nm bytes maxL ret) (W : Wd p l e R s m args below meth c n0 T h cs ss) {x y : Int64} (hd : decode bytes pc = .ok (.ladd, 1)) (hp : pc + 1 = pc') (G : Go p e below s n0 Q rc rs T (mkF m pc' Ls (.long (x + y) :: st))) : Go p e below s n0 Q rc rs T (mkF m pc Ls (.long y :: .long x :: st)) := by
  obtain ⟨_, X, -⟩ := W; subst hp
  exact Go.stp (g' := mkF m (pc + 1) Ls (.long (x + y) :: st)) (fun _ hr => XS.ladd X.here K.1 rfl (hb K.2.2.1 hd) rfl hr) G
theorem g_lsub (K : Cx p s m meth c Z own nm bytes maxL ret) (W : Wd p l e R s m args below meth c n0 T h cs ss) {x y : Int64} (hd : decode bytes pc = .ok (.lsub, 1)) (hp : pc + 1 = pc') (G : Go p e below s n0 Q rc rs T (mkF m pc' Ls (.long (x - y) :: st))) : Go p e below s n0 Q rc rs T (mkF m pc Ls (.long y :: .long x :: st)) := by
  obtain ⟨_, X, -⟩ := W; subst hp
  exact Go.stp (g' := mkF m (pc + 1) Ls (.long (x - y) :: st)) (fun _ hr => XS.lsub X.here K.1 rfl (hb K.2.2.1 hd) rfl hr) G
theorem g_lmul (K : Cx p s m meth c Z own nm bytes maxL ret) (W : Wd p l e R s m args below meth c n0 T h cs ss) {x y : Int64} (hd : decode bytes pc = .ok (.lmul, 1)) (hp : pc + 1 = pc') (G : Go p e below s n0 Q rc rs T (mkF m pc' Ls (.long (x * y) :: st))) : Go p e below s n0 Q rc rs T (mkF m pc Ls (.long y :: .long x :: st)) := by
  obtain ⟨_, X, -⟩ := W; subst hp
  exact Go.stp (g' := mkF m (pc + 1) Ls (.long (x * y) :: st)) (fun _ hr => XS.lmul X.here K.1 rfl (hb K.2.2.1 hd) rfl hr) G
theorem g_land (K : Cx p s m meth c Z own nm bytes maxL ret) (W : Wd p l e R s m args below meth c n0 T h cs ss) {x y : Int64} (hd : decode bytes pc = .ok (.land, 1)) (hp : pc + 1 = pc') (G : Go p e below s n0 Q rc rs T (mkF m pc' Ls (.long (x &&& y) :: st))) : Go p e below s n0 Q rc rs T (mkF m pc Ls (.long y :: .long x :: st)) := by
  obtain ⟨_, X, -⟩ := W; subst hp
  exact Go.stp (g' := mkF m (pc + 1) Ls (.long (x &&& y) :: st)) (fun _ hr => XS.land X.here K.1 rfl (hb K.2.2.1 hd) rfl hr) G
theorem g_lor (K : Cx p s m meth c Z own nm bytes maxL ret) (W : Wd p l e R s m args below meth c n0 T h cs ss) {x y : Int64} (hd : decode bytes pc = .ok (.lor, 1)) (hp : pc + 1 = pc') (G : Go p e below s n0 Q rc rs T (mkF m pc' Ls (.long (x ||| y) :: st))) : Go p e below s n0 Q rc rs T (mkF m pc Ls (.long y :: .long x :: st)) := by
  obtain ⟨_, X, -⟩ := W; subst hp
  exact Go.stp (g' := mkF m (pc + 1) Ls (.long (x ||| y) :: st)) (fun _ hr => XS.lor X.here K.1 rfl (hb K.2.2.1 hd) rfl hr) G
theorem g_lxor (K : Cx p s m meth c Z own nm bytes maxL ret) (W : Wd p l e R s m args below meth c n0 T h cs ss) {x y : Int64} (hd : decode bytes pc = .ok (.lxor, 1)) (hp : pc + 1 = pc') (G : Go p e below s n0 Q rc rs T (mkF m pc' Ls (.long (x ^^^ y) :: st))) : Go p e below s n0 Q rc rs T (mkF m pc Ls (.long y :: .long x :: st)) := by
  obtain ⟨_, X, -⟩ := W; subst hp
  exact Go.stp (g' := mkF m (pc + 1) Ls (.long (x ^^^ y) :: st)) (fun _ hr => XS.lxor X.here K.1 rfl (hb K.2.2.1 hd) rfl hr) G
theorem g_lshl (K : Cx p s m meth c Z own nm bytes maxL ret) (W : Wd p l e R s m args below meth c n0 T h cs ss) {x : Int64} {y : Int32} (hd : decode bytes pc = .ok (.lshl, 1)) (hp : pc + 1 = pc') (G : Go p e below s n0 Q rc rs T (mkF m pc' Ls (.long (x <<< (y &&& 0x3f).toInt64) :: st))) : Go p e below s n0 Q rc rs T (mkF m pc Ls (.int y :: .long x :: st)) := by
  obtain ⟨_, X, -⟩ := W; subst hp
  exact Go.stp (g' := mkF m (pc + 1) Ls (.long (x <<< (y &&& 0x3f).toInt64) :: st)) (fun _ hr => XS.lshl X.here K.1 rfl (hb K.2.2.1 hd) rfl hr) G
theorem g_lshr (K : Cx p s m meth c Z own nm bytes maxL ret) (W : Wd p l e R s m args below meth c n0 T h cs ss) {x : Int64} {y : Int32} (hd : decode bytes pc = .ok (.lshr, 1)) (hp : pc + 1 = pc') (G : Go p e below s n0 Q rc rs T (mkF m pc' Ls (.long (x >>> (y &&& 0x3f).toInt64) :: st))) : Go p e below s n0 Q rc rs T (mkF m pc Ls (.int y :: .long x :: st)) := by
  obtain ⟨_, X, -⟩ := W; subst hp
  exact Go.stp (g' := mkF m (pc + 1) Ls (.long (x >>> (y &&& 0x3f).toInt64) :: st)) (fun _ hr => XS.lshr X.here K.1 rfl (hb K.2.2.1 hd) rfl hr) G
theorem g_lushr (K : Cx p s m meth c Z own nm bytes maxL ret) (W : Wd p l e R s m args below meth c n0 T h cs ss) {x : Int64} {y : Int32} (hd : decode bytes pc = .ok (.lushr, 1)) (hp : pc + 1 = pc') (G : Go p e below s n0 Q rc rs T (mkF m pc' Ls (.long ((x.toUInt64 >>> (y &&& 0x3f).toInt64.toUInt64).toInt64) :: st))) : Go p e below s n0 Q rc rs T (mkF m pc Ls (.int y :: .long x :: st)) := by
  obtain ⟨_, X, -⟩ := W; subst hp
  exact Go.stp (g' := mkF m (pc + 1) Ls (.long ((x.toUInt64 >>> (y &&& 0x3f).toInt64.toUInt64).toInt64) :: st)) (fun _ hr => XS.lushr X.here K.1 rfl (hb K.2.2.1 hd) rfl hr) G
theorem g_ldiv (K : Cx p s m meth c Z own nm bytes maxL ret) (W : Wd p l e R s m args below meth c n0 T h cs ss) {x y : Int64} (hy : y ≠ 0) (hd : decode bytes pc = .ok (.ldiv, 1)) (hp : pc + 1 = pc') (G : Go p e below s n0 Q rc rs T (mkF m pc' Ls (.long (x / y) :: st))) : Go p e below s n0 Q rc rs T (mkF m pc Ls (.long y :: .long x :: st)) := by
  obtain ⟨_, X, -⟩ := W; subst hp
  exact Go.stp (g' := mkF m (pc + 1) Ls (.long (x / y) :: st)) (fun _ hr => XS.ldiv X.here K.1 rfl (hb K.2.2.1 hd) rfl hy hr) G
theorem g_lrem (K : Cx p s m meth c Z own nm bytes maxL ret) (W : Wd p l e R s m args below meth c n0 T h cs ss) {x y : Int64} (hy : y ≠ 0) (hd : decode bytes pc = .ok (.lrem, 1)) (hp : pc + 1 = pc') (G : Go p e below s n0 Q rc rs T (mkF m pc' Ls (.long (x - (x / y) * y) :: st))) : Go p e below s n0 Q rc rs T (mkF m pc Ls (.long y :: .long x :: st)) := by
  obtain ⟨_, X, -⟩ := W; subst hp
  exact Go.stp (g' := mkF m (pc + 1) Ls (.long (x - (x / y) * y) :: st)) (fun _ hr => XS.lrem X.here K.1 rfl (hb K.2.2.1 hd) rfl hy hr) G
theorem g_ineg (K : Cx p s m meth c Z own nm bytes maxL ret) (W : Wd p l e R s m args below meth c n0 T h cs ss) {x : Int32} (hd : decode bytes pc = .ok (.ineg, 1)) (hp : pc + 1 = pc') (G : Go p e below s n0 Q rc rs T (mkF m pc' Ls (.int (-x) :: st))) : Go p e below s n0 Q rc rs T (mkF m pc Ls (.int x :: st)) := by
  obtain ⟨_, X, -⟩ := W; subst hp
  exact Go.stp (g' := mkF m (pc + 1) Ls (.int (-x) :: st)) (fun _ hr => XS.ineg X.here K.1 rfl (hb K.2.2.1 hd) rfl hr) G
theorem g_i2b (K : Cx p s m meth c Z own nm bytes maxL ret) (W : Wd p l e R s m args below meth c n0 T h cs ss) {x : Int32} (hd : decode bytes pc = .ok (.i2b, 1)) (hp : pc + 1 = pc') (G : Go p e below s n0 Q rc rs T (mkF m pc' Ls (.int (x.toInt8.toInt32) :: st))) : Go p e below s n0 Q rc rs T (mkF m pc Ls (.int x :: st)) := by
  obtain ⟨_, X, -⟩ := W; subst hp
  exact Go.stp (g' := mkF m (pc + 1) Ls (.int (x.toInt8.toInt32) :: st)) (fun _ hr => XS.i2b X.here K.1 rfl (hb K.2.2.1 hd) rfl hr) G
theorem g_i2c (K : Cx p s m meth c Z own nm bytes maxL ret) (W : Wd p l e R s m args below meth c n0 T h cs ss) {x : Int32} (hd : decode bytes pc = .ok (.i2c, 1)) (hp : pc + 1 = pc') (G : Go p e below s n0 Q rc rs T (mkF m pc' Ls (.int (x.toUInt32.toUInt16.toUInt32.toInt32) :: st))) : Go p e below s n0 Q rc rs T (mkF m pc Ls (.int x :: st)) := by
  obtain ⟨_, X, -⟩ := W; subst hp
  exact Go.stp (g' := mkF m (pc + 1) Ls (.int (x.toUInt32.toUInt16.toUInt32.toInt32) :: st)) (fun _ hr => XS.i2c X.here K.1 rfl (hb K.2.2.1 hd) rfl hr) G
theorem g_i2s (K : Cx p s m meth c Z own nm bytes maxL ret) (W : Wd p l e R s m args below meth c n0 T h cs ss) {x : Int32} (hd : decode bytes pc = .ok (.i2s, 1)) (hp : pc + 1 = pc') (G : Go p e below s n0 Q rc rs T (mkF m pc' Ls (.int (x.toInt16.toInt32) :: st))) : Go p e below s n0 Q rc rs T (mkF m pc Ls (.int x :: st)) := by
  obtain ⟨_, X, -⟩ := W; subst hp
  exact Go.stp (g' := mkF m (pc + 1) Ls (.int (x.toInt16.toInt32) :: st)) (fun _ hr => XS.i2s X.here K.1 rfl (hb K.2.2.1 hd) rfl hr) G
theorem g_i2l (K : Cx p s m meth c Z own nm bytes maxL ret) (W : Wd p l e R s m args below meth c n0 T h cs ss) {x : Int32} (hd : decode bytes pc = .ok (.i2l, 1)) (hp : pc + 1 = pc') (G : Go p e below s n0 Q rc rs T (mkF m pc' Ls (.long (x.toInt64) :: st))) : Go p e below s n0 Q rc rs T (mkF m pc Ls (.int x :: st)) := by
  obtain ⟨_, X, -⟩ := W; subst hp
  exact Go.stp (g' := mkF m (pc + 1) Ls (.long (x.toInt64) :: st)) (fun _ hr => XS.i2l X.here K.1 rfl (hb K.2.2.1 hd) rfl hr) G
theorem g_l2i (K : Cx p s m meth c Z own nm bytes maxL ret) (W : Wd p l e R s m args below meth c n0 T h cs ss) {x : Int64} (hd : decode bytes pc = .ok (.l2i, 1)) (hp : pc + 1 = pc') (G : Go p e below s n0 Q rc rs T (mkF m pc' Ls (.int (x.toInt32) :: st))) : Go p e below s n0 Q rc rs T (mkF m pc Ls (.long x :: st)) := by
  obtain ⟨_, X, -⟩ := W; subst hp
  exact Go.stp (g' := mkF m (pc + 1) Ls (.int (x.toInt32) :: st)) (fun _ hr => XS.l2i X.here K.1 rfl (hb K.2.2.1 hd) rfl hr) G
theorem g_lneg (K : Cx p s m meth c Z own nm bytes maxL ret) (W : Wd p l e R s m args below meth c n0 T h cs ss) {x : Int64} (hd : decode bytes pc = .ok (.lneg, 1)) (hp : pc + 1 = pc') (G : Go p e below s n0 Q rc rs T (mkF m pc' Ls (.long (-x) :: st))) : Go p e below s n0 Q rc rs T (mkF m pc Ls (.long x :: st)) := by
  obtain ⟨_, X, -⟩ := W; subst hp
  exact Go.stp (g' := mkF m (pc + 1) Ls (.long (-x) :: st)) (fun _ hr => XS.lneg X.here K.1 rfl (hb K.2.2.1 hd) rfl hr) G
theorem g_iinc (K : Cx p s m meth c Z own nm bytes maxL ret) (W : Wd p l e R s m args below meth c n0 T h cs ss) {k : Nat} {cst : Int} {x : Int32} (hd : decode bytes pc = .ok (.iinc k cst, 3)) (hl : Ls[k]? = some (.val (.int x))) (hl' : storeLocals Ls k (.int (x + Int32.ofInt cst)) = some Ls') (hp : pc + 3 = pc') (G : Go p e below s n0 Q rc rs T (mkF m pc' Ls' st)) : Go p e below s n0 Q rc rs T (mkF m pc Ls st) := by
  obtain ⟨_, X, -⟩ := W; subst hp
  exact Go.stp (g' := mkF m (pc + 3) Ls' st) (fun _ hr => XS.iinc X.here K.1 rfl (hb K.2.2.1 hd) hl hl' hr) G
theorem g_dup (K : Cx p s m meth c Z own nm bytes maxL ret) (W : Wd p l e R s m args below meth c n0 T h cs ss) {x : Value} (hd : decode bytes pc = .ok (.dup, 1)) (hc : x.category = 1) (hp : pc + 1 = pc') (G : Go p e below s n0 Q rc rs T (mkF m pc' Ls (x :: x :: st))) : Go p e below s n0 Q rc rs T (mkF m pc Ls (x :: st)) := by
  obtain ⟨_, X, -⟩ := W; subst hp
  exact Go.stp (g' := mkF m (pc + 1) Ls (x :: x :: st)) (fun _ hr => XS.dup X.here K.1 rfl (hb K.2.2.1 hd) rfl hc hr) G
theorem g_pop (K : Cx p s m meth c Z own nm bytes maxL ret) (W : Wd p l e R s m args below meth c n0 T h cs ss) {x : Value} (hd : decode bytes pc = .ok (.pop, 1)) (hc : x.category = 1) (hp : pc + 1 = pc') (G : Go p e below s n0 Q rc rs T (mkF m pc' Ls st)) : Go p e below s n0 Q rc rs T (mkF m pc Ls (x :: st)) := by
  obtain ⟨_, X, -⟩ := W; subst hp
  exact Go.stp (g' := mkF m (pc + 1) Ls st) (fun _ hr => XS.pop X.here K.1 rfl (hb K.2.2.1 hd) rfl hc hr) G
theorem g_dup_x1 (K : Cx p s m meth c Z own nm bytes maxL ret) (W : Wd p l e R s m args below meth c n0 T h cs ss) {x y : Value} (hd : decode bytes pc = .ok (.dup_x1, 1)) (hc : x.category = 1) (hc2 : y.category = 1) (hp : pc + 1 = pc') (G : Go p e below s n0 Q rc rs T (mkF m pc' Ls (x :: y :: x :: st))) : Go p e below s n0 Q rc rs T (mkF m pc Ls (x :: y :: st)) := by
  obtain ⟨_, X, -⟩ := W; subst hp
  exact Go.stp (g' := mkF m (pc + 1) Ls (x :: y :: x :: st)) (fun _ hr => XS.dupX1 X.here K.1 rfl (hb K.2.2.1 hd) rfl hc hc2 hr) G
theorem g_dup2 (K : Cx p s m meth c Z own nm bytes maxL ret) (W : Wd p l e R s m args below meth c n0 T h cs ss) {x y : Value} (hd : decode bytes pc = .ok (.dup2, 1)) (hc : x.category = 1) (hc2 : y.category = 1) (hp : pc + 1 = pc') (G : Go p e below s n0 Q rc rs T (mkF m pc' Ls (x :: y :: x :: y :: st))) : Go p e below s n0 Q rc rs T (mkF m pc Ls (x :: y :: st)) := by
  obtain ⟨_, X, -⟩ := W; subst hp
  exact Go.stp (g' := mkF m (pc + 1) Ls (x :: y :: x :: y :: st)) (fun _ hr => XT.dup2 X.here K.1 rfl (hb K.2.2.1 hd) rfl hc hc2 hr) G
theorem g_dup2L (K : Cx p s m meth c Z own nm bytes maxL ret) (W : Wd p l e R s m args below meth c n0 T h cs ss) {x : Int64} (hd : decode bytes pc = .ok (.dup2, 1)) (hp : pc + 1 = pc') (G : Go p e below s n0 Q rc rs T (mkF m pc' Ls (.long x :: .long x :: st))) : Go p e below s n0 Q rc rs T (mkF m pc Ls (.long x :: st)) := by
  obtain ⟨_, X, -⟩ := W; subst hp
  exact Go.stp (g' := mkF m (pc + 1) Ls (.long x :: .long x :: st)) (fun _ hr => XT.dup2L X.here K.1 rfl (hb K.2.2.1 hd) rfl hr) G
theorem own_jmp {o : Int} (ht : (pc : Int) + o = (pt : Int)) : 0 ≤ (pc : Int) + o ∧ ((pc : Int) + o).toNat = pt := by omega
theorem g_goto (K : Cx p s m meth c Z own nm bytes maxL ret) (W : Wd p l e R s m args below meth c n0 T h cs ss) {o : Int} (hd : decode bytes pc = .ok (.goto o, 3)) (ht : (pc : Int) + o = (pt : Int)) (G : Go p e below s n0 Q rc rs T (mkF m pt Ls st)) : Go p e below s n0 Q rc rs T (mkF m pc Ls st) := by
  obtain ⟨_, X, -⟩ := W
  exact Go.stp (g' := mkF m pt Ls st) (fun _ hr => XS.goto X.here K.1 rfl (pc0 := pc) rfl (hb K.2.2.1 hd) (own_jmp ht).1 (own_jmp ht).2 hr) G
theorem g_icmp_eq (K : Cx p s m meth c Z own nm bytes maxL ret) (W : Wd p l e R s m args below meth c n0 T h cs ss) {x y : Int32} {o : Int} (hd : decode bytes pc = .ok (.if_icmp .eq o, 3)) (ht : (pc : Int) + o = (pt : Int)) (hp : pc + 3 = pf) (Gp : x = y → Go p e below s n0 Q rc rs T (mkF m pt Ls st)) (Gn : ¬ (x = y) → Go p e below s n0 Q rc rs T (mkF m pf Ls st)) : Go p e below s n0 Q rc rs T (mkF m pc Ls (.int y :: .int x :: st)) := by
  obtain ⟨_, X, -⟩ := W; subst hp
  by_cases q : x = y
  · exact Go.stp (g' := mkF m pt Ls st) (fun _ hr => XS.icmpYes X.here K.1 rfl (pc0 := pc) rfl (hb K.2.2.1 hd) rfl (Jvm.Free.XT.ii_eq_t q) (own_jmp ht).1 (own_jmp ht).2 hr) (Gp q)
  · exact Go.stp (g' := mkF m (pc + 3) Ls st) (fun _ hr => XS.icmpNo X.here K.1 rfl (hb K.2.2.1 hd) rfl (Jvm.Free.XT.ii_eq_f q) hr) (Gn q)
theorem g_if_eq (K : Cx p s m meth c Z own nm bytes maxL ret) (W : Wd p l e R s m args below meth c n0 T h cs ss) {x : Int32} {o : Int} (hd : decode bytes pc = .ok (.ifCond .eq o, 3)) (ht : (pc : Int) + o = (pt : Int)) (hp : pc + 3 = pf) (Gp : x = 0 → Go p e below s n0 Q rc rs T (mkF m pt Ls st)) (Gn : ¬ (x = 0) → Go p e below s n0 Q rc rs T (mkF m pf Ls st)) : Go p e below s n0 Q rc rs T (mkF m pc Ls (.int x :: st)) := by
  obtain ⟨_, X, -⟩ := W; subst hp
  by_cases q : x = 0
  · exact Go.stp (g' := mkF m pt Ls st) (fun _ hr => XS.ifYes X.here K.1 rfl (pc0 := pc) rfl (hb K.2.2.1 hd) rfl (Jvm.Free.XT.i0_eq_t q) (own_jmp ht).1 (own_jmp ht).2 hr) (Gp q)
  · exact Go.stp (g' := mkF m (pc + 3) Ls st) (fun _ hr => XS.ifNo X.here K.1 rfl (hb K.2.2.1 hd) rfl (Jvm.Free.XT.i0_eq_f q) hr) (Gn q)
theorem g_lcmp_eq (K : Cx p s m meth c Z own nm bytes maxL ret) (W : Wd p l e R s m args below meth c n0 T h cs ss) {x y : Int64} {o : Int} {pc1 : Nat} (hd0 : decode bytes pc = .ok (.lcmp, 1)) (hp0 : pc + 1 = pc1) (hd : decode bytes pc1 = .ok (.ifCond .eq o, 3)) (ht : (pc1 : Int) + o = (pt : Int)) (hp : pc1 + 3 = pf) (Gp : x = y → Go p e below s n0 Q rc rs T (mkF m pt Ls st)) (Gn : ¬ (x = y) → Go p e below s n0 Q rc rs T (mkF m pf Ls st)) : Go p e below s n0 Q rc rs T (mkF m pc Ls (.long y :: .long x :: st)) := by
  obtain ⟨_, X, -⟩ := W; subst hp hp0
  refine Go.stp (g' := mkF m (pc + 1) Ls (.int (Jvm.Free.XT.cmpL x y) :: st)) (fun _ hr => XS.lcmp X.here K.1 rfl (hb K.2.2.1 hd0) rfl hr) ?_
  by_cases q : x = y
  · exact Go.stp (g' := mkF m pt Ls st) (fun _ hr => XS.ifYes X.here K.1 rfl (pc0 := pc + 1) rfl (hb K.2.2.1 hd) rfl (Jvm.Free.XT.ll_eq_t q) (own_jmp ht).1 (own_jmp ht).2 hr) (Gp q)
  · exact Go.stp (g' := mkF m (pc + 1 + 3) Ls st) (fun _ hr => XS.ifNo X.here K.1 rfl (hb K.2.2.1 hd) rfl (Jvm.Free.XT.ll_eq_f q) hr) (Gn q)
theorem g_icmp_ne (K : Cx p s m meth c Z own nm bytes maxL ret) (W : Wd p l e R s m args below meth c n0 T h cs ss) {x y : Int32} {o : Int} (hd : decode bytes pc = .ok (.if_icmp .ne o, 3)) (ht : (pc : Int) + o = (pt : Int)) (hp : pc + 3 = pf) (Gp : x = y → Go p e below s n0 Q rc rs T (mkF m pf Ls st)) (Gn : ¬ (x = y) → Go p e below s n0 Q rc rs T (mkF m pt Ls st)) : Go p e below s n0 Q rc rs T (mkF m pc Ls (.int y :: .int x :: st)) := by
  obtain ⟨_, X, -⟩ := W; subst hp
  by_cases q : x = y
  · exact Go.stp (g' := mkF m (pc + 3) Ls st) (fun _ hr => XS.icmpNo X.here K.1 rfl (hb K.2.2.1 hd) rfl (Jvm.Free.XT.ii_ne_f q) hr) (Gp q)
  · exact Go.stp (g' := mkF m pt Ls st) (fun _ hr => XS.icmpYes X.here K.1 rfl (pc0 := pc) rfl (hb K.2.2.1 hd) rfl (Jvm.Free.XT.ii_ne_t q) (own_jmp ht).1 (own_jmp ht).2 hr) (Gn q)
theorem g_if_ne (K : Cx p s m meth c Z own nm bytes maxL ret) (W : Wd p l e R s m args below meth c n0 T h cs ss) {x : Int32} {o : Int} (hd : decode bytes pc = .ok (.ifCond .ne o, 3)) (ht : (pc : Int) + o = (pt : Int)) (hp : pc + 3 = pf) (Gp : x = 0 → Go p e below s n0 Q rc rs T (mkF m pf Ls st)) (Gn : ¬ (x = 0) → Go p e below s n0 Q rc rs T (mkF m pt Ls st)) : Go p e below s n0 Q rc rs T (mkF m pc Ls (.int x :: st)) := by
  obtain ⟨_, X, -⟩ := W; subst hp
  by_cases q : x = 0
  · exact Go.stp (g' := mkF m (pc + 3) Ls st) (fun _ hr => XS.ifNo X.here K.1 rfl (hb K.2.2.1 hd) rfl (Jvm.Free.XT.i0_ne_f q) hr) (Gp q)
  · exact Go.stp (g' := mkF m pt Ls st) (fun _ hr => XS.ifYes X.here K.1 rfl (pc0 := pc) rfl (hb K.2.2.1 hd) rfl (Jvm.Free.XT.i0_ne_t q) (own_jmp ht).1 (own_jmp ht).2 hr) (Gn q)
theorem g_lcmp_ne (K : Cx p s m meth c Z own nm bytes maxL ret) (W : Wd p l e R s m args below meth c n0 T h cs ss) {x y : Int64} {o : Int} {pc1 : Nat} (hd0 : decode bytes pc = .ok (.lcmp, 1)) (hp0 : pc + 1 = pc1) (hd : decode bytes pc1 = .ok (.ifCond .ne o, 3)) (ht : (pc1 : Int) + o = (pt : Int)) (hp : pc1 + 3 = pf) (Gp : x = y → Go p e below s n0 Q rc rs T (mkF m pf Ls st)) (Gn : ¬ (x = y) → Go p e below s n0 Q rc rs T (mkF m pt Ls st)) : Go p e below s n0 Q rc rs T (mkF m pc Ls (.long y :: .long x :: st)) := by
  obtain ⟨_, X, -⟩ := W; subst hp hp0
  refine Go.stp (g' := mkF m (pc + 1) Ls (.int (Jvm.Free.XT.cmpL x y) :: st)) (fun _ hr => XS.lcmp X.here K.1 rfl (hb K.2.2.1 hd0) rfl hr) ?_
  by_cases q : x = y
  · exact Go.stp (g' := mkF m (pc + 1 + 3) Ls st) (fun _ hr => XS.ifNo X.here K.1 rfl (hb K.2.2.1 hd) rfl (Jvm.Free.XT.ll_ne_f q) hr) (Gp q)
  · exact Go.stp (g' := mkF m pt Ls st) (fun _ hr => XS.ifYes X.here K.1 rfl (pc0 := pc + 1) rfl (hb K.2.2.1 hd) rfl (Jvm.Free.XT.ll_ne_t q) (own_jmp ht).1 (own_jmp ht).2 hr) (Gn q)
theorem g_icmp_lt (K : Cx p s m meth c Z own nm bytes maxL ret) (W : Wd p l e R s m args below meth c n0 T h cs ss) {x y : Int32} {o : Int} (hd : decode bytes pc = .ok (.if_icmp .lt o, 3)) (ht : (pc : Int) + o = (pt : Int)) (hp : pc + 3 = pf) (Gp : x < y → Go p e below s n0 Q rc rs T (mkF m pt Ls st)) (Gn : ¬ (x < y) → Go p e below s n0 Q rc rs T (mkF m pf Ls st)) : Go p e below s n0 Q rc rs T (mkF m pc Ls (.int y :: .int x :: st)) := by
  obtain ⟨_, X, -⟩ := W; subst hp
  by_cases q : x < y
  · exact Go.stp (g' := mkF m pt Ls st) (fun _ hr => XS.icmpYes X.here K.1 rfl (pc0 := pc) rfl (hb K.2.2.1 hd) rfl (Jvm.Free.XT.ii_lt_t q) (own_jmp ht).1 (own_jmp ht).2 hr) (Gp q)
  · exact Go.stp (g' := mkF m (pc + 3) Ls st) (fun _ hr => XS.icmpNo X.here K.1 rfl (hb K.2.2.1 hd) rfl (Jvm.Free.XT.ii_lt_f q) hr) (Gn q)
theorem g_if_lt (K : Cx p s m meth c Z own nm bytes maxL ret) (W : Wd p l e R s m args below meth c n0 T h cs ss) {x : Int32} {o : Int} (hd : decode bytes pc = .ok (.ifCond .lt o, 3)) (ht : (pc : Int) + o = (pt : Int)) (hp : pc + 3 = pf) (Gp : x < 0 → Go p e below s n0 Q rc rs T (mkF m pt Ls st)) (Gn : ¬ (x < 0) → Go p e below s n0 Q rc rs T (mkF m pf Ls st)) : Go p e below s n0 Q rc rs T (mkF m pc Ls (.int x :: st)) := by
  obtain ⟨_, X, -⟩ := W; subst hp
  by_cases q : x < 0
  · exact Go.stp (g' := mkF m pt Ls st) (fun _ hr => XS.ifYes X.here K.1 rfl (pc0 := pc) rfl (hb K.2.2.1 hd) rfl (Jvm.Free.XT.i0_lt_t q) (own_jmp ht).1 (own_jmp ht).2 hr) (Gp q)
  · exact Go.stp (g' := mkF m (pc + 3) Ls st) (fun _ hr => XS.ifNo X.here K.1 rfl (hb K.2.2.1 hd) rfl (Jvm.Free.XT.i0_lt_f q) hr) (Gn q)
theorem g_lcmp_lt (K : Cx p s m meth c Z own nm bytes maxL ret) (W : Wd p l e R s m args below meth c n0 T h cs ss) {x y : Int64} {o : Int} {pc1 : Nat} (hd0 : decode bytes pc = .ok (.lcmp, 1)) (hp0 : pc + 1 = pc1) (hd : decode bytes pc1 = .ok (.ifCond .lt o, 3)) (ht : (pc1 : Int) + o = (pt : Int)) (hp : pc1 + 3 = pf) (Gp : x < y → Go p e below s n0 Q rc rs T (mkF m pt Ls st)) (Gn : ¬ (x < y) → Go p e below s n0 Q rc rs T (mkF m pf Ls st)) : Go p e below s n0 Q rc rs T (mkF m pc Ls (.long y :: .long x :: st)) := by
  obtain ⟨_, X, -⟩ := W; subst hp hp0
  refine Go.stp (g' := mkF m (pc + 1) Ls (.int (Jvm.Free.XT.cmpL x y) :: st)) (fun _ hr => XS.lcmp X.here K.1 rfl (hb K.2.2.1 hd0) rfl hr) ?_
  by_cases q : x < y
  · exact Go.stp (g' := mkF m pt Ls st) (fun _ hr => XS.ifYes X.here K.1 rfl (pc0 := pc + 1) rfl (hb K.2.2.1 hd) rfl (Jvm.Free.XT.ll_lt_t q) (own_jmp ht).1 (own_jmp ht).2 hr) (Gp q)
  · exact Go.stp (g' := mkF m (pc + 1 + 3) Ls st) (fun _ hr => XS.ifNo X.here K.1 rfl (hb K.2.2.1 hd) rfl (Jvm.Free.XT.ll_lt_f q) hr) (Gn q)
theorem g_icmp_ge (K : Cx p s m meth c Z own nm bytes maxL ret) (W : Wd p l e R s m args below meth c n0 T h cs ss) {x y : Int32} {o : Int} (hd : decode bytes pc = .ok (.if_icmp .ge o, 3)) (ht : (pc : Int) + o = (pt : Int)) (hp : pc + 3 = pf) (Gp : x < y → Go p e below s n0 Q rc rs T (mkF m pf Ls st)) (Gn : ¬ (x < y) → Go p e below s n0 Q rc rs T (mkF m pt Ls st)) : Go p e below s n0 Q rc rs T (mkF m pc Ls (.int y :: .int x :: st)) := by
  obtain ⟨_, X, -⟩ := W; subst hp
  by_cases q : x < y
  · exact Go.stp (g' := mkF m (pc + 3) Ls st) (fun _ hr => XS.icmpNo X.here K.1 rfl (hb K.2.2.1 hd) rfl (Jvm.Free.XT.ii_ge_f q) hr) (Gp q)
  · exact Go.stp (g' := mkF m pt Ls st) (fun _ hr => XS.icmpYes X.here K.1 rfl (pc0 := pc) rfl (hb K.2.2.1 hd) rfl (Jvm.Free.XT.ii_ge_t q) (own_jmp ht).1 (own_jmp ht).2 hr) (Gn q)
theorem g_if_ge (K : Cx p s m meth c Z own nm bytes maxL ret) (W : Wd p l e R s m args below meth c n0 T h cs ss) {x : Int32} {o : Int} (hd : decode bytes pc = .ok (.ifCond .ge o, 3)) (ht : (pc : Int) + o = (pt : Int)) (hp : pc + 3 = pf) (Gp : x < 0 → Go p e below s n0 Q rc rs T (mkF m pf Ls st)) (Gn : ¬ (x < 0) → Go p e below s n0 Q rc rs T (mkF m pt Ls st)) : Go p e below s n0 Q rc rs T (mkF m pc Ls (.int x :: st)) := by
  obtain ⟨_, X, -⟩ := W; subst hp
  by_cases q : x < 0
  · exact Go.stp (g' := mkF m (pc + 3) Ls st) (fun _ hr => XS.ifNo X.here K.1 rfl (hb K.2.2.1 hd) rfl (Jvm.Free.XT.i0_ge_f q) hr) (Gp q)
  · exact Go.stp (g' := mkF m pt Ls st) (fun _ hr => XS.ifYes X.here K.1 rfl (pc0 := pc) rfl (hb K.2.2.1 hd) rfl (Jvm.Free.XT.i0_ge_t q) (own_jmp ht).1 (own_jmp ht).2 hr) (Gn q)
theorem g_lcmp_ge (K : Cx p s m meth c Z own nm bytes maxL ret) (W : Wd p l e R s m args below meth c n0 T h cs ss) {x y : Int64} {o : Int} {pc1 : Nat} (hd0 : decode bytes pc = .ok (.lcmp, 1)) (hp0 : pc + 1 = pc1) (hd : decode bytes pc1 = .ok (.ifCond .ge o, 3)) (ht : (pc1 : Int) + o = (pt : Int)) (hp : pc1 + 3 = pf) (Gp : x < y → Go p e below s n0 Q rc rs T (mkF m pf Ls st)) (Gn : ¬ (x < y) → Go p e below s n0 Q rc rs T (mkF m pt Ls st)) : Go p e below s n0 Q rc rs T (mkF m pc Ls (.long y :: .long x :: st)) := by
  obtain ⟨_, X, -⟩ := W; subst hp hp0
  refine Go.stp (g' := mkF m (pc + 1) Ls (.int (Jvm.Free.XT.cmpL x y) :: st)) (fun _ hr => XS.lcmp X.here K.1 rfl (hb K.2.2.1 hd0) rfl hr) ?_
  by_cases q : x < y
  · exact Go.stp (g' := mkF m (pc + 1 + 3) Ls st) (fun _ hr => XS.ifNo X.here K.1 rfl (hb K.2.2.1 hd) rfl (Jvm.Free.XT.ll_ge_f q) hr) (Gp q)
  · exact Go.stp (g' := mkF m pt Ls st) (fun _ hr => XS.ifYes X.here K.1 rfl (pc0 := pc + 1) rfl (hb K.2.2.1 hd) rfl (Jvm.Free.XT.ll_ge_t q) (own_jmp ht).1 (own_jmp ht).2 hr) (Gn q)
theorem g_icmp_gt (K : Cx p s m meth c Z own nm bytes maxL ret) (W : Wd p l e R s m args below meth c n0 T h cs ss) {x y : Int32} {o : Int} (hd : decode bytes pc = .ok (.if_icmp .gt o, 3)) (ht : (pc : Int) + o = (pt : Int)) (hp : pc + 3 = pf) (Gp : y < x → Go p e below s n0 Q rc rs T (mkF m pt Ls st)) (Gn : ¬ (y < x) → Go p e below s n0 Q rc rs T (mkF m pf Ls st)) : Go p e below s n0 Q rc rs T (mkF m pc Ls (.int y :: .int x :: st)) := by
  obtain ⟨_, X, -⟩ := W; subst hp
  by_cases q : y < x
  · exact Go.stp (g' := mkF m pt Ls st) (fun _ hr => XS.icmpYes X.here K.1 rfl (pc0 := pc) rfl (hb K.2.2.1 hd) rfl (Jvm.Free.XT.ii_gt_t q) (own_jmp ht).1 (own_jmp ht).2 hr) (Gp q)
  · exact Go.stp (g' := mkF m (pc + 3) Ls st) (fun _ hr => XS.icmpNo X.here K.1 rfl (hb K.2.2.1 hd) rfl (Jvm.Free.XT.ii_gt_f q) hr) (Gn q)
theorem g_if_gt (K : Cx p s m meth c Z own nm bytes maxL ret) (W : Wd p l e R s m args below meth c n0 T h cs ss) {x : Int32} {o : Int} (hd : decode bytes pc = .ok (.ifCond .gt o, 3)) (ht : (pc : Int) + o = (pt : Int)) (hp : pc + 3 = pf) (Gp : 0 < x → Go p e below s n0 Q rc rs T (mkF m pt Ls st)) (Gn : ¬ (0 < x) → Go p e below s n0 Q rc rs T (mkF m pf Ls st)) : Go p e below s n0 Q rc rs T (mkF m pc Ls (.int x :: st)) := by
  obtain ⟨_, X, -⟩ := W; subst hp
  by_cases q : 0 < x
  · exact Go.stp (g' := mkF m pt Ls st) (fun _ hr => XS.ifYes X.here K.1 rfl (pc0 := pc) rfl (hb K.2.2.1 hd) rfl (Jvm.Free.XT.i0_gt_t q) (own_jmp ht).1 (own_jmp ht).2 hr) (Gp q)
  · exact Go.stp (g' := mkF m (pc + 3) Ls st) (fun _ hr => XS.ifNo X.here K.1 rfl (hb K.2.2.1 hd) rfl (Jvm.Free.XT.i0_gt_f q) hr) (Gn q)
theorem g_lcmp_gt (K : Cx p s m meth c Z own nm bytes maxL ret) (W : Wd p l e R s m args below meth c n0 T h cs ss) {x y : Int64} {o : Int} {pc1 : Nat} (hd0 : decode bytes pc = .ok (.lcmp, 1)) (hp0 : pc + 1 = pc1) (hd : decode bytes pc1 = .ok (.ifCond .gt o, 3)) (ht : (pc1 : Int) + o = (pt : Int)) (hp : pc1 + 3 = pf) (Gp : y < x → Go p e below s n0 Q rc rs T (mkF m pt Ls st)) (Gn : ¬ (y < x) → Go p e below s n0 Q rc rs T (mkF m pf Ls st)) : Go p e below s n0 Q rc rs T (mkF m pc Ls (.long y :: .long x :: st)) := by
  obtain ⟨_, X, -⟩ := W; subst hp hp0
  refine Go.stp (g' := mkF m (pc + 1) Ls (.int (Jvm.Free.XT.cmpL x y) :: st)) (fun _ hr => XS.lcmp X.here K.1 rfl (hb K.2.2.1 hd0) rfl hr) ?_
  by_cases q : y < x
  · exact Go.stp (g' := mkF m pt Ls st) (fun _ hr => XS.ifYes X.here K.1 rfl (pc0 := pc + 1) rfl (hb K.2.2.1 hd) rfl (Jvm.Free.XT.ll_gt_t q) (own_jmp ht).1 (own_jmp ht).2 hr) (Gp q)
  · exact Go.stp (g' := mkF m (pc + 1 + 3) Ls st) (fun _ hr => XS.ifNo X.here K.1 rfl (hb K.2.2.1 hd) rfl (Jvm.Free.XT.ll_gt_f q) hr) (Gn q)
theorem g_icmp_le (K : Cx p s m meth c Z own nm bytes maxL ret) (W : Wd p l e R s m args below meth c n0 T h cs ss) {x y : Int32} {o : Int} (hd : decode bytes pc = .ok (.if_icmp .le o, 3)) (ht : (pc : Int) + o = (pt : Int)) (hp : pc + 3 = pf) (Gp : y < x → Go p e below s n0 Q rc rs T (mkF m pf Ls st)) (Gn : ¬ (y < x) → Go p e below s n0 Q rc rs T (mkF m pt Ls st)) : Go p e below s n0 Q rc rs T (mkF m pc Ls (.int y :: .int x :: st)) := by
  obtain ⟨_, X, -⟩ := W; subst hp
  by_cases q : y < x
  · exact Go.stp (g' := mkF m (pc + 3) Ls st) (fun _ hr => XS.icmpNo X.here K.1 rfl (hb K.2.2.1 hd) rfl (Jvm.Free.XT.ii_le_f q) hr) (Gp q)
  · exact Go.stp (g' := mkF m pt Ls st) (fun _ hr => XS.icmpYes X.here K.1 rfl (pc0 := pc) rfl (hb K.2.2.1 hd) rfl (Jvm.Free.XT.ii_le_t q) (own_jmp ht).1 (own_jmp ht).2 hr) (Gn q)
theorem g_if_le (K : Cx p s m meth c Z own nm bytes maxL ret) (W : Wd p l e R s m args below meth c n0 T h cs ss) {x : Int32} {o : Int} (hd : decode bytes pc = .ok (.ifCond .le o, 3)) (ht : (pc : Int) + o = (pt : Int)) (hp : pc + 3 = pf) (Gp : 0 < x → Go p e below s n0 Q rc rs T (mkF m pf Ls st)) (Gn : ¬ (0 < x) → Go p e below s n0 Q rc rs T (mkF m pt Ls st)) : Go p e below s n0 Q rc rs T (mkF m pc Ls (.int x :: st)) := by
  obtain ⟨_, X, -⟩ := W; subst hp
  by_cases q : 0 < x
  · exact Go.stp (g' := mkF m (pc + 3) Ls st) (fun _ hr => XS.ifNo X.here K.1 rfl (hb K.2.2.1 hd) rfl (Jvm.Free.XT.i0_le_f q) hr) (Gp q)
  · exact Go.stp (g' := mkF m pt Ls st) (fun _ hr => XS.ifYes X.here K.1 rfl (pc0 := pc) rfl (hb K.2.2.1 hd) rfl (Jvm.Free.XT.i0_le_t q) (own_jmp ht).1 (own_jmp ht).2 hr) (Gn q)
theorem g_lcmp_le (K : Cx p s m meth c Z own nm bytes maxL ret) (W : Wd p l e R s m args below meth c n0 T h cs ss) {x y : Int64} {o : Int} {pc1 : Nat} (hd0 : decode bytes pc = .ok (.lcmp, 1)) (hp0 : pc + 1 = pc1) (hd : decode bytes pc1 = .ok (.ifCond .le o, 3)) (ht : (pc1 : Int) + o = (pt : Int)) (hp : pc1 + 3 = pf) (Gp : y < x → Go p e below s n0 Q rc rs T (mkF m pf Ls st)) (Gn : ¬ (y < x) → Go p e below s n0 Q rc rs T (mkF m pt Ls st)) : Go p e below s n0 Q rc rs T (mkF m pc Ls (.long y :: .long x :: st)) := by
  obtain ⟨_, X, -⟩ := W; subst hp hp0
  refine Go.stp (g' := mkF m (pc + 1) Ls (.int (Jvm.Free.XT.cmpL x y) :: st)) (fun _ hr => XS.lcmp X.here K.1 rfl (hb K.2.2.1 hd0) rfl hr) ?_
  by_cases q : y < x
  · exact Go.stp (g' := mkF m (pc + 1 + 3) Ls st) (fun _ hr => XS.ifNo X.here K.1 rfl (hb K.2.2.1 hd) rfl (Jvm.Free.XT.ll_le_f q) hr) (Gp q)
  · exact Go.stp (g' := mkF m pt Ls st) (fun _ hr => XS.ifYes X.here K.1 rfl (pc0 := pc + 1) rfl (hb K.2.2.1 hd) rfl (Jvm.Free.XT.ll_le_t q) (own_jmp ht).1 (own_jmp ht).2 hr) (Gn q)
theorem g_ifnull_t (K : Cx p s m meth c Z own nm bytes maxL ret) (W : Wd p l e R s m args below meth c n0 T h cs ss) {o : Int} (hd : decode bytes pc = .ok (.ifnull o, 3)) (ht : (pc : Int) + o = (pt : Int)) (G : Go p e below s n0 Q rc rs T (mkF m pt Ls st)) : Go p e below s n0 Q rc rs T (mkF m pc Ls (.null :: st)) := by
  obtain ⟨_, X, -⟩ := W
  exact Go.stp (g' := mkF m pt Ls st) (fun _ hr => XS.ifnullYes X.here K.1 rfl (pc0 := pc) rfl (hb K.2.2.1 hd) rfl (own_jmp ht).1 (own_jmp ht).2 hr) G
theorem g_ifnull_f (K : Cx p s m meth c Z own nm bytes maxL ret) (W : Wd p l e R s m args below meth c n0 T h cs ss) {o : Int} {b : Addr} (hd : decode bytes pc = .ok (.ifnull o, 3)) (hp : pc + 3 = pf) (G : Go p e below s n0 Q rc rs T (mkF m pf Ls st)) : Go p e below s n0 Q rc rs T (mkF m pc Ls (.ref b :: st)) := by
  obtain ⟨_, X, -⟩ := W; subst hp
  exact Go.stp (g' := mkF m (pc + 3) Ls st) (fun _ hr => XS.ifnullNo X.here K.1 rfl (hb K.2.2.1 hd) rfl hr) G
theorem g_ifnonnull_t (K : Cx p s m meth c Z own nm bytes maxL ret) (W : Wd p l e R s m args below meth c n0 T h cs ss) {o : Int} {b : Addr} (hd : decode bytes pc = .ok (.ifnonnull o, 3)) (ht : (pc : Int) + o = (pt : Int)) (G : Go p e below s n0 Q rc rs T (mkF m pt Ls st)) : Go p e below s n0 Q rc rs T (mkF m pc Ls (.ref b :: st)) := by
  obtain ⟨_, X, -⟩ := W
  exact Go.stp (g' := mkF m pt Ls st) (fun _ hr => XS.ifnonnullYes X.here K.1 rfl (pc0 := pc) rfl (hb K.2.2.1 hd) rfl (own_jmp ht).1 (own_jmp ht).2 hr) G
theorem g_ifnonnull_f (K : Cx p s m meth c Z own nm bytes maxL ret) (W : Wd p l e R s m args below meth c n0 T h cs ss) {o : Int} (hd : decode bytes pc = .ok (.ifnonnull o, 3)) (hp : pc + 3 = pf) (G : Go p e below s n0 Q rc rs T (mkF m pf Ls st)) : Go p e below s n0 Q rc rs T (mkF m pc Ls (.null :: st)) := by
  obtain ⟨_, X, -⟩ := W; subst hp
  exact Go.stp (g' := mkF m (pc + 3) Ls st) (fun _ hr => XS.ifnonnullNo X.here K.1 rfl (hb K.2.2.1 hd) rfl hr) G
/-! the steps that read the tables or the heap -/
theorem Wd.sz (W : Wd p l e R s m args below meth c n0 T h cs ss) : n0 ≤ h.size := by
  obtain ⟨_, X, _, eT, q⟩ := W
  have r : s.heap.size ≤ T.heap.size := X.same.2.1
  rw [eT] at r
  exact Nat.le_trans q r
theorem g_getF (K : Cx p s m meth c Z own nm bytes maxL ret) (W : Wd p l e R s m args below meth c n0 T h cs ss) {R0 O n d host : String} {index : Nat} {a : Addr} {v : Value} (w : (Jvm.Cond.fieldLink own index R0 n d).before a0 Z = true ∨ (Jvm.Cond.fieldLinkNest own index R0 n d host).before a0 Z = true) (via : Via Z R0 O n d) (F : Fld Z h a O n d v) (hd : decode bytes pc = .ok (.getfield index, 3)) (hp : pc + 3 = pc')
    (G : ∀ T', Wd p l e R s m args below meth c n0 T' h cs ss → Go p e below s n0 Q rc rs T' (mkF m pc' Ls (v :: st))) : Go p e below s n0 Q rc rs T (mkF m pc Ls (.ref a :: st)) := by
  obtain ⟨locs, X, N, eT, z⟩ := W; subst hp
  obtain ⟨T', X', e', q⟩ := getF X K.1 K.2.1 K.2.2.2.2.1 w via eT F (g := mkF m pc Ls (.ref a :: st)) rfl rfl (hb K.2.2.1 hd)
  exact Go.stp q (G T' ⟨locs, X', N, e', z⟩)
theorem g_putF (K : Cx p s m meth c Z own nm bytes maxL ret) (W : Wd p l e R s m args below meth c n0 T h cs ss) {R0 O n d host C : String} {index kk : Nat} {ty : FieldType} {a : Addr} {v old : Value} (w : (Jvm.Cond.fieldLink own index R0 n d).before a0 Z = true ∨ (Jvm.Cond.fieldLinkNest own index R0 n d host).before a0 Z = true) (via : Via Z R0 O n d) (F : Fld Z h a O n d old) (E : Exa Z h a C)
    (L : (Jvm.Cond.lays C O n d).before a0 Z = true ∨ ((Jvm.Cond.laysFinal C O n d).before a0 Z = true ∧ own = O ∧ nm = "<init>")) (wi : (Jvm.Cond.instantiable C kk).before a0 Z = true) (hty : parseFieldDescriptor d = some ty) (hn : narrow ty v = v) (hf : fits ty v = true) (ha : n0 ≤ a) (hd : decode bytes pc = .ok (.putfield index, 3)) (hp : pc + 3 = pc')
    (G : ∀ T' h', Wd p l e R s m args below meth c n0 T' h' cs ss → Wr h h' a (Jvm.RoadKit.slotOf Z O n d) v → Go p e below s n0 Q rc rs T' (mkF m pc' Ls st)) : Go p e below s n0 Q rc rs T (mkF m pc Ls (v :: .ref a :: st)) := by
  obtain ⟨locs, X, N, eT, z⟩ := W; subst hp
  obtain ⟨T', h', X', e', w', q⟩ := putF X K.1 K.2.1 K.2.2.2.2.1 w via eT F E (L.imp id fun y => ⟨y.1, y.2.1, K.2.2.2.2.2.2.2.trans y.2.2⟩) wi hty hn hf (g := mkF m pc Ls (v :: .ref a :: st)) rfl rfl (hb K.2.2.1 hd)
  exact Go.stp q (G T' h' ⟨_, X', Fr.snoc X' N ha, e', z⟩ w')
theorem g_new (K : Cx p s m meth c Z own nm bytes maxL ret) (W : Wd p l e R s m args below meth c n0 T h cs ss) {C : String} {index n : Nat} (w : (Jvm.Cond.classLink own index C).before a0 Z = true) (wi : (Jvm.Cond.instantiable C n).before a0 Z = true) (wz : (Jvm.Cond.initialized C).before a0 Z = true) (hd : decode bytes pc = .ok (.new index, 3)) (hp : pc + 3 = pc') (hc : cs + 1 ≤ R.cells) (hl : ss + n ≤ R.slots)
    (G : ∀ T' h' a, Wd p l e R s m args below meth c n0 T' h' (cs + 1) (ss + n) → Ext h h' → a = h.size → n0 ≤ a → Exa Z h' a C → (∀ {O nm d : String} {ty : FieldType}, Laid Z a0 C O nm d → parseFieldDescriptor d = some ty → Fld Z h' a O nm d (defaultValue ty)) → Go p e below s n0 Q rc rs T' (mkF m pc' Ls (.ref a :: st))) : Go p e below s n0 Q rc rs T (mkF m pc Ls st) := by
  have zz := W.sz
  obtain ⟨locs, X, N, eT, z⟩ := W; subst hp
  obtain ⟨T', h', X', e', E, A, D, -, q⟩ := newO X K.1 K.2.1 K.2.2.2.2.1 w wi wz eT (g := mkF m pc Ls st) rfl (hb K.2.2.1 hd) hc hl
  exact Go.stp q (G T' h' _ ⟨_, X', N, e', z⟩ E rfl zz A (fun {O nm d ty} a b => D a b))
/-! the ways out -/
theorem g_ret0 (K : Cx p s m meth c Z own nm bytes maxL none) (W : Wd p l e R s m args below meth c n0 T h cs ss) (hd : decode bytes pc = .ok (.return_, 1)) (h1 : cs ≤ rc) (h2 : ss ≤ rs) (q : Q none h) : Go p e below s n0 Q rc rs T (mkF m pc Ls []) := by
  obtain ⟨locs, X, N, eT, z⟩ := W
  obtain ⟨fs, hr, hrun, hended, hW, hsame⟩ := X.leave (v := none) (fun _ => rfl) K.2.2.2.2.2.2.1
  exact ⟨_, _, X.returnOut K.1 K.2.2.2.2.2.1 (hb K.2.2.1 hd) hr, hrun, hended, _, _, rfl, ⟨by show Q none T.heap; rw [eT]; exact q, N⟩, ⟨_, rfl⟩, hW, hsame.mono h1 h2⟩
theorem g_retN {t : FieldType} {x v : Int32} (K : Cx p s m meth c Z own nm bytes maxL (some t)) (W : Wd p l e R s m args below meth c n0 T h cs ss) (ht : t = .boolean ∨ t = .byte ∨ t = .char ∨ t = .short) (hd : decode bytes pc = .ok (.ireturn, 1)) (h1 : cs ≤ rc) (h2 : ss ≤ rs) (hv : nar t x = v) (q : Q (some (.int v)) h) : Go p e below s n0 Q rc rs T (mkF m pc Ls (.int x :: st)) := by
  obtain ⟨locs, X, N, eT, z⟩ := W; subst hv
  obtain ⟨fs, hr, hrun, hended, hW, hsame⟩ := X.leave (v := some (.int (nar t x))) (fun y => by rw [K.2.2.2.2.2.1] at y; cases y) K.2.2.2.2.2.2.1
  exact ⟨_, _, retN X K.1 K.2.2.2.2.2.1 ht (hb K.2.2.1 hd) hr, hrun, hended, _, _, rfl, ⟨by show Q _ T.heap; rw [eT]; exact q, N⟩, ⟨_, rfl⟩, hW, hsame.mono h1 h2⟩
theorem g_retI {x : Int32} (K : Cx p s m meth c Z own nm bytes maxL (some .int)) (W : Wd p l e R s m args below meth c n0 T h cs ss) (hd : decode bytes pc = .ok (.ireturn, 1)) (h1 : cs ≤ rc) (h2 : ss ≤ rs) (q : Q (some (.int x)) h) : Go p e below s n0 Q rc rs T (mkF m pc Ls (.int x :: st)) := by
  obtain ⟨locs, X, N, eT, z⟩ := W
  obtain ⟨fs, hr, hrun, hended, hW, hsame⟩ := X.leave (v := some (.int x)) (fun y => by rw [K.2.2.2.2.2.1] at y; cases y) K.2.2.2.2.2.2.1
  exact ⟨_, _, retOut X K.1 K.2.2.2.2.2.1 rfl (Or.inl ⟨rfl, Or.inl rfl, _, rfl⟩) (hb K.2.2.1 hd) hr, hrun, hended, _, _, rfl, ⟨by show Q _ T.heap; rw [eT]; exact q, N⟩, ⟨_, rfl⟩, hW, hsame.mono h1 h2⟩
theorem g_retL {x : Int64} (K : Cx p s m meth c Z own nm bytes maxL (some .long)) (W : Wd p l e R s m args below meth c n0 T h cs ss) (hd : decode bytes pc = .ok (.lreturn, 1)) (h1 : cs ≤ rc) (h2 : ss ≤ rs) (q : Q (some (.long x)) h) : Go p e below s n0 Q rc rs T (mkF m pc Ls (.long x :: st)) := by
  obtain ⟨locs, X, N, eT, z⟩ := W
  obtain ⟨fs, hr, hrun, hended, hW, hsame⟩ := X.leave (v := some (.long x)) (fun y => by rw [K.2.2.2.2.2.1] at y; cases y) K.2.2.2.2.2.2.1
  exact ⟨_, _, retOut X K.1 K.2.2.2.2.2.1 rfl (Or.inr (Or.inl ⟨rfl, rfl, _, rfl⟩)) (hb K.2.2.1 hd) hr, hrun, hended, _, _, rfl, ⟨by show Q _ T.heap; rw [eT]; exact q, N⟩, ⟨_, rfl⟩, hW, hsame.mono h1 h2⟩
theorem g_retA {t : FieldType} {x : Value} (K : Cx p s m meth c Z own nm bytes maxL (some t)) (W : Wd p l e R s m args below meth c n0 T h cs ss) (ht : t.isReference = true) (hn : narrow t x = x) (hx : x.isRef = true) (hd : decode bytes pc = .ok (.areturn, 1)) (h1 : cs ≤ rc) (h2 : ss ≤ rs) (q : Q (some x) h) : Go p e below s n0 Q rc rs T (mkF m pc Ls (x :: st)) := by
  obtain ⟨locs, X, N, eT, z⟩ := W
  obtain ⟨fs, hr, hrun, hended, hW, hsame⟩ := X.leave (v := some x) (fun y => by rw [K.2.2.2.2.2.1] at y; cases y) K.2.2.2.2.2.2.1
  exact ⟨_, _, retOut X K.1 K.2.2.2.2.2.1 hn (Or.inr (Or.inr (Or.inr (Or.inr ⟨rfl, ht, hx⟩)))) (hb K.2.2.1 hd) hr, hrun, hended, _, _, rfl, ⟨by show Q _ T.heap; rw [eT]; exact q, N⟩, ⟨_, rfl⟩, hW, hsame.mono h1 h2⟩
/-! the calls, each by its callee's contract -/
theorem g_callS {y : MethodName} {yb : ByteArray} {yl : Nat} {yr : Option FieldType} {rm : Room} {argsL : List Value} {Qc : Option Value → Heap → Prop} {index : Nat} (M : Mt l Z y yb yl yr rm n0 argsL.toArray h Qc) (K : Cx p s m meth c Z own nm bytes maxL ret) (W : Wd p l e R s m args below meth c n0 T h cs ss)
    (wl : (Jvm.Cond.methodLink own index y).before a0 Z = true) (ws : (Jvm.Cond.static y).before a0 Z = true) (wi : (Jvm.Cond.initialized y.cls).before a0 Z = true) (wc : (Jvm.Cond.code y yb yl yr).before a0 Z = true) (hy : y.cls ≠ "java/lang/invoke/MethodHandle" ∧ y.cls ≠ "java/lang/invoke/VarHandle")
    (hlen : ∀ sig, parseMethodDescriptor y.desc = some sig → argsL.length = sig.parameters.length) (hd : decode bytes pc = .ok (.invokestatic index, 3)) (hp : pc + 3 = pc') (hst : st = argsL.reverse ++ rest) (hsz : Ls.size = maxL) (hf : rm.frames + 1 ≤ R.frames) {wt : Nat} (hwt : (rest.map fun v => v.category).sum = wt) (hl : wt + (yl + 11) + rm.locals ≤ R.locals) (hc : cs + rm.cells ≤ R.cells) (hs : ss + rm.slots ≤ R.slots)
    (G : ∀ T' h' v, Wd p l e R s m args below meth c n0 T' h' (cs + rm.cells) (ss + rm.slots) → Qc v h' → Go p e below s n0 Q rc rs T' (mkF m pc' Ls (v.toList ++ rest))) : Go p e below s n0 Q rc rs T (mkF m pc Ls st) := by
  obtain ⟨locs, X, N, eT, z⟩ := W; subst hp hwt
  obtain ⟨v, _, ⟨T', L', k', n'⟩, -, X', ⟨Lc, hQ, l1, l2, l3⟩, q⟩ := Jvm.LawKit.callS X K.1 (y := y) K.2.2.2.2.1 (mvT K.2.1 wl) (mvT K.2.1 ws) (mvT K.2.1 wi) (mvT K.2.1 wc) hy (backOf (W := (rest.map fun v => v.category).sum) (Q := fun v hh L => Qc v hh ∧ Fr n0 L) (M []) K.2.1 wc wi hf hl) (g := mkF m pc Ls st) rfl (hsz.trans K.2.2.2.1.symm) (argsL := argsL) (rest := rest) hlen hst (by show 2 * 0 + _ ≤ _; omega) (hb K.2.2.1 hd) (fun _ _ => ⟨rfl, eT, hc, hs⟩)
  dsimp only [Pt.U, Pt.locs, Pt.cells, Pt.slots] at X' l1 l2 l3 q hQ
  subst l1 l2 l3
  exact Go.stp q (G T' T'.heap v ⟨_, X', Fr.app N hQ.2, rfl, z⟩ hQ.1)
theorem g_callN {y : MethodName} {yb : ByteArray} {yl : Nat} {rm : Room} {argsL : List Value} {Qc : Option Value → Heap → Prop} {index : Nat} {a : Addr} (M : Mt l Z y yb yl none rm n0 (.ref a :: argsL).toArray h Qc) (K : Cx p s m meth c Z own nm bytes maxL ret) (W : Wd p l e R s m args below meth c n0 T h cs ss) (hy1 : y.name = "<init>")
    (wl : (Jvm.Cond.methodLink own index y).before a0 Z = true) (ws : (Jvm.Cond.instanceMethod y).before a0 Z = true) (wi : (Jvm.Cond.initialized y.cls).before a0 Z = true) (wc : (Jvm.Cond.code y yb yl none).before a0 Z = true) (hy : y.cls ≠ "java/lang/invoke/MethodHandle" ∧ y.cls ≠ "java/lang/invoke/VarHandle")
    (hlen : ∀ sig, parseMethodDescriptor y.desc = some sig → argsL.length = sig.parameters.length) (hd : decode bytes pc = .ok (.invokespecial index, 3)) (hp : pc + 3 = pc') (hst : st = argsL.reverse ++ .ref a :: rest) (hsz : Ls.size = maxL) (hf : rm.frames + 1 ≤ R.frames) {wt : Nat} (hwt : (rest.map fun v => v.category).sum = wt) (hl : wt + (yl + 11) + rm.locals ≤ R.locals) (hc : cs + rm.cells ≤ R.cells) (hs : ss + rm.slots ≤ R.slots)
    (G : ∀ T' h' v, Wd p l e R s m args below meth c n0 T' h' (cs + rm.cells) (ss + rm.slots) → Qc v h' → Go p e below s n0 Q rc rs T' (mkF m pc' Ls (v.toList ++ rest))) : Go p e below s n0 Q rc rs T (mkF m pc Ls st) := by
  obtain ⟨locs, X, N, eT, z⟩ := W; subst hp hwt
  obtain ⟨v, _, ⟨T', L', k', n'⟩, -, X', ⟨Lc, hQ, l1, l2, l3⟩, q⟩ := X.specialBack K.1 (y := y) hy1 K.2.2.2.2.1 (mvT K.2.1 wl) (mvT K.2.1 ws) (mvT K.2.1 wc) hy (backOf (W := (rest.map fun v => v.category).sum) (Q := fun v hh L => Qc v hh ∧ Fr n0 L) (M []) K.2.1 wc wi hf hl) (g := mkF m pc Ls st) rfl (hsz.trans K.2.2.2.1.symm) (Steps.refl _) (a := a) (argsL := argsL) (rest := rest) hlen hst (by show 2 * 0 + _ ≤ _; omega) (hb K.2.2.1 hd) (fun _ _ => ⟨rfl, eT, hc, hs⟩)
  dsimp only [Pt.U, Pt.locs, Pt.cells, Pt.slots] at X' l1 l2 l3 q hQ
  subst l1 l2 l3
  exact Go.stp (fun _ k => q.trans k) (G T' T'.heap v ⟨_, X', Fr.app N hQ.2, rfl, z⟩ hQ.1)
theorem g_callV {y : MethodName} {yb : ByteArray} {yl : Nat} {yr : Option FieldType} {rm : Room} {argsL : List Value} {Qc : Option Value → Heap → Prop} {index : Nat} {C : String} {a : Addr} {x : MethodName} (M : Mt l Z y yb yl yr rm n0 (.ref a :: argsL).toArray h Qc) (K : Cx p s m meth c Z own nm bytes maxL ret) (W : Wd p l e R s m args below meth c n0 T h cs ss) (E : Exa Z h a C)
    (wl : (Jvm.Cond.methodLink own index x).before a0 Z = true) (wd : (Jvm.Cond.declares x).before a0 Z = true) (wx : (Jvm.Cond.selects x.cls x x).before a0 Z = true) (wsel : (Jvm.Cond.selects C x y).before a0 Z = true) (ws : (Jvm.Cond.instanceMethod y).before a0 Z = true) (wi : (Jvm.Cond.initialized y.cls).before a0 Z = true) (wc : (Jvm.Cond.code y yb yl yr).before a0 Z = true) (hy : x.cls ≠ "java/lang/invoke/MethodHandle" ∧ x.cls ≠ "java/lang/invoke/VarHandle")
    (hlen : ∀ sig, parseMethodDescriptor x.desc = some sig → argsL.length = sig.parameters.length) (hd : decode bytes pc = .ok (.invokevirtual index, 3)) (hp : pc + 3 = pc') (hst : st = argsL.reverse ++ .ref a :: rest) (hsz : Ls.size = maxL) (hf : rm.frames + 1 ≤ R.frames) {wt : Nat} (hwt : (rest.map fun v => v.category).sum = wt) (hl : wt + (yl + 11) + rm.locals ≤ R.locals) (hc : cs + rm.cells ≤ R.cells) (hs : ss + rm.slots ≤ R.slots)
    (G : ∀ T' h' v, Wd p l e R s m args below meth c n0 T' h' (cs + rm.cells) (ss + rm.slots) → Qc v h' → Go p e below s n0 Q rc rs T' (mkF m pc' Ls (v.toList ++ rest))) : Go p e below s n0 Q rc rs T (mkF m pc Ls st) := by
  obtain ⟨locs, X, N, eT, z⟩ := W; subst hp hwt
  obtain ⟨cq, kq, qa, qb, qc⟩ := isOf K.2.1 eT E
  obtain ⟨v, _, ⟨T', L', k', n'⟩, -, X', ⟨Lc, hQ, l1, l2, l3⟩, q⟩ := X.virtualBack K.1 (y := x) (z := y) K.2.2.2.2.1 (mvT K.2.1 wl) (mvT K.2.1 wd) (notFace_of_selects (args := #[]) (mvT K.2.1 wx)) (mvT K.2.1 wsel) (mvT K.2.1 ws) hy (backOf (W := (rest.map fun v => v.category).sum) (Q := fun v hh L => Qc v hh ∧ Fr n0 L) (M []) K.2.1 wc wi hf hl) qa qc (g := mkF m pc Ls st) rfl (hsz.trans K.2.2.2.1.symm) (Steps.refl _) (argsL := argsL) (rest := rest) hlen hst (by show 2 * 0 + _ ≤ _; omega) (hb K.2.2.1 hd) (fun _ _ => ⟨rfl, eT, hc, hs⟩)
  dsimp only [Pt.U, Pt.locs, Pt.cells, Pt.slots] at X' l1 l2 l3 q hQ
  subst l1 l2 l3
  exact Go.stp (fun _ k => q.trans k) (G T' T'.heap v ⟨_, X', Fr.app N hQ.2, rfl, z⟩ hQ.1)
theorem g_callP {y : MethodName} {yb : ByteArray} {yl : Nat} {yr : Option FieldType} {rm : Room} {argsL : List Value} {Qc : Option Value → Heap → Prop} {index : Nat} {a : Addr} (M : Mt l Z y yb yl yr rm n0 (.ref a :: argsL).toArray h Qc) (K : Cx p s m meth c Z own nm bytes maxL ret) (W : Wd p l e R s m args below meth c n0 T h cs ss) (hcell : ∃ c : Cell, h[a]? = some c ∧ ∀ q, c.vm ≠ .statics q)
    (wl : (Jvm.Cond.methodLink own index y).before a0 Z = true) (ws : (Jvm.Cond.instanceMethod y).before a0 Z = true) {kk : Nat} (wk : (Jvm.Cond.instantiable y.cls kk).before a0 Z = true) (wp : (Jvm.Cond.privateMethod y).before a0 Z = true) (wi : (Jvm.Cond.initialized y.cls).before a0 Z = true) (wc : (Jvm.Cond.code y yb yl yr).before a0 Z = true) (hy : y.cls ≠ "java/lang/invoke/MethodHandle" ∧ y.cls ≠ "java/lang/invoke/VarHandle")
    (hlen : ∀ sig, parseMethodDescriptor y.desc = some sig → argsL.length = sig.parameters.length) (hd : decode bytes pc = .ok (.invokevirtual index, 3)) (hp : pc + 3 = pc') (hst : st = argsL.reverse ++ .ref a :: rest) (hsz : Ls.size = maxL) (hf : rm.frames + 1 ≤ R.frames) {wt : Nat} (hwt : (rest.map fun v => v.category).sum = wt) (hl : wt + (yl + 11) + rm.locals ≤ R.locals) (hc : cs + rm.cells ≤ R.cells) (hs : ss + rm.slots ≤ R.slots)
    (G : ∀ T' h' v, Wd p l e R s m args below meth c n0 T' h' (cs + rm.cells) (ss + rm.slots) → Qc v h' → Go p e below s n0 Q rc rs T' (mkF m pc' Ls (v.toList ++ rest))) : Go p e below s n0 Q rc rs T (mkF m pc Ls st) := by
  obtain ⟨locs, X, N, eT, z⟩ := W; subst hp hwt
  obtain ⟨cl, hc1, hc2⟩ := hcell
  have wk' : (Jvm.Cond.instantiable y.cls kk).before args s = true := mvT K.2.1 wk
  obtain ⟨ck, kc, f1, f2, f3, f4, -⟩ := Jvm.Cond.instantiable_spec wk'
  have hpr : s.PrivateAt y := Jvm.Cond.privateMethod_at (mvP K.2.1 wp (args := #[]))
  have hsel : (Jvm.Cond.selects y.cls y y).before args s = true := Jvm.Stand.selects_self_of_private f1 f2 (by simpa using (Bool.or_eq_false_iff.mp f4).1) hpr (mvT K.2.1 ws) hy
  obtain ⟨v, _, ⟨T', L', k', n'⟩, -, X', ⟨Lc, hQ, l1, l2, l3⟩, q⟩ := X.privateBack K.1 (y := y) K.2.2.2.2.1 (mvT K.2.1 wl) (mvT K.2.1 ws) hsel hpr (mvT K.2.1 wc) hy (backOf (W := (rest.map fun v => v.category).sum) (Q := fun v hh L => Qc v hh ∧ Fr n0 L) (M []) K.2.1 wc wi hf hl) (g := mkF m pc Ls st) rfl (hsz.trans K.2.2.2.1.symm) (Steps.refl _) (a := a) (by rw [eT]; exact hc1) hc2 (argsL := argsL) (rest := rest) hlen hst (by show 2 * 0 + _ ≤ _; omega) (hb K.2.2.1 hd) (fun _ _ => ⟨rfl, eT, hc, hs⟩)
  dsimp only [Pt.U, Pt.locs, Pt.cells, Pt.slots] at X' l1 l2 l3 q hQ
  subst l1 l2 l3
  exact Go.stp (fun _ k => q.trans k) (G T' T'.heap v ⟨_, X', Fr.app N hQ.2, rfl, z⟩ hQ.1)
/-! arrays: n places, place j holds f j -/
def AyI (Z : State) (h : Heap) (a : Addr) (ty : FieldType) (n : Nat) (f : Nat → Int32) : Prop := ∃ cl : Cell, Arr Z h a cl ty ∧ cl.slots.size = n ∧ ∀ j, j < n → cl.slots[j]? = some (.int (f j))
def AyJ (Z : State) (h : Heap) (a : Addr) (n : Nat) (f : Nat → Int64) : Prop := ∃ cl : Cell, Arr Z h a cl .long ∧ cl.slots.size = n ∧ ∀ j, j < n → cl.slots[j]? = some (.long (f j))
def upd {α : Type} (f : Nat → α) (k : Nat) (v : α) : Nat → α := fun j => if j = k then v else f j
theorem upd_same {α : Type} (f : Nat → α) (k : Nat) (v : α) : upd f k v k = v := if_pos rfl
theorem upd_ne {α : Type} (f : Nat → α) {k j : Nat} (v : α) (q : j ≠ k) : upd f k v j = f j := if_neg q
theorem own_ix {j : Int32} {k : Nat} (hj : j.toInt = (k : Int)) : ¬ j < 0 ∧ j.toNatClampNeg = k := by
  refine ⟨fun q => ?_, ?_⟩
  · rw [Int32.lt_iff_toInt_lt, hj, show (0 : Int32).toInt = 0 from rfl] at q; omega
  · rw [Int32.toNatClampNeg, hj]; rfl
theorem own_in {j : Int32} {k n : Nat} (hj : j.toInt = (k : Int)) (hk : k < n) {cl : Cell} (hs : cl.slots.size = n) : ¬ (j < 0 ∨ cl.slots.size ≤ j.toNatClampNeg) := by
  rw [(own_ix hj).2, hs]
  exact fun q => q.elim (own_ix hj).1 (fun q => by omega)
theorem AyI.lt {a : Addr} {ty : FieldType} {n : Nat} {f : Nat → Int32} (A : AyI Z h a ty n f) : a < h.size := by obtain ⟨_, q, -⟩ := A; exact q.lt
theorem AyJ.lt {a : Addr} {n : Nat} {f : Nat → Int64} (A : AyJ Z h a n f) : a < h.size := by obtain ⟨_, q, -⟩ := A; exact q.lt
theorem AyI.ext {h' : Heap} {a : Addr} {ty : FieldType} {n : Nat} {f : Nat → Int32} (A : AyI Z h a ty n f) (E : Ext h h') : AyI Z h' a ty n f := by obtain ⟨cl, q, r⟩ := A; exact ⟨cl, q.ext E, r⟩
theorem AyJ.ext {h' : Heap} {a : Addr} {n : Nat} {f : Nat → Int64} (A : AyJ Z h a n f) (E : Ext h h') : AyJ Z h' a n f := by obtain ⟨cl, q, r⟩ := A; exact ⟨cl, q.ext E, r⟩
theorem AyI.other {h' : Heap} {a b : Addr} {sl : Nat} {v : Value} {ty : FieldType} {n : Nat} {f : Nat → Int32} (A : AyI Z h b ty n f) (w : Wr h h' a sl v) (q : b ≠ a) : AyI Z h' b ty n f := by obtain ⟨cl, x, r⟩ := A; exact ⟨cl, x.other w q, r⟩
theorem AyJ.other {h' : Heap} {a b : Addr} {sl : Nat} {v : Value} {n : Nat} {f : Nat → Int64} (A : AyJ Z h b n f) (w : Wr h h' a sl v) (q : b ≠ a) : AyJ Z h' b n f := by obtain ⟨cl, x, r⟩ := A; exact ⟨cl, x.other w q, r⟩
theorem AyI.keep {h' : Heap} {a : Addr} {ws : List Addr} {ty : FieldType} {n : Nat} {f : Nat → Int32} (A : AyI Z h a ty n f) (k : Keep h h' ws) (q : a ∉ ws) : AyI Z h' a ty n f := by obtain ⟨cl, x, r⟩ := A; exact ⟨cl, ⟨k.2.1 a cl x.1 q, x.2⟩, r⟩
theorem AyJ.keep {h' : Heap} {a : Addr} {ws : List Addr} {n : Nat} {f : Nat → Int64} (A : AyJ Z h a n f) (k : Keep h h' ws) (q : a ∉ ws) : AyJ Z h' a n f := by obtain ⟨cl, x, r⟩ := A; exact ⟨cl, ⟨k.2.1 a cl x.1 q, x.2⟩, r⟩
theorem AyI.same {h' : Heap} {a : Addr} {k : Nat} {x : Int32} {ty : FieldType} {n : Nat} {f : Nat → Int32} (A : AyI Z h a ty n f) (w : Wr h h' a k (.int x)) : AyI Z h' a ty n (upd f k x) := by
  obtain ⟨cl, q, r1, r2⟩ := A
  refine ⟨_, q.same w, by simpa [Cell.setSlot] using r1, fun j hj => ?_⟩
  by_cases e : j = k
  · subst e; rw [upd_same]; simp [Cell.setSlot, Array.getElem?_setIfInBounds, r1, hj]
  · rw [upd_ne f x e, ← r2 j hj]; simp [Cell.setSlot, Array.getElem?_setIfInBounds, Ne.symm e]
theorem AyJ.same {h' : Heap} {a : Addr} {k : Nat} {x : Int64} {n : Nat} {f : Nat → Int64} (A : AyJ Z h a n f) (w : Wr h h' a k (.long x)) : AyJ Z h' a n (upd f k x) := by
  obtain ⟨cl, q, r1, r2⟩ := A
  refine ⟨_, q.same w, by simpa [Cell.setSlot] using r1, fun j hj => ?_⟩
  by_cases e : j = k
  · subst e; rw [upd_same]; simp [Cell.setSlot, Array.getElem?_setIfInBounds, r1, hj]
  · rw [upd_ne f x e, ← r2 j hj]; simp [Cell.setSlot, Array.getElem?_setIfInBounds, Ne.symm e]
theorem g_alenI (K : Cx p s m meth c Z own nm bytes maxL ret) (W : Wd p l e R s m args below meth c n0 T h cs ss) {a : Addr} {ty : FieldType} {n : Nat} {f : Nat → Int32} (A : AyI Z h a ty n f) {v : Int32} (hv : Int32.ofNat n = v) (hd : decode bytes pc = .ok (.arraylength, 1)) (hp : pc + 1 = pc')
    (G : Go p e below s n0 Q rc rs T (mkF m pc' Ls (.int v :: st))) : Go p e below s n0 Q rc rs T (mkF m pc Ls (.ref a :: st)) := by
  obtain ⟨_, X, N, eT, z⟩ := W; subst hp
  obtain ⟨cl, q, r1, r2⟩ := A
  refine Go.stp (g' := mkF m (pc + 1) Ls (.int v :: st)) (fun _ hr => X.arraylength K.1 (cell := cl) (by rw [eT]; exact q.1) (State.isArrayOf_alike K.2.1.alike q.2.1) (g := mkF m pc Ls (.ref a :: st)) rfl (rest := st) rfl (hb K.2.2.1 hd) _ ?_) G
  rw [r1, show n.toInt32 = v from hv]
  exact hr
theorem g_alenJ (K : Cx p s m meth c Z own nm bytes maxL ret) (W : Wd p l e R s m args below meth c n0 T h cs ss) {a : Addr} {n : Nat} {f : Nat → Int64} (A : AyJ Z h a n f) {v : Int32} (hv : Int32.ofNat n = v) (hd : decode bytes pc = .ok (.arraylength, 1)) (hp : pc + 1 = pc')
    (G : Go p e below s n0 Q rc rs T (mkF m pc' Ls (.int v :: st))) : Go p e below s n0 Q rc rs T (mkF m pc Ls (.ref a :: st)) := by
  obtain ⟨_, X, N, eT, z⟩ := W; subst hp
  obtain ⟨cl, q, r1, r2⟩ := A
  refine Go.stp (g' := mkF m (pc + 1) Ls (.int v :: st)) (fun _ hr => X.arraylength K.1 (cell := cl) (by rw [eT]; exact q.1) (State.isArrayOf_alike K.2.1.alike q.2.1) (g := mkF m pc Ls (.ref a :: st)) rfl (rest := st) rfl (hb K.2.2.1 hd) _ ?_) G
  rw [r1, show n.toInt32 = v from hv]
  exact hr
theorem g_iaload (K : Cx p s m meth c Z own nm bytes maxL ret) (W : Wd p l e R s m args below meth c n0 T h cs ss) {a : Addr} {n k : Nat} {f : Nat → Int32} {j v : Int32} (A : AyI Z h a .int n f) (hj : j.toInt = (k : Int)) (hk : k < n) (hv : f k = v) (hd : decode bytes pc = .ok (.iaload, 1)) (hp : pc + 1 = pc')
    (G : Go p e below s n0 Q rc rs T (mkF m pc' Ls (.int v :: st))) : Go p e below s n0 Q rc rs T (mkF m pc Ls (.int j :: .ref a :: st)) := by
  obtain ⟨_, X, N, eT, z⟩ := W; subst hp hv
  obtain ⟨cl, q, r1, r2⟩ := A
  exact Go.stp (g' := mkF m (pc + 1) Ls (.int (f k) :: st)) (fun _ hr => X.iaload K.1 (by rw [eT]; exact q.1) (State.isArrayOf_alike K.2.1.alike q.2.1) q.2.2 (own_in hj hk r1) (by rw [(own_ix hj).2]; exact r2 k hk) (g := mkF m pc Ls (.int j :: .ref a :: st)) rfl rfl (hb K.2.2.1 hd) _ hr) G
theorem g_baload (K : Cx p s m meth c Z own nm bytes maxL ret) (W : Wd p l e R s m args below meth c n0 T h cs ss) {a : Addr} {n k : Nat} {f : Nat → Int32} {j v : Int32} (A : AyI Z h a .byte n f) (hj : j.toInt = (k : Int)) (hk : k < n) (hv : f k = v) (hd : decode bytes pc = .ok (.baload, 1)) (hp : pc + 1 = pc')
    (G : Go p e below s n0 Q rc rs T (mkF m pc' Ls (.int v :: st))) : Go p e below s n0 Q rc rs T (mkF m pc Ls (.int j :: .ref a :: st)) := by
  obtain ⟨_, X, N, eT, z⟩ := W; subst hp hv
  obtain ⟨cl, q, r1, r2⟩ := A
  exact Go.stp (g' := mkF m (pc + 1) Ls (.int (f k) :: st)) (fun _ hr => X.baloadBytes K.1 (by rw [eT]; exact q.1) (State.isArrayOf_alike K.2.1.alike q.2.1) q.2.2 (own_in hj hk r1) (by rw [(own_ix hj).2]; exact r2 k hk) (g := mkF m pc Ls (.int j :: .ref a :: st)) rfl rfl (hb K.2.2.1 hd) _ hr) G
theorem g_zaload (K : Cx p s m meth c Z own nm bytes maxL ret) (W : Wd p l e R s m args below meth c n0 T h cs ss) {a : Addr} {n k : Nat} {f : Nat → Int32} {j v : Int32} (A : AyI Z h a .boolean n f) (hj : j.toInt = (k : Int)) (hk : k < n) (hv : f k = v) (hd : decode bytes pc = .ok (.baload, 1)) (hp : pc + 1 = pc')
    (G : Go p e below s n0 Q rc rs T (mkF m pc' Ls (.int v :: st))) : Go p e below s n0 Q rc rs T (mkF m pc Ls (.int j :: .ref a :: st)) := by
  obtain ⟨_, X, N, eT, z⟩ := W; subst hp hv
  obtain ⟨cl, q, r1, r2⟩ := A
  exact Go.stp (g' := mkF m (pc + 1) Ls (.int (f k) :: st)) (fun _ hr => X.baloadBooleans K.1 (by rw [eT]; exact q.1) (State.isArrayOf_alike K.2.1.alike q.2.1) q.2.2 (own_in hj hk r1) (by rw [(own_ix hj).2]; exact r2 k hk) (g := mkF m pc Ls (.int j :: .ref a :: st)) rfl rfl (hb K.2.2.1 hd) _ hr) G
theorem g_laload (K : Cx p s m meth c Z own nm bytes maxL ret) (W : Wd p l e R s m args below meth c n0 T h cs ss) {a : Addr} {n k : Nat} {f : Nat → Int64} {j : Int32} {v : Int64} (A : AyJ Z h a n f) (hj : j.toInt = (k : Int)) (hk : k < n) (hv : f k = v) (hd : decode bytes pc = .ok (.laload, 1)) (hp : pc + 1 = pc')
    (G : Go p e below s n0 Q rc rs T (mkF m pc' Ls (.long v :: st))) : Go p e below s n0 Q rc rs T (mkF m pc Ls (.int j :: .ref a :: st)) := by
  obtain ⟨_, X, N, eT, z⟩ := W; subst hp hv
  obtain ⟨cl, q, r1, r2⟩ := A
  exact Go.stp (g' := mkF m (pc + 1) Ls (.long (f k) :: st)) (fun _ hr => X.laload K.1 (by rw [eT]; exact q.1) (State.isArrayOf_alike K.2.1.alike q.2.1) q.2.2 (own_in hj hk r1) (by rw [(own_ix hj).2]; exact r2 k hk) (g := mkF m pc Ls (.int j :: .ref a :: st)) rfl rfl (hb K.2.2.1 hd) _ hr) G
theorem g_bastore (K : Cx p s m meth c Z own nm bytes maxL ret) (W : Wd p l e R s m args below meth c n0 T h cs ss) {a : Addr} {n k : Nat} {f : Nat → Int32} {j x : Int32} (A : AyI Z h a .byte n f) (hj : j.toInt = (k : Int)) (hk : k < n) (ha : n0 ≤ a) (hd : decode bytes pc = .ok (.bastore, 1)) (hp : pc + 1 = pc')
    (G : ∀ T' h', Wd p l e R s m args below meth c n0 T' h' cs ss → Wr h h' a k (.int x.toInt8.toInt32) → AyI Z h' a .byte n (upd f k x.toInt8.toInt32) → Go p e below s n0 Q rc rs T' (mkF m pc' Ls st)) : Go p e below s n0 Q rc rs T (mkF m pc Ls (.int x :: .int j :: .ref a :: st)) := by
  obtain ⟨locs, X, N, eT, z⟩ := W; subst hp
  have A0 := A
  obtain ⟨cl, q, r1, r2⟩ := A
  obtain ⟨T', h', X', e', w', st'⟩ := stB X K.1 K.2.1 eT q (own_in hj hk r1) (g := mkF m pc Ls (.int x :: .int j :: .ref a :: st)) rfl rfl (hb K.2.2.1 hd)
  rw [(own_ix hj).2] at w' X'
  exact Go.stp st' (G T' h' ⟨_, X', Fr.snoc X' N ha, e', z⟩ w' (A0.same w'))
theorem g_zastore (K : Cx p s m meth c Z own nm bytes maxL ret) (W : Wd p l e R s m args below meth c n0 T h cs ss) {a : Addr} {n k : Nat} {f : Nat → Int32} {j x : Int32} (A : AyI Z h a .boolean n f) (hj : j.toInt = (k : Int)) (hk : k < n) (ha : n0 ≤ a) (hd : decode bytes pc = .ok (.bastore, 1)) (hp : pc + 1 = pc')
    (G : ∀ T' h', Wd p l e R s m args below meth c n0 T' h' cs ss → Wr h h' a k (.int (x &&& 1)) → AyI Z h' a .boolean n (upd f k (x &&& 1)) → Go p e below s n0 Q rc rs T' (mkF m pc' Ls st)) : Go p e below s n0 Q rc rs T (mkF m pc Ls (.int x :: .int j :: .ref a :: st)) := by
  obtain ⟨locs, X, N, eT, z⟩ := W; subst hp
  have A0 := A
  obtain ⟨cl, q, r1, r2⟩ := A
  obtain ⟨T', h', X', e', w', st'⟩ := stZ X K.1 K.2.1 eT q (own_in hj hk r1) (g := mkF m pc Ls (.int x :: .int j :: .ref a :: st)) rfl rfl (hb K.2.2.1 hd)
  rw [(own_ix hj).2] at w' X'
  exact Go.stp st' (G T' h' ⟨_, X', Fr.snoc X' N ha, e', z⟩ w' (A0.same w'))
theorem g_iastore (K : Cx p s m meth c Z own nm bytes maxL ret) (W : Wd p l e R s m args below meth c n0 T h cs ss) {a : Addr} {n k : Nat} {f : Nat → Int32} {j x : Int32} (A : AyI Z h a .int n f) (hj : j.toInt = (k : Int)) (hk : k < n) (ha : n0 ≤ a) (hd : decode bytes pc = .ok (.iastore, 1)) (hp : pc + 1 = pc')
    (G : ∀ T' h', Wd p l e R s m args below meth c n0 T' h' cs ss → Wr h h' a k (.int x) → AyI Z h' a .int n (upd f k x) → Go p e below s n0 Q rc rs T' (mkF m pc' Ls st)) : Go p e below s n0 Q rc rs T (mkF m pc Ls (.int x :: .int j :: .ref a :: st)) := by
  obtain ⟨locs, X, N, eT, z⟩ := W; subst hp
  have A0 := A
  obtain ⟨cl, q, r1, r2⟩ := A
  obtain ⟨T', h', X', e', w', st'⟩ := stI X K.1 K.2.1 eT q (own_in hj hk r1) (g := mkF m pc Ls (.int x :: .int j :: .ref a :: st)) rfl rfl (hb K.2.2.1 hd)
  rw [(own_ix hj).2] at w' X'
  exact Go.stp st' (G T' h' ⟨_, X', Fr.snoc X' N ha, e', z⟩ w' (A0.same w'))
theorem g_lastore (K : Cx p s m meth c Z own nm bytes maxL ret) (W : Wd p l e R s m args below meth c n0 T h cs ss) {a : Addr} {n k : Nat} {f : Nat → Int64} {j : Int32} {x : Int64} (A : AyJ Z h a n f) (hj : j.toInt = (k : Int)) (hk : k < n) (ha : n0 ≤ a) (hd : decode bytes pc = .ok (.lastore, 1)) (hp : pc + 1 = pc')
    (G : ∀ T' h', Wd p l e R s m args below meth c n0 T' h' cs ss → Wr h h' a k (.long x) → AyJ Z h' a n (upd f k x) → Go p e below s n0 Q rc rs T' (mkF m pc' Ls st)) : Go p e below s n0 Q rc rs T (mkF m pc Ls (.long x :: .int j :: .ref a :: st)) := by
  obtain ⟨locs, X, N, eT, z⟩ := W; subst hp
  have A0 := A
  obtain ⟨cl, q, r1, r2⟩ := A
  obtain ⟨T', h', X', e', w', st'⟩ := stJ X K.1 K.2.1 eT q (own_in hj hk r1) (g := mkF m pc Ls (.long x :: .int j :: .ref a :: st)) rfl rfl (hb K.2.2.1 hd)
  rw [(own_ix hj).2] at w' X'
  exact Go.stp st' (G T' h' ⟨_, X', Fr.snoc X' N ha, e', z⟩ w' (A0.same w'))
theorem g_newI (K : Cx p s m meth c Z own nm bytes maxL ret) (W : Wd p l e R s m args below meth c n0 T h cs ss) {aty : ArrayType} {ty : FieldType} {j : Int32} {n cap : Nat} (w : (Jvm.Cond.arrayClass ty).before a0 Z = true) (hty : newarray.typeOf aty = ty) (hdf : defaultValue ty = .int 0) (hj : j.toInt = (n : Int)) (hcap : n ≤ cap) (hd : decode bytes pc = .ok (.newarray aty, 2)) (hp : pc + 2 = pc') (hb8 : cap * 8 ≤ 536870912) (hc : cs + 1 ≤ R.cells) (hl : ss + cap ≤ R.slots)
    (G : ∀ T' h' a, Wd p l e R s m args below meth c n0 T' h' (cs + 1) (ss + cap) → Ext h h' → a = h.size → n0 ≤ a → AyI Z h' a ty n (fun _ => 0) → Go p e below s n0 Q rc rs T' (mkF m pc' Ls (.ref a :: st))) : Go p e below s n0 Q rc rs T (mkF m pc Ls (.int j :: st)) := by
  have zz := W.sz
  obtain ⟨locs, X, N, eT, z⟩ := W; subst hp hty
  obtain ⟨T', h', kA, X', e', E, A, q⟩ := newP X K.1 K.2.1 w eT (g := mkF m pc Ls (.int j :: st)) rfl (hb K.2.2.1 hd) rfl (own_ix hj).1 (cap := cap) (by rw [(own_ix hj).2]; exact hcap) hb8 hc hl
  refine Go.stp q (G T' h' _ ⟨_, X', N, e', z⟩ E rfl zz ⟨_, A, by rw [sz_new, (own_ix hj).2], fun i hi => ?_⟩)
  rw [← hdf]
  simp [newA, (own_ix hj).2, hi]
theorem g_newJ (K : Cx p s m meth c Z own nm bytes maxL ret) (W : Wd p l e R s m args below meth c n0 T h cs ss) {j : Int32} {n cap : Nat} (w : (Jvm.Cond.arrayClass .long).before a0 Z = true) (hj : j.toInt = (n : Int)) (hcap : n ≤ cap) (hd : decode bytes pc = .ok (.newarray .long, 2)) (hp : pc + 2 = pc') (hb8 : cap * 8 ≤ 536870912) (hc : cs + 1 ≤ R.cells) (hl : ss + cap ≤ R.slots)
    (G : ∀ T' h' a, Wd p l e R s m args below meth c n0 T' h' (cs + 1) (ss + cap) → Ext h h' → a = h.size → n0 ≤ a → AyJ Z h' a n (fun _ => 0) → Go p e below s n0 Q rc rs T' (mkF m pc' Ls (.ref a :: st))) : Go p e below s n0 Q rc rs T (mkF m pc Ls (.int j :: st)) := by
  have zz := W.sz
  obtain ⟨locs, X, N, eT, z⟩ := W; subst hp
  obtain ⟨T', h', kA, X', e', E, A, q⟩ := newP X K.1 K.2.1 (aty := .long) w eT (g := mkF m pc Ls (.int j :: st)) rfl (hb K.2.2.1 hd) rfl (own_ix hj).1 (cap := cap) (by rw [(own_ix hj).2]; exact hcap) hb8 hc hl
  refine Go.stp q (G T' h' _ ⟨_, X', N, e', z⟩ E rfl zz ⟨_, A, by rw [sz_new, (own_ix hj).2], fun i hi => ?_⟩)
  rw [show (Value.long 0) = defaultValue .long from rfl]
  simp [newA, (own_ix hj).2, hi, newarray.typeOf]
end OwnBase
section OwnLit
variable {p : Program} {l : Launch} {e : Env} {R : Room} {s : State} {m : MethodId} {args : Array Value} {below : List Frame} {meth : Method} {c : Code} {Z : State} {own nm : String} {bytes : ByteArray} {maxL : Nat} {ret : Option FieldType} {T : State} {h : Heap} {cs ss n0 : Nat} {Q : Option Value → Heap → Prop} {rc rs : Nat} {pc pc' pf pt : Nat} {Ls Ls' : Array Slot} {st rest : List Value} {a0 : Array Value}
theorem g_getS (K : Cx p s m meth c Z own nm bytes maxL ret) (W : Wd p l e R s m args below meth c n0 T h cs ss) {O n d : String} {index : Nat} {v : Value} (w : (Jvm.Cond.fieldLink own index O n d).before a0 Z = true) (F : Sta Z h O n d v) (hd : decode bytes pc = .ok (.getstatic index, 3)) (hp : pc + 3 = pc')
    (G : ∀ T', Wd p l e R s m args below meth c n0 T' h cs ss → Go p e below s n0 Q rc rs T' (mkF m pc' Ls (v :: st))) : Go p e below s n0 Q rc rs T (mkF m pc Ls st) := by
  obtain ⟨locs, X, N, eT, z⟩ := W; subst hp
  obtain ⟨T', X', e', q⟩ := getS (host := "") X K.1 K.2.1 K.2.2.2.2.1 w Via.refl eT F (g := mkF m pc Ls st) rfl (hb K.2.2.1 hd)
  exact Go.stp q (G T' ⟨locs, X', N, e', z⟩)
theorem AyI.of_arv {a : Addr} {k : ClassId} {ty : FieldType} {z : Int32} {vs : List Value} {d : Value} {n : Nat} {f : Nat → Int32} (A : Arv Z h a k ty z vs d) (hz : z.toNatClampNeg = n) (hf : ∀ j, j < n → vs.getD j d = .int (f j)) : AyI Z h a ty n f := by
  obtain ⟨cl, q, -, r1, -, r2, -⟩ := A
  refine ⟨cl, q, r1.trans hz, fun j hj => ?_⟩
  rw [← hf j hj]
  exact r2 j (by rw [r1, hz]; exact hj)
end OwnLit
theorem pn_0 : plainName "com/example/tagwire/tagwire/Scalars" = true := by first | (simp [plainName, overriddenIn]; done) | decide +kernel
theorem d6_0 : decode prog_28_method_26_code 0 = .ok (.iload_n 0, 1) := by decide +kernel
theorem d6_1 : decode prog_28_method_26_code 1 = .ok (.bipush 48, 2) := by decide +kernel
theorem d6_3 : decode prog_28_method_26_code 3 = .ok (.if_icmp .lt 9, 3) := by decide +kernel
theorem d6_6 : decode prog_28_method_26_code 6 = .ok (.iload_n 0, 1) := by decide +kernel
theorem d6_7 : decode prog_28_method_26_code 7 = .ok (.bipush 57, 2) := by decide +kernel
theorem d6_9 : decode prog_28_method_26_code 9 = .ok (.if_icmp .le 33, 3) := by decide +kernel
theorem d6_12 : decode prog_28_method_26_code 12 = .ok (.iload_n 0, 1) := by decide +kernel
theorem d6_13 : decode prog_28_method_26_code 13 = .ok (.bipush 43, 2) := by decide +kernel
theorem d6_15 : decode prog_28_method_26_code 15 = .ok (.if_icmp .eq 27, 3) := by decide +kernel
theorem d6_18 : decode prog_28_method_26_code 18 = .ok (.iload_n 0, 1) := by decide +kernel
theorem d6_19 : decode prog_28_method_26_code 19 = .ok (.bipush 45, 2) := by decide +kernel
theorem d6_21 : decode prog_28_method_26_code 21 = .ok (.if_icmp .eq 21, 3) := by decide +kernel
theorem d6_24 : decode prog_28_method_26_code 24 = .ok (.iload_n 0, 1) := by decide +kernel
theorem d6_25 : decode prog_28_method_26_code 25 = .ok (.bipush 46, 2) := by decide +kernel
theorem d6_27 : decode prog_28_method_26_code 27 = .ok (.if_icmp .eq 15, 3) := by decide +kernel
theorem d6_30 : decode prog_28_method_26_code 30 = .ok (.iload_n 0, 1) := by decide +kernel
theorem d6_31 : decode prog_28_method_26_code 31 = .ok (.bipush 101, 2) := by decide +kernel
theorem d6_33 : decode prog_28_method_26_code 33 = .ok (.if_icmp .eq 9, 3) := by decide +kernel
theorem d6_36 : decode prog_28_method_26_code 36 = .ok (.iload_n 0, 1) := by decide +kernel
theorem d6_37 : decode prog_28_method_26_code 37 = .ok (.bipush 69, 2) := by decide +kernel
theorem d6_39 : decode prog_28_method_26_code 39 = .ok (.if_icmp .ne 7, 3) := by decide +kernel
theorem d6_42 : decode prog_28_method_26_code 42 = .ok (.iconst 1, 1) := by decide +kernel
theorem d6_43 : decode prog_28_method_26_code 43 = .ok (.goto 4, 3) := by decide +kernel
theorem d6_46 : decode prog_28_method_26_code 46 = .ok (.iconst 0, 1) := by decide +kernel
theorem d6_47 : decode prog_28_method_26_code 47 = .ok (.ireturn, 1) := by decide +kernel
theorem pn_1 : plainName "com/example/tagwire/tagwire/ScalarsIsDecimalCharPinLaw" = true := by first | (simp [plainName, overriddenIn]; done) | decide +kernel
theorem d7_0 : decode method_3_code 0 = .ok (.iload_n 0, 1) := by decide +kernel
theorem d7_1 : decode method_3_code 1 = .ok (.i2l, 1) := by decide +kernel
theorem d7_2 : decode method_3_code 2 = .ok (.ldc2_w 27, 3) := by decide +kernel
theorem d7_5 : decode method_3_code 5 = .ok (.lsub, 1) := by decide +kernel
theorem d7_6 : decode method_3_code 6 = .ok (.lstore_n 1, 1) := by decide +kernel
theorem d7_7 : decode method_3_code 7 = .ok (.lload_n 1, 1) := by decide +kernel
theorem d7_8 : decode method_3_code 8 = .ok (.lconst 0, 1) := by decide +kernel
theorem d7_9 : decode method_3_code 9 = .ok (.lcmp, 1) := by decide +kernel
theorem d7_10 : decode method_3_code 10 = .ok (.ifCond .lt 15, 3) := by decide +kernel
theorem d7_13 : decode method_3_code 13 = .ok (.lload_n 1, 1) := by decide +kernel
theorem d7_14 : decode method_3_code 14 = .ok (.ldc2_w 29, 3) := by decide +kernel
theorem d7_17 : decode method_3_code 17 = .ok (.lcmp, 1) := by decide +kernel
theorem d7_18 : decode method_3_code 18 = .ok (.ifCond .gt 7, 3) := by decide +kernel
theorem d7_21 : decode method_3_code 21 = .ok (.iconst 1, 1) := by decide +kernel
theorem d7_22 : decode method_3_code 22 = .ok (.goto 4, 3) := by decide +kernel
theorem d7_25 : decode method_3_code 25 = .ok (.iconst 0, 1) := by decide +kernel
theorem d7_26 : decode method_3_code 26 = .ok (.istore_n 3, 1) := by decide +kernel
theorem d7_27 : decode method_3_code 27 = .ok (.iload_n 3, 1) := by decide +kernel
theorem d7_28 : decode method_3_code 28 = .ok (.ifCond .ne 33, 3) := by decide +kernel
theorem d7_31 : decode method_3_code 31 = .ok (.iload_n 0, 1) := by decide +kernel
theorem d7_32 : decode method_3_code 32 = .ok (.bipush 43, 2) := by decide +kernel
theorem d7_34 : decode method_3_code 34 = .ok (.if_icmp .eq 27, 3) := by decide +kernel
theorem d7_37 : decode method_3_code 37 = .ok (.iload_n 0, 1) := by decide +kernel
theorem d7_38 : decode method_3_code 38 = .ok (.bipush 45, 2) := by decide +kernel
theorem d7_40 : decode method_3_code 40 = .ok (.if_icmp .eq 21, 3) := by decide +kernel
theorem d7_43 : decode method_3_code 43 = .ok (.iload_n 0, 1) := by decide +kernel
theorem d7_44 : decode method_3_code 44 = .ok (.bipush 46, 2) := by decide +kernel
theorem d7_46 : decode method_3_code 46 = .ok (.if_icmp .eq 15, 3) := by decide +kernel
theorem d7_49 : decode method_3_code 49 = .ok (.iload_n 0, 1) := by decide +kernel
theorem d7_50 : decode method_3_code 50 = .ok (.bipush 101, 2) := by decide +kernel
theorem d7_52 : decode method_3_code 52 = .ok (.if_icmp .eq 9, 3) := by decide +kernel
theorem d7_55 : decode method_3_code 55 = .ok (.iload_n 0, 1) := by decide +kernel
theorem d7_56 : decode method_3_code 56 = .ok (.bipush 69, 2) := by decide +kernel
theorem d7_58 : decode method_3_code 58 = .ok (.if_icmp .ne 7, 3) := by decide +kernel
theorem d7_61 : decode method_3_code 61 = .ok (.iconst 1, 1) := by decide +kernel
theorem d7_62 : decode method_3_code 62 = .ok (.goto 4, 3) := by decide +kernel
theorem d7_65 : decode method_3_code 65 = .ok (.iconst 0, 1) := by decide +kernel
theorem d7_66 : decode method_3_code 66 = .ok (.ireturn, 1) := by decide +kernel
theorem pn_2 : plainName "jdk/internal/util/Preconditions" = true := by first | (simp [plainName, overriddenIn]; done) | decide +kernel
theorem d5_0 : decode jdk_41_method_11_code 0 = .ok (.iload_n 0, 1) := by decide +kernel
theorem d5_1 : decode jdk_41_method_11_code 1 = .ok (.ifCond .lt 8, 3) := by decide +kernel
theorem d5_4 : decode jdk_41_method_11_code 4 = .ok (.iload_n 0, 1) := by decide +kernel
theorem d5_5 : decode jdk_41_method_11_code 5 = .ok (.iload_n 1, 1) := by decide +kernel
theorem d5_6 : decode jdk_41_method_11_code 6 = .ok (.if_icmp .lt 10, 3) := by decide +kernel
theorem d5_9 : decode jdk_41_method_11_code 9 = .ok (.aload_n 2, 1) := by decide +kernel
theorem d5_10 : decode jdk_41_method_11_code 10 = .ok (.iload_n 0, 1) := by decide +kernel
theorem d5_11 : decode jdk_41_method_11_code 11 = .ok (.iload_n 1, 1) := by decide +kernel
theorem d5_12 : decode jdk_41_method_11_code 12 = .ok (.invokestatic 95, 3) := by decide +kernel
theorem d5_15 : decode jdk_41_method_11_code 15 = .ok (.athrow, 1) := by decide +kernel
theorem d5_16 : decode jdk_41_method_11_code 16 = .ok (.iload_n 0, 1) := by decide +kernel
theorem d5_17 : decode jdk_41_method_11_code 17 = .ok (.ireturn, 1) := by decide +kernel
theorem pn_3 : plainName "java/lang/String" = true := by first | (simp [plainName, overriddenIn]; done) | decide +kernel
theorem d4_0 : decode jdk_42_method_155_code 0 = .ok (.iload_n 0, 1) := by decide +kernel
theorem d4_1 : decode jdk_42_method_155_code 1 = .ok (.iload_n 1, 1) := by decide +kernel
theorem d4_2 : decode jdk_42_method_155_code 2 = .ok (.getstatic 1053, 3) := by decide +kernel
theorem d4_5 : decode jdk_42_method_155_code 5 = .ok (.invokestatic 1059, 3) := by decide +kernel
theorem d4_8 : decode jdk_42_method_155_code 8 = .ok (.pop, 1) := by decide +kernel
theorem d4_9 : decode jdk_42_method_155_code 9 = .ok (.return_, 1) := by decide +kernel
theorem pd_0 : parseMethodDescriptor "(IILjava/util/function/BiFunction;)I" = some ⟨[.int, .int, (.object "java/util/function/BiFunction")], some .int⟩ := by decide +kernel
theorem pn_4 : plainName "java/lang/StringLatin1" = true := by first | (simp [plainName, overriddenIn]; done) | decide +kernel
theorem d3_0 : decode jdk_43_method_2_code 0 = .ok (.iload_n 1, 1) := by decide +kernel
theorem d3_1 : decode jdk_43_method_2_code 1 = .ok (.aload_n 0, 1) := by decide +kernel
theorem d3_2 : decode jdk_43_method_2_code 2 = .ok (.arraylength, 1) := by decide +kernel
theorem d3_3 : decode jdk_43_method_2_code 3 = .ok (.invokestatic 9, 3) := by decide +kernel
theorem d3_6 : decode jdk_43_method_2_code 6 = .ok (.aload_n 0, 1) := by decide +kernel
theorem d3_7 : decode jdk_43_method_2_code 7 = .ok (.iload_n 1, 1) := by decide +kernel
theorem d3_8 : decode jdk_43_method_2_code 8 = .ok (.baload, 1) := by decide +kernel
theorem d3_9 : decode jdk_43_method_2_code 9 = .ok (.sipush 255, 3) := by decide +kernel
theorem d3_12 : decode jdk_43_method_2_code 12 = .ok (.iand, 1) := by decide +kernel
theorem d3_13 : decode jdk_43_method_2_code 13 = .ok (.i2c, 1) := by decide +kernel
theorem d3_14 : decode jdk_43_method_2_code 14 = .ok (.ireturn, 1) := by decide +kernel
theorem pd_1 : parseMethodDescriptor "(II)V" = some ⟨[.int, .int], none⟩ := by decide +kernel
theorem d2_0 : decode jdk_42_method_154_code 0 = .ok (.getstatic 38, 3) := by decide +kernel
theorem d2_3 : decode jdk_42_method_154_code 3 = .ok (.ifCond .eq 14, 3) := by decide +kernel
theorem d2_6 : decode jdk_42_method_154_code 6 = .ok (.aload_n 0, 1) := by decide +kernel
theorem d2_7 : decode jdk_42_method_154_code 7 = .ok (.getfield 15, 3) := by decide +kernel
theorem d2_10 : decode jdk_42_method_154_code 10 = .ok (.ifCond .ne 7, 3) := by decide +kernel
theorem d2_13 : decode jdk_42_method_154_code 13 = .ok (.iconst 1, 1) := by decide +kernel
theorem d2_14 : decode jdk_42_method_154_code 14 = .ok (.goto 4, 3) := by decide +kernel
theorem d2_17 : decode jdk_42_method_154_code 17 = .ok (.iconst 0, 1) := by decide +kernel
theorem d2_18 : decode jdk_42_method_154_code 18 = .ok (.ireturn, 1) := by decide +kernel
theorem d1_0 : decode jdk_42_method_56_code 0 = .ok (.aload_n 0, 1) := by decide +kernel
theorem d1_1 : decode jdk_42_method_56_code 1 = .ok (.invokevirtual 492, 3) := by decide +kernel
theorem d1_4 : decode jdk_42_method_56_code 4 = .ok (.ifCond .eq 12, 3) := by decide +kernel
theorem d1_7 : decode jdk_42_method_56_code 7 = .ok (.aload_n 0, 1) := by decide +kernel
theorem d1_8 : decode jdk_42_method_56_code 8 = .ok (.getfield 9, 3) := by decide +kernel
theorem d1_11 : decode jdk_42_method_56_code 11 = .ok (.iload_n 1, 1) := by decide +kernel
theorem d1_12 : decode jdk_42_method_56_code 12 = .ok (.invokestatic 495, 3) := by decide +kernel
theorem d1_15 : decode jdk_42_method_56_code 15 = .ok (.ireturn, 1) := by decide +kernel
theorem d1_16 : decode jdk_42_method_56_code 16 = .ok (.aload_n 0, 1) := by decide +kernel
theorem d1_17 : decode jdk_42_method_56_code 17 = .ok (.getfield 9, 3) := by decide +kernel
theorem d1_20 : decode jdk_42_method_56_code 20 = .ok (.iload_n 1, 1) := by decide +kernel
theorem d1_21 : decode jdk_42_method_56_code 21 = .ok (.invokestatic 498, 3) := by decide +kernel
theorem d1_24 : decode jdk_42_method_56_code 24 = .ok (.ireturn, 1) := by decide +kernel
theorem pd_2 : parseMethodDescriptor "()Z" = some ⟨[], some .boolean⟩ := by decide +kernel
theorem pd_3 : parseMethodDescriptor "([BI)C" = some ⟨[(.array .byte), .int], some .char⟩ := by decide +kernel
theorem pd_4 : parseMethodDescriptor "(I)C" = some ⟨[.int], some .char⟩ := by decide +kernel
theorem pd_5 : parseMethodDescriptor "(I)Z" = some ⟨[.int], some .boolean⟩ := by decide +kernel
/-! numbers -/
theorem own_ofNat {n : Nat} (hn : n < 2147483648) : (Int32.ofNat n).toInt = (n : Int) := Int32.toInt_ofNat_of_lt hn
theorem own_and_nat (x : Int32) (m : Nat) (hm : m < 2147483648) : ∃ k : Nat, k ≤ m ∧ (x &&& Int32.ofNat m) = Int32.ofNat k := by
  refine ⟨(x &&& Int32.ofNat m).toBitVec.toNat, ?_, ?_⟩
  · simp only [Int32.toBitVec_and, BitVec.toNat_and]
    refine Nat.le_trans Nat.and_le_right ?_
    show (BitVec.ofNat 32 m).toNat ≤ m
    rw [BitVec.toNat_ofNat]
    exact Nat.mod_le _ _
  · apply Int32.toBitVec_inj.mp
    show _ = BitVec.ofNat 32 _
    rw [BitVec.ofNat_toNat]; simp
theorem own_rem (x : Int32) (n : Nat) (h1 : 0 < n) (h2 : n < 2147483648) : ∃ k : Nat, k < n ∧ ((x &&& (2147483647 : Int32)) % Int32.ofNat n).toInt = (k : Int) := by
  obtain ⟨j, hj, e⟩ := own_and_nat x 2147483647 (by decide)
  refine ⟨j % n, Nat.mod_lt _ h1, ?_⟩
  have e' : (x &&& (2147483647 : Int32)) = Int32.ofNat j := e
  rw [e', Int32.toInt_mod, own_ofNat (by omega), own_ofNat h2]
  exact (Int.ofNat_tmod j n).symm

theorem own_lt {i n : Nat} (hi : i < 2147483648) (hn : n < 2147483648) : Int32.ofNat i < Int32.ofNat n ↔ i < n := by
  rw [Int32.lt_iff_toInt_lt, own_ofNat hi, own_ofNat hn]; omega
theorem own_toOf {x : Int32} {k : Nat} (hx : x.toInt = (k : Int)) : x = Int32.ofNat k := by
  have q := x.toInt_lt
  rw [← Int32.toInt_inj, hx, own_ofNat (by omega)]
def own_dec (c : Int32) : Int32 := if (¬ c < 48 ∧ ¬ 57 < c) ∨ c = 43 ∨ c = 45 ∨ c = 46 ∨ c = 101 ∨ c = 69 then 1 else 0
theorem own_d1 (c : Int32) : c.toInt64 - 48 < 0 ↔ c < 48 := by
  have a := c.le_toInt
  have b := c.toInt_lt
  rw [Int64.lt_iff_toInt_lt, Int32.lt_iff_toInt_lt, Int64.toInt_sub, Int32.toInt_toInt64, show (48 : Int64).toInt = 48 from rfl, show (0 : Int64).toInt = 0 from rfl, show (48 : Int32).toInt = 48 from rfl, Int.bmod_eq_of_le (by omega) (by omega)]
  omega
theorem own_d2 (c : Int32) : 9 < c.toInt64 - 48 ↔ 57 < c := by
  have a := c.le_toInt
  have b := c.toInt_lt
  rw [Int64.lt_iff_toInt_lt, Int32.lt_iff_toInt_lt, Int64.toInt_sub, Int32.toInt_toInt64, show (48 : Int64).toInt = 48 from rfl, show (9 : Int64).toInt = 9 from rfl, show (57 : Int32).toInt = 57 from rfl, Int.bmod_eq_of_le (by omega) (by omega)]
  omega
def own_cs : List Int32 := [48, 49, 50, 51, 52, 53, 54, 55, 56, 57, 43, 45, 46, 101, 69]
def own_f (j : Nat) : Int32 := own_cs.getD j 0
def own_ch (b : Int32) : Int32 := (b &&& (255 : Int32)).toUInt32.toUInt16.toUInt32.toInt32
theorem own_all {i : Nat} (hi : i < 15) : own_dec (own_ch (own_f i)) = 1 := by
  have q : ∀ n : Fin 15, own_dec (own_ch (own_f n.val)) = 1 := by decide +kernel
  exact q ⟨i, hi⟩
theorem own_u (u : UInt16) : u.toUInt32.toInt32.toUInt32.toUInt16 = u := by
  show u.toUInt32.toUInt16 = u
  simp
theorem own_chch (b : Int32) : (own_ch b).toUInt32.toUInt16.toUInt32.toInt32 = own_ch b := by
  unfold own_ch
  rw [own_u]
def Q_c6 (Z : State) (n0 : Nat) (h0 : Heap) (x0 : Int32) : Option Value → Heap → Prop := fun v h => v = some (.int (own_dec x0)) ∧ h0 = h
abbrev rm_c6 : Room := { frames := 0, cells := 0, slots := 0, locals := 0 }
set_option maxHeartbeats 40000000 in
theorem c6 (l : Launch) (Z : State) (a0 : Array Value) (hw : ∀ d ∈ tables_1, d.before a0 Z = true) (n0 : Nat) (h0 : Heap) (hn : n0 ≤ h0.size) (x0 : Int32) :
    Mt l Z (⟨"com/example/tagwire/tagwire/Scalars", "isDecimalChar", "(I)Z"⟩ : MethodName) prog_28_method_26_code 1 (some .boolean) rm_c6 n0 #[(.int x0)] h0 (Q_c6 Z n0 h0 x0) := by
  refine met_of (plainFor_of_name pn_0) (Ls := #[.val (.int x0)]) (fun m => by first | (simp [entryFrame, mkF, argsToLocals, Value.category]; done) | rfl) hn ?_
  intro p e s m below meth c T K W
  replace K : Cx p s m meth c Z "com/example/tagwire/tagwire/Scalars" "isDecimalChar" prog_28_method_26_code 1 (some .boolean) := K
  generalize eA : (#[(.int x0)] : Array Value) = args at W
  show Go p e below s n0 (Q_c6 Z n0 h0 x0) 0 0 T (mkF m 0 #[.val (.int x0)] [])
  refine g_iloadN K W d6_0 rfl (pc' := 1) rfl ?_
  refine g_bipush K W (v := (48 : Int32)) d6_1 rfl (pc' := 3) rfl ?_
  refine g_icmp_lt K W d6_3 (pt := 12) rfl (pf := 6) rfl (fun hc3 => ?_) (fun hc3 => ?_)
  · refine g_iloadN K W d6_12 rfl (pc' := 13) rfl ?_
    refine g_bipush K W (v := (43 : Int32)) d6_13 rfl (pc' := 15) rfl ?_
    refine g_icmp_eq K W d6_15 (pt := 42) rfl (pf := 18) rfl (fun hc15 => ?_) (fun hc15 => ?_)
    · refine g_iconst K W (v := (1 : Int32)) d6_42 rfl (pc' := 43) rfl ?_
      refine g_goto K W d6_43 (pt := 47) rfl ?_
      exact g_retN K W (by simp) d6_47 (by decide) (by decide) (v := (1 : Int32)) rfl ⟨by simp [own_dec, *], rfl⟩
    · refine g_iloadN K W d6_18 rfl (pc' := 19) rfl ?_
      refine g_bipush K W (v := (45 : Int32)) d6_19 rfl (pc' := 21) rfl ?_
      refine g_icmp_eq K W d6_21 (pt := 42) rfl (pf := 24) rfl (fun hc21 => ?_) (fun hc21 => ?_)
      · refine g_iconst K W (v := (1 : Int32)) d6_42 rfl (pc' := 43) rfl ?_
        refine g_goto K W d6_43 (pt := 47) rfl ?_
        exact g_retN K W (by simp) d6_47 (by decide) (by decide) (v := (1 : Int32)) rfl ⟨by simp [own_dec, *], rfl⟩
      · refine g_iloadN K W d6_24 rfl (pc' := 25) rfl ?_
        refine g_bipush K W (v := (46 : Int32)) d6_25 rfl (pc' := 27) rfl ?_
        refine g_icmp_eq K W d6_27 (pt := 42) rfl (pf := 30) rfl (fun hc27 => ?_) (fun hc27 => ?_)
        · refine g_iconst K W (v := (1 : Int32)) d6_42 rfl (pc' := 43) rfl ?_
          refine g_goto K W d6_43 (pt := 47) rfl ?_
          exact g_retN K W (by simp) d6_47 (by decide) (by decide) (v := (1 : Int32)) rfl ⟨by simp [own_dec, *], rfl⟩
        · refine g_iloadN K W d6_30 rfl (pc' := 31) rfl ?_
          refine g_bipush K W (v := (101 : Int32)) d6_31 rfl (pc' := 33) rfl ?_
          refine g_icmp_eq K W d6_33 (pt := 42) rfl (pf := 36) rfl (fun hc33 => ?_) (fun hc33 => ?_)
          · refine g_iconst K W (v := (1 : Int32)) d6_42 rfl (pc' := 43) rfl ?_
            refine g_goto K W d6_43 (pt := 47) rfl ?_
            exact g_retN K W (by simp) d6_47 (by decide) (by decide) (v := (1 : Int32)) rfl ⟨by simp [own_dec, *], rfl⟩
          · refine g_iloadN K W d6_36 rfl (pc' := 37) rfl ?_
            refine g_bipush K W (v := (69 : Int32)) d6_37 rfl (pc' := 39) rfl ?_
            refine g_icmp_ne K W d6_39 (pt := 46) rfl (pf := 42) rfl (fun hc39 => ?_) (fun hc39 => ?_)
            · refine g_iconst K W (v := (1 : Int32)) d6_42 rfl (pc' := 43) rfl ?_
              refine g_goto K W d6_43 (pt := 47) rfl ?_
              exact g_retN K W (by simp) d6_47 (by decide) (by decide) (v := (1 : Int32)) rfl ⟨by simp [own_dec, *], rfl⟩
            · refine g_iconst K W (v := (0 : Int32)) d6_46 rfl (pc' := 47) rfl ?_
              exact g_retN K W (by simp) d6_47 (by decide) (by decide) (v := (0 : Int32)) rfl ⟨by simp [own_dec, *], rfl⟩
  · refine g_iloadN K W d6_6 rfl (pc' := 7) rfl ?_
    refine g_bipush K W (v := (57 : Int32)) d6_7 rfl (pc' := 9) rfl ?_
    refine g_icmp_le K W d6_9 (pt := 42) rfl (pf := 12) rfl (fun hc9 => ?_) (fun hc9 => ?_)
    · refine g_iloadN K W d6_12 rfl (pc' := 13) rfl ?_
      refine g_bipush K W (v := (43 : Int32)) d6_13 rfl (pc' := 15) rfl ?_
      refine g_icmp_eq K W d6_15 (pt := 42) rfl (pf := 18) rfl (fun hc15 => ?_) (fun hc15 => ?_)
      · refine g_iconst K W (v := (1 : Int32)) d6_42 rfl (pc' := 43) rfl ?_
        refine g_goto K W d6_43 (pt := 47) rfl ?_
        exact g_retN K W (by simp) d6_47 (by decide) (by decide) (v := (1 : Int32)) rfl ⟨by simp [own_dec, *], rfl⟩
      · refine g_iloadN K W d6_18 rfl (pc' := 19) rfl ?_
        refine g_bipush K W (v := (45 : Int32)) d6_19 rfl (pc' := 21) rfl ?_
        refine g_icmp_eq K W d6_21 (pt := 42) rfl (pf := 24) rfl (fun hc21 => ?_) (fun hc21 => ?_)
        · refine g_iconst K W (v := (1 : Int32)) d6_42 rfl (pc' := 43) rfl ?_
          refine g_goto K W d6_43 (pt := 47) rfl ?_
          exact g_retN K W (by simp) d6_47 (by decide) (by decide) (v := (1 : Int32)) rfl ⟨by simp [own_dec, *], rfl⟩
        · refine g_iloadN K W d6_24 rfl (pc' := 25) rfl ?_
          refine g_bipush K W (v := (46 : Int32)) d6_25 rfl (pc' := 27) rfl ?_
          refine g_icmp_eq K W d6_27 (pt := 42) rfl (pf := 30) rfl (fun hc27 => ?_) (fun hc27 => ?_)
          · refine g_iconst K W (v := (1 : Int32)) d6_42 rfl (pc' := 43) rfl ?_
            refine g_goto K W d6_43 (pt := 47) rfl ?_
            exact g_retN K W (by simp) d6_47 (by decide) (by decide) (v := (1 : Int32)) rfl ⟨by simp [own_dec, *], rfl⟩
          · refine g_iloadN K W d6_30 rfl (pc' := 31) rfl ?_
            refine g_bipush K W (v := (101 : Int32)) d6_31 rfl (pc' := 33) rfl ?_
            refine g_icmp_eq K W d6_33 (pt := 42) rfl (pf := 36) rfl (fun hc33 => ?_) (fun hc33 => ?_)
            · refine g_iconst K W (v := (1 : Int32)) d6_42 rfl (pc' := 43) rfl ?_
              refine g_goto K W d6_43 (pt := 47) rfl ?_
              exact g_retN K W (by simp) d6_47 (by decide) (by decide) (v := (1 : Int32)) rfl ⟨by simp [own_dec, *], rfl⟩
            · refine g_iloadN K W d6_36 rfl (pc' := 37) rfl ?_
              refine g_bipush K W (v := (69 : Int32)) d6_37 rfl (pc' := 39) rfl ?_
              refine g_icmp_ne K W d6_39 (pt := 46) rfl (pf := 42) rfl (fun hc39 => ?_) (fun hc39 => ?_)
              · refine g_iconst K W (v := (1 : Int32)) d6_42 rfl (pc' := 43) rfl ?_
                refine g_goto K W d6_43 (pt := 47) rfl ?_
                exact g_retN K W (by simp) d6_47 (by decide) (by decide) (v := (1 : Int32)) rfl ⟨by simp [own_dec, *], rfl⟩
              · refine g_iconst K W (v := (0 : Int32)) d6_46 rfl (pc' := 47) rfl ?_
                exact g_retN K W (by simp) d6_47 (by decide) (by decide) (v := (0 : Int32)) rfl ⟨by simp [own_dec, *], rfl⟩
    · refine g_iconst K W (v := (1 : Int32)) d6_42 rfl (pc' := 43) rfl ?_
      refine g_goto K W d6_43 (pt := 47) rfl ?_
      exact g_retN K W (by simp) d6_47 (by decide) (by decide) (v := (1 : Int32)) rfl ⟨by simp [own_dec, *], rfl⟩
def Q_c7 (Z : State) (n0 : Nat) (h0 : Heap) (x0 : Int32) : Option Value → Heap → Prop := fun v h => v = some (.int (own_dec x0)) ∧ h0 = h
abbrev rm_c7 : Room := { frames := 0, cells := 0, slots := 0, locals := 0 }
set_option maxHeartbeats 40000000 in
theorem c7 (l : Launch) (Z : State) (a0 : Array Value) (hw : ∀ d ∈ tables_1, d.before a0 Z = true) (n0 : Nat) (h0 : Heap) (hn : n0 ≤ h0.size) (x0 : Int32) :
    Mt l Z (⟨"com/example/tagwire/tagwire/ScalarsIsDecimalCharPinLaw", "expected", "(I)Z"⟩ : MethodName) method_3_code 4 (some .boolean) rm_c7 n0 #[(.int x0)] h0 (Q_c7 Z n0 h0 x0) := by
  refine met_of (plainFor_of_name pn_1) (Ls := #[.val (.int x0), .unset, .unset, .unset]) (fun m => by first | (simp [entryFrame, mkF, argsToLocals, Value.category]; done) | rfl) hn ?_
  intro p e s m below meth c T K W
  replace K : Cx p s m meth c Z "com/example/tagwire/tagwire/ScalarsIsDecimalCharPinLaw" "expected" method_3_code 4 (some .boolean) := K
  generalize eA : (#[(.int x0)] : Array Value) = args at W
  show Go p e below s n0 (Q_c7 Z n0 h0 x0) 0 0 T (mkF m 0 #[.val (.int x0), .unset, .unset, .unset] [])
  refine g_iloadN K W d7_0 rfl (pc' := 1) rfl ?_
  refine g_i2l K W d7_1 (pc' := 2) rfl ?_
  refine g_ldc2 K W (v := (48 : Int64)) (hw _ (List.mem_of_getElem? (i := 42) rfl)) d7_2 (pc' := 5) rfl ?_
  refine g_lsub K W d7_5 (pc' := 6) rfl ?_
  refine g_lstoreN K W d7_6 (Ls' := #[.val (.int x0), .val (.long ((x0.toInt64) - (48 : Int64))), .second, .unset]) rfl (pc' := 7) rfl ?_
  refine g_lloadN K W d7_7 rfl (pc' := 8) rfl ?_
  refine g_lconst K W (v := (0 : Int64)) d7_8 rfl (pc' := 9) rfl ?_
  refine g_lcmp_lt K W d7_9 (pc1 := 10) rfl d7_10 (pt := 25) rfl (pf := 13) rfl (fun hc9 => ?_) (fun hc9 => ?_)
  · refine g_iconst K W (v := (0 : Int32)) d7_25 rfl (pc' := 26) rfl ?_
    refine g_istoreN K W d7_26 (Ls' := #[.val (.int x0), .val (.long ((x0.toInt64) - (48 : Int64))), .second, .val (.int (0 : Int32))]) rfl (pc' := 27) rfl ?_
    refine g_iloadN K W d7_27 rfl (pc' := 28) rfl ?_
    refine g_if_ne K W d7_28 (pt := 61) rfl (pf := 31) rfl (fun hc28 => ?_) (fun hc28 => absurd rfl hc28)
    refine g_iloadN K W d7_31 rfl (pc' := 32) rfl ?_
    refine g_bipush K W (v := (43 : Int32)) d7_32 rfl (pc' := 34) rfl ?_
    refine g_icmp_eq K W d7_34 (pt := 61) rfl (pf := 37) rfl (fun hc34 => ?_) (fun hc34 => ?_)
    · refine g_iconst K W (v := (1 : Int32)) d7_61 rfl (pc' := 62) rfl ?_
      refine g_goto K W d7_62 (pt := 66) rfl ?_
      have hd9 := (own_d1 x0).mp hc9
      exact g_retN K W (by simp) d7_66 (by decide) (by decide) (v := (1 : Int32)) rfl ⟨by simp [own_dec, *], rfl⟩
    · refine g_iloadN K W d7_37 rfl (pc' := 38) rfl ?_
      refine g_bipush K W (v := (45 : Int32)) d7_38 rfl (pc' := 40) rfl ?_
      refine g_icmp_eq K W d7_40 (pt := 61) rfl (pf := 43) rfl (fun hc40 => ?_) (fun hc40 => ?_)
      · refine g_iconst K W (v := (1 : Int32)) d7_61 rfl (pc' := 62) rfl ?_
        refine g_goto K W d7_62 (pt := 66) rfl ?_
        have hd9 := (own_d1 x0).mp hc9
        exact g_retN K W (by simp) d7_66 (by decide) (by decide) (v := (1 : Int32)) rfl ⟨by simp [own_dec, *], rfl⟩
      · refine g_iloadN K W d7_43 rfl (pc' := 44) rfl ?_
        refine g_bipush K W (v := (46 : Int32)) d7_44 rfl (pc' := 46) rfl ?_
        refine g_icmp_eq K W d7_46 (pt := 61) rfl (pf := 49) rfl (fun hc46 => ?_) (fun hc46 => ?_)
        · refine g_iconst K W (v := (1 : Int32)) d7_61 rfl (pc' := 62) rfl ?_
          refine g_goto K W d7_62 (pt := 66) rfl ?_
          have hd9 := (own_d1 x0).mp hc9
          exact g_retN K W (by simp) d7_66 (by decide) (by decide) (v := (1 : Int32)) rfl ⟨by simp [own_dec, *], rfl⟩
        · refine g_iloadN K W d7_49 rfl (pc' := 50) rfl ?_
          refine g_bipush K W (v := (101 : Int32)) d7_50 rfl (pc' := 52) rfl ?_
          refine g_icmp_eq K W d7_52 (pt := 61) rfl (pf := 55) rfl (fun hc52 => ?_) (fun hc52 => ?_)
          · refine g_iconst K W (v := (1 : Int32)) d7_61 rfl (pc' := 62) rfl ?_
            refine g_goto K W d7_62 (pt := 66) rfl ?_
            have hd9 := (own_d1 x0).mp hc9
            exact g_retN K W (by simp) d7_66 (by decide) (by decide) (v := (1 : Int32)) rfl ⟨by simp [own_dec, *], rfl⟩
          · refine g_iloadN K W d7_55 rfl (pc' := 56) rfl ?_
            refine g_bipush K W (v := (69 : Int32)) d7_56 rfl (pc' := 58) rfl ?_
            refine g_icmp_ne K W d7_58 (pt := 65) rfl (pf := 61) rfl (fun hc58 => ?_) (fun hc58 => ?_)
            · refine g_iconst K W (v := (1 : Int32)) d7_61 rfl (pc' := 62) rfl ?_
              refine g_goto K W d7_62 (pt := 66) rfl ?_
              have hd9 := (own_d1 x0).mp hc9
              exact g_retN K W (by simp) d7_66 (by decide) (by decide) (v := (1 : Int32)) rfl ⟨by simp [own_dec, *], rfl⟩
            · refine g_iconst K W (v := (0 : Int32)) d7_65 rfl (pc' := 66) rfl ?_
              have hd9 := (own_d1 x0).mp hc9
              exact g_retN K W (by simp) d7_66 (by decide) (by decide) (v := (0 : Int32)) rfl ⟨by simp [own_dec, *], rfl⟩
  · refine g_lloadN K W d7_13 rfl (pc' := 14) rfl ?_
    refine g_ldc2 K W (v := (9 : Int64)) (hw _ (List.mem_of_getElem? (i := 43) rfl)) d7_14 (pc' := 17) rfl ?_
    refine g_lcmp_gt K W d7_17 (pc1 := 18) rfl d7_18 (pt := 25) rfl (pf := 21) rfl (fun hc17 => ?_) (fun hc17 => ?_)
    · refine g_iconst K W (v := (0 : Int32)) d7_25 rfl (pc' := 26) rfl ?_
      refine g_istoreN K W d7_26 (Ls' := #[.val (.int x0), .val (.long ((x0.toInt64) - (48 : Int64))), .second, .val (.int (0 : Int32))]) rfl (pc' := 27) rfl ?_
      refine g_iloadN K W d7_27 rfl (pc' := 28) rfl ?_
      refine g_if_ne K W d7_28 (pt := 61) rfl (pf := 31) rfl (fun hc28 => ?_) (fun hc28 => absurd rfl hc28)
      refine g_iloadN K W d7_31 rfl (pc' := 32) rfl ?_
      refine g_bipush K W (v := (43 : Int32)) d7_32 rfl (pc' := 34) rfl ?_
      refine g_icmp_eq K W d7_34 (pt := 61) rfl (pf := 37) rfl (fun hc34 => ?_) (fun hc34 => ?_)
      · refine g_iconst K W (v := (1 : Int32)) d7_61 rfl (pc' := 62) rfl ?_
        refine g_goto K W d7_62 (pt := 66) rfl ?_
        have hd9 := (not_congr (own_d1 x0)).mp hc9
        have hd17 := (own_d2 x0).mp hc17
        exact g_retN K W (by simp) d7_66 (by decide) (by decide) (v := (1 : Int32)) rfl ⟨by simp [own_dec, *], rfl⟩
      · refine g_iloadN K W d7_37 rfl (pc' := 38) rfl ?_
        refine g_bipush K W (v := (45 : Int32)) d7_38 rfl (pc' := 40) rfl ?_
        refine g_icmp_eq K W d7_40 (pt := 61) rfl (pf := 43) rfl (fun hc40 => ?_) (fun hc40 => ?_)
        · refine g_iconst K W (v := (1 : Int32)) d7_61 rfl (pc' := 62) rfl ?_
          refine g_goto K W d7_62 (pt := 66) rfl ?_
          have hd9 := (not_congr (own_d1 x0)).mp hc9
          have hd17 := (own_d2 x0).mp hc17
          exact g_retN K W (by simp) d7_66 (by decide) (by decide) (v := (1 : Int32)) rfl ⟨by simp [own_dec, *], rfl⟩
        · refine g_iloadN K W d7_43 rfl (pc' := 44) rfl ?_
          refine g_bipush K W (v := (46 : Int32)) d7_44 rfl (pc' := 46) rfl ?_
          refine g_icmp_eq K W d7_46 (pt := 61) rfl (pf := 49) rfl (fun hc46 => ?_) (fun hc46 => ?_)
          · refine g_iconst K W (v := (1 : Int32)) d7_61 rfl (pc' := 62) rfl ?_
            refine g_goto K W d7_62 (pt := 66) rfl ?_
            have hd9 := (not_congr (own_d1 x0)).mp hc9
            have hd17 := (own_d2 x0).mp hc17
            exact g_retN K W (by simp) d7_66 (by decide) (by decide) (v := (1 : Int32)) rfl ⟨by simp [own_dec, *], rfl⟩
          · refine g_iloadN K W d7_49 rfl (pc' := 50) rfl ?_
            refine g_bipush K W (v := (101 : Int32)) d7_50 rfl (pc' := 52) rfl ?_
            refine g_icmp_eq K W d7_52 (pt := 61) rfl (pf := 55) rfl (fun hc52 => ?_) (fun hc52 => ?_)
            · refine g_iconst K W (v := (1 : Int32)) d7_61 rfl (pc' := 62) rfl ?_
              refine g_goto K W d7_62 (pt := 66) rfl ?_
              have hd9 := (not_congr (own_d1 x0)).mp hc9
              have hd17 := (own_d2 x0).mp hc17
              exact g_retN K W (by simp) d7_66 (by decide) (by decide) (v := (1 : Int32)) rfl ⟨by simp [own_dec, *], rfl⟩
            · refine g_iloadN K W d7_55 rfl (pc' := 56) rfl ?_
              refine g_bipush K W (v := (69 : Int32)) d7_56 rfl (pc' := 58) rfl ?_
              refine g_icmp_ne K W d7_58 (pt := 65) rfl (pf := 61) rfl (fun hc58 => ?_) (fun hc58 => ?_)
              · refine g_iconst K W (v := (1 : Int32)) d7_61 rfl (pc' := 62) rfl ?_
                refine g_goto K W d7_62 (pt := 66) rfl ?_
                have hd9 := (not_congr (own_d1 x0)).mp hc9
                have hd17 := (own_d2 x0).mp hc17
                exact g_retN K W (by simp) d7_66 (by decide) (by decide) (v := (1 : Int32)) rfl ⟨by simp [own_dec, *], rfl⟩
              · refine g_iconst K W (v := (0 : Int32)) d7_65 rfl (pc' := 66) rfl ?_
                have hd9 := (not_congr (own_d1 x0)).mp hc9
                have hd17 := (own_d2 x0).mp hc17
                exact g_retN K W (by simp) d7_66 (by decide) (by decide) (v := (0 : Int32)) rfl ⟨by simp [own_dec, *], rfl⟩
    · refine g_iconst K W (v := (1 : Int32)) d7_21 rfl (pc' := 22) rfl ?_
      refine g_goto K W d7_22 (pt := 26) rfl ?_
      refine g_istoreN K W d7_26 (Ls' := #[.val (.int x0), .val (.long ((x0.toInt64) - (48 : Int64))), .second, .val (.int (1 : Int32))]) rfl (pc' := 27) rfl ?_
      refine g_iloadN K W d7_27 rfl (pc' := 28) rfl ?_
      refine g_if_ne K W d7_28 (pt := 61) rfl (pf := 31) rfl (fun hc28 => absurd hc28 (by decide)) (fun hc28 => ?_)
      refine g_iconst K W (v := (1 : Int32)) d7_61 rfl (pc' := 62) rfl ?_
      refine g_goto K W d7_62 (pt := 66) rfl ?_
      have hd9 := (not_congr (own_d1 x0)).mp hc9
      have hd17 := (not_congr (own_d2 x0)).mp hc17
      exact g_retN K W (by simp) d7_66 (by decide) (by decide) (v := (1 : Int32)) rfl ⟨by simp [own_dec, *], rfl⟩
def Q_cPn (Z : State) (n0 : Nat) (h0 : Heap) (x0 : Int32) (x1 : Int32) : Option Value → Heap → Prop := fun v h => v = some (.int x0) ∧ h0 = h
abbrev rm_cPn : Room := { frames := 0, cells := 0, slots := 0, locals := 0 }
set_option maxHeartbeats 40000000 in
theorem cPn (l : Launch) (Z : State) (a0 : Array Value) (hw : ∀ d ∈ tables_1, d.before a0 Z = true) (n0 : Nat) (h0 : Heap) (hn : n0 ≤ h0.size) (x0 : Int32) (x1 : Int32) (q1 : ¬ x0 < 0) (q2 : x0 < x1) :
    Mt l Z (⟨"jdk/internal/util/Preconditions", "checkIndex", "(IILjava/util/function/BiFunction;)I"⟩ : MethodName) jdk_41_method_11_code 3 (some .int) rm_cPn n0 #[(.int x0), (.int x1), .null] h0 (Q_cPn Z n0 h0 x0 x1) := by
  refine met_of (plainFor_of_name pn_2) (Ls := #[.val (.int x0), .val (.int x1), .val .null]) (fun m => by first | (simp [entryFrame, mkF, argsToLocals, Value.category]; done) | rfl) hn ?_
  intro p e s m below meth c T K W
  replace K : Cx p s m meth c Z "jdk/internal/util/Preconditions" "checkIndex" jdk_41_method_11_code 3 (some .int) := K
  generalize eA : (#[(.int x0), (.int x1), .null] : Array Value) = args at W
  show Go p e below s n0 (Q_cPn Z n0 h0 x0 x1) 0 0 T (mkF m 0 #[.val (.int x0), .val (.int x1), .val .null] [])
  refine g_iloadN K W d5_0 rfl (pc' := 1) rfl ?_
  refine g_if_lt K W d5_1 (pt := 9) rfl (pf := 4) rfl (fun hc1 => absurd hc1 q1) (fun hc1 => ?_)
  refine g_iloadN K W d5_4 rfl (pc' := 5) rfl ?_
  refine g_iloadN K W d5_5 rfl (pc' := 6) rfl ?_
  refine g_icmp_lt K W d5_6 (pt := 16) rfl (pf := 9) rfl (fun hc6 => ?_) (fun hc6 => absurd q2 hc6)
  refine g_iloadN K W d5_16 rfl (pc' := 17) rfl ?_
  exact g_retI K W d5_17 (by decide) (by decide) ⟨rfl, rfl⟩
def Q_cPr (Z : State) (n0 : Nat) (h0 : Heap) (x0 : Int32) (x1 : Int32) (o2 : Addr) : Option Value → Heap → Prop := fun v h => v = some (.int x0) ∧ h0 = h
abbrev rm_cPr : Room := { frames := 0, cells := 0, slots := 0, locals := 0 }
set_option maxHeartbeats 40000000 in
theorem cPr (l : Launch) (Z : State) (a0 : Array Value) (hw : ∀ d ∈ tables_1, d.before a0 Z = true) (n0 : Nat) (h0 : Heap) (hn : n0 ≤ h0.size) (x0 : Int32) (x1 : Int32) (o2 : Addr) (q1 : ¬ x0 < 0) (q2 : x0 < x1) :
    Mt l Z (⟨"jdk/internal/util/Preconditions", "checkIndex", "(IILjava/util/function/BiFunction;)I"⟩ : MethodName) jdk_41_method_11_code 3 (some .int) rm_cPr n0 #[(.int x0), (.int x1), (.ref o2)] h0 (Q_cPr Z n0 h0 x0 x1 o2) := by
  refine met_of (plainFor_of_name pn_2) (Ls := #[.val (.int x0), .val (.int x1), .val (.ref o2)]) (fun m => by first | (simp [entryFrame, mkF, argsToLocals, Value.category]; done) | rfl) hn ?_
  intro p e s m below meth c T K W
  replace K : Cx p s m meth c Z "jdk/internal/util/Preconditions" "checkIndex" jdk_41_method_11_code 3 (some .int) := K
  generalize eA : (#[(.int x0), (.int x1), (.ref o2)] : Array Value) = args at W
  show Go p e below s n0 (Q_cPr Z n0 h0 x0 x1 o2) 0 0 T (mkF m 0 #[.val (.int x0), .val (.int x1), .val (.ref o2)] [])
  refine g_iloadN K W d5_0 rfl (pc' := 1) rfl ?_
  refine g_if_lt K W d5_1 (pt := 9) rfl (pf := 4) rfl (fun hc1 => absurd hc1 q1) (fun hc1 => ?_)
  refine g_iloadN K W d5_4 rfl (pc' := 5) rfl ?_
  refine g_iloadN K W d5_5 rfl (pc' := 6) rfl ?_
  refine g_icmp_lt K W d5_6 (pt := 16) rfl (pf := 9) rfl (fun hc6 => ?_) (fun hc6 => absurd q2 hc6)
  refine g_iloadN K W d5_16 rfl (pc' := 17) rfl ?_
  exact g_retI K W d5_17 (by decide) (by decide) ⟨rfl, rfl⟩
theorem cP (l : Launch) (Z : State) (a0 : Array Value) (hw : ∀ d ∈ tables_1, d.before a0 Z = true) (n0 : Nat) (h0 : Heap) (hn : n0 ≤ h0.size) (x0 x1 : Int32) (fm : Value) (hfm : fm.isRef = true) (q1 : ¬ x0 < 0) (q2 : x0 < x1) :
    Mt l Z (⟨"jdk/internal/util/Preconditions", "checkIndex", "(IILjava/util/function/BiFunction;)I"⟩ : MethodName) jdk_41_method_11_code 3 (some .int) rm_cPn n0 #[.int x0, .int x1, fm] h0 (fun v h => v = some (.int x0) ∧ h0 = h) := by
  rcases ref_cases hfm with rfl | ⟨a, rfl⟩
  · exact cPn l Z a0 hw n0 h0 hn x0 x1 q1 q2
  · exact cPr l Z a0 hw n0 h0 hn x0 x1 a q1 q2
def Q_c4 (Z : State) (n0 : Nat) (h0 : Heap) (x0 : Int32) (x1 : Int32) (fm : Value) : Option Value → Heap → Prop := fun v h => v = none ∧ h0 = h
abbrev rm_c4 : Room := { frames := 1, cells := 0, slots := 0, locals := 14 }
set_option maxHeartbeats 40000000 in
theorem c4 (l : Launch) (Z : State) (a0 : Array Value) (hw : ∀ d ∈ tables_1, d.before a0 Z = true) (n0 : Nat) (h0 : Heap) (hn : n0 ≤ h0.size) (x0 : Int32) (x1 : Int32) (fm : Value) (q1 : ¬ x0 < 0) (q2 : x0 < x1) (S_fm : Sta Z h0 "jdk/internal/util/Preconditions" "SIOOBE_FORMATTER" "Ljava/util/function/BiFunction;" fm) (hfm : fm.isRef = true) :
    Mt l Z (⟨"java/lang/String", "checkIndex", "(II)V"⟩ : MethodName) jdk_42_method_155_code 2 none rm_c4 n0 #[(.int x0), (.int x1)] h0 (Q_c4 Z n0 h0 x0 x1 fm) := by
  refine met_of (plainFor_of_name pn_3) (Ls := #[.val (.int x0), .val (.int x1)]) (fun m => by first | (simp [entryFrame, mkF, argsToLocals, Value.category]; done) | rfl) hn ?_
  intro p e s m below meth c T K W
  replace K : Cx p s m meth c Z "java/lang/String" "checkIndex" jdk_42_method_155_code 2 none := K
  generalize eA : (#[(.int x0), (.int x1)] : Array Value) = args at W
  show Go p e below s n0 (Q_c4 Z n0 h0 x0 x1 fm) 0 0 T (mkF m 0 #[.val (.int x0), .val (.int x1)] [])
  refine g_iloadN K W d4_0 rfl (pc' := 1) rfl ?_
  refine g_iloadN K W d4_1 rfl (pc' := 2) rfl ?_
  refine g_getS K W (hw _ (List.mem_of_getElem? (i := 29) rfl)) S_fm d4_2 (pc' := 5) rfl (fun T W => ?_)
  refine g_callS (cP l Z a0 hw n0 _ W.sz x0 x1 fm hfm q1 q2) K W (hw _ (List.mem_of_getElem? (i := 31) rfl)) (hw _ (List.mem_of_getElem? (i := 32) rfl)) (hw _ (List.mem_of_getElem? (i := 30) rfl)) (hw _ (List.mem_of_getElem? (i := 33) rfl)) (by decide) (lenOf pd_0 rfl) d4_5 (pc' := 8) rfl (argsL := [(.int x0), (.int x1), fm]) (rest := []) rfl rfl (by decide) (wt := 0) rfl (by decide) (by decide) (by decide) ?_
  rintro T _ _ W ⟨rfl, rfl⟩
  show Go p e below s n0 (Q_c4 Z n0 h0 x0 x1 fm) 0 0 T (mkF m 8 #[.val (.int x0), .val (.int x1)] [(.int x0)])
  refine g_pop K W d4_8 rfl (pc' := 9) rfl ?_
  exact g_ret0 K W d4_9 (by decide) (by decide) ⟨rfl, rfl⟩
def Q_c3 (Z : State) (n0 : Nat) (h0 : Heap) (o0 : Addr) (x1 : Int32) (f : Nat → Int32) (k : Nat) (fm : Value) : Option Value → Heap → Prop := fun v h => v = some (.int (own_ch (f k))) ∧ h0 = h
abbrev rm_c3 : Room := { frames := 2, cells := 0, slots := 0, locals := 27 }
set_option maxHeartbeats 40000000 in
theorem c3 (l : Launch) (Z : State) (a0 : Array Value) (hw : ∀ d ∈ tables_1, d.before a0 Z = true) (n0 : Nat) (h0 : Heap) (hn : n0 ≤ h0.size) (o0 : Addr) (x1 : Int32) (f : Nat → Int32) (k : Nat) (fm : Value) (A_o0 : AyI Z h0 o0 .byte 15 f) (hk : x1.toInt = (k : Int)) (hk15 : k < 15) (S_fm : Sta Z h0 "jdk/internal/util/Preconditions" "SIOOBE_FORMATTER" "Ljava/util/function/BiFunction;" fm) (hfm : fm.isRef = true) :
    Mt l Z (⟨"java/lang/StringLatin1", "charAt", "([BI)C"⟩ : MethodName) jdk_43_method_2_code 2 (some .char) rm_c3 n0 #[(.ref o0), (.int x1)] h0 (Q_c3 Z n0 h0 o0 x1 f k fm) := by
  refine met_of (plainFor_of_name pn_4) (Ls := #[.val (.ref o0), .val (.int x1)]) (fun m => by first | (simp [entryFrame, mkF, argsToLocals, Value.category]; done) | rfl) hn ?_
  intro p e s m below meth c T K W
  replace K : Cx p s m meth c Z "java/lang/StringLatin1" "charAt" jdk_43_method_2_code 2 (some .char) := K
  generalize eA : (#[(.ref o0), (.int x1)] : Array Value) = args at W
  show Go p e below s n0 (Q_c3 Z n0 h0 o0 x1 f k fm) 0 0 T (mkF m 0 #[.val (.ref o0), .val (.int x1)] [])
  refine g_iloadN K W d3_0 rfl (pc' := 1) rfl ?_
  refine g_aloadN K W d3_1 rfl rfl (pc' := 2) rfl ?_
  refine g_alenI K W A_o0 (v := (15 : Int32)) rfl d3_2 (pc' := 3) rfl ?_
  refine g_callS (c4 l Z a0 hw n0 _ W.sz x1 (15 : Int32) fm (by rw [own_toOf hk, show (0 : Int32) = Int32.ofNat 0 from rfl, own_lt (by omega) (by omega)]; omega) (by rw [own_toOf hk, show (15 : Int32) = Int32.ofNat 15 from rfl, own_lt (by omega) (by omega)]; omega) S_fm hfm) K W (hw _ (List.mem_of_getElem? (i := 26) rfl)) (hw _ (List.mem_of_getElem? (i := 27) rfl)) (hw _ (List.mem_of_getElem? (i := 1) rfl)) (hw _ (List.mem_of_getElem? (i := 28) rfl)) (by decide) (lenOf pd_1 rfl) d3_3 (pc' := 6) rfl (argsL := [(.int x1), (.int (15 : Int32))]) (rest := []) rfl rfl (by decide) (wt := 0) rfl (by decide) (by decide) (by decide) ?_
  rintro T _ _ W ⟨rfl, rfl⟩
  show Go p e below s n0 (Q_c3 Z n0 h0 o0 x1 f k fm) 0 0 T (mkF m 6 #[.val (.ref o0), .val (.int x1)] [])
  refine g_aloadN K W d3_6 rfl rfl (pc' := 7) rfl ?_
  refine g_iloadN K W d3_7 rfl (pc' := 8) rfl ?_
  refine g_baload K W A_o0 (k := k) hk hk15 (v := (f k)) rfl d3_8 (pc' := 9) rfl ?_
  refine g_sipush K W (v := (255 : Int32)) d3_9 rfl (pc' := 12) rfl ?_
  refine g_iand K W d3_12 (pc' := 13) rfl ?_
  refine g_i2c K W d3_13 (pc' := 14) rfl ?_
  exact g_retN K W (by simp) d3_14 (by decide) (by decide) (v := (own_ch (f k))) (own_chch (f k)) ⟨rfl, rfl⟩
def Q_c2 (Z : State) (n0 : Nat) (h0 : Heap) (o0 : Addr) (cst : Int32) : Option Value → Heap → Prop := fun v h => v = some (.int 1) ∧ h0 = h
abbrev rm_c2 : Room := { frames := 0, cells := 0, slots := 0, locals := 0 }
set_option maxHeartbeats 40000000 in
theorem c2 (l : Launch) (Z : State) (a0 : Array Value) (hw : ∀ d ∈ tables_1, d.before a0 Z = true) (n0 : Nat) (h0 : Heap) (hn : n0 ≤ h0.size) (o0 : Addr) (cst : Int32) (X_o0 : Exa Z h0 o0 "java/lang/String") (F_o0_coder : Fld Z h0 o0 "java/lang/String" "coder" "B" (.int (0 : Int32))) (S_cs : Sta Z h0 "java/lang/String" "COMPACT_STRINGS" "Z" (.int cst)) (hcs : ¬ cst = 0) :
    Mt l Z (⟨"java/lang/String", "isLatin1", "()Z"⟩ : MethodName) jdk_42_method_154_code 1 (some .boolean) rm_c2 n0 #[(.ref o0)] h0 (Q_c2 Z n0 h0 o0 cst) := by
  refine met_of (plainFor_of_name pn_3) (Ls := #[.val (.ref o0)]) (fun m => by first | (simp [entryFrame, mkF, argsToLocals, Value.category]; done) | rfl) hn ?_
  intro p e s m below meth c T K W
  replace K : Cx p s m meth c Z "java/lang/String" "isLatin1" jdk_42_method_154_code 1 (some .boolean) := K
  generalize eA : (#[(.ref o0)] : Array Value) = args at W
  show Go p e below s n0 (Q_c2 Z n0 h0 o0 cst) 0 0 T (mkF m 0 #[.val (.ref o0)] [])
  refine g_getS K W (hw _ (List.mem_of_getElem? (i := 19) rfl)) S_cs d2_0 (pc' := 3) rfl (fun T W => ?_)
  refine g_if_eq K W d2_3 (pt := 17) rfl (pf := 6) rfl (fun hc3 => absurd hc3 hcs) (fun hc3 => ?_)
  refine g_aloadN K W d2_6 rfl rfl (pc' := 7) rfl ?_
  refine g_getF K W (host := "") (Or.inl (hw _ (List.mem_of_getElem? (i := 20) rfl))) Via.refl F_o0_coder d2_7 (pc' := 10) rfl (fun T W => ?_)
  refine g_if_ne K W d2_10 (pt := 17) rfl (pf := 13) rfl (fun hc10 => ?_) (fun hc10 => absurd rfl hc10)
  refine g_iconst K W (v := (1 : Int32)) d2_13 rfl (pc' := 14) rfl ?_
  refine g_goto K W d2_14 (pt := 18) rfl ?_
  exact g_retN K W (by simp) d2_18 (by decide) (by decide) (v := (1 : Int32)) rfl ⟨rfl, rfl⟩
def Q_c1 (Z : State) (n0 : Nat) (h0 : Heap) (o0 : Addr) (x1 : Int32) (cst : Int32) (va : Addr) (f : Nat → Int32) (k : Nat) (fm : Value) : Option Value → Heap → Prop := fun v h => v = some (.int (own_ch (f k))) ∧ h0 = h
abbrev rm_c1 : Room := { frames := 3, cells := 0, slots := 0, locals := 40 }
set_option maxHeartbeats 40000000 in
theorem c1 (l : Launch) (Z : State) (a0 : Array Value) (hw : ∀ d ∈ tables_1, d.before a0 Z = true) (n0 : Nat) (h0 : Heap) (hn : n0 ≤ h0.size) (o0 : Addr) (x1 : Int32) (cst : Int32) (va : Addr) (f : Nat → Int32) (k : Nat) (fm : Value) (X_o0 : Exa Z h0 o0 "java/lang/String") (F_o0_coder : Fld Z h0 o0 "java/lang/String" "coder" "B" (.int (0 : Int32))) (S_cs : Sta Z h0 "java/lang/String" "COMPACT_STRINGS" "Z" (.int cst)) (hcs : ¬ cst = 0) (F_o0_value : Fld Z h0 o0 "java/lang/String" "value" "[B" (.ref va)) (A_va : AyI Z h0 va .byte 15 f) (hk : x1.toInt = (k : Int)) (hk15 : k < 15) (S_fm : Sta Z h0 "jdk/internal/util/Preconditions" "SIOOBE_FORMATTER" "Ljava/util/function/BiFunction;" fm) (hfm : fm.isRef = true) :
    Mt l Z (⟨"java/lang/String", "charAt", "(I)C"⟩ : MethodName) jdk_42_method_56_code 2 (some .char) rm_c1 n0 #[(.ref o0), (.int x1)] h0 (Q_c1 Z n0 h0 o0 x1 cst va f k fm) := by
  refine met_of (plainFor_of_name pn_3) (Ls := #[.val (.ref o0), .val (.int x1)]) (fun m => by first | (simp [entryFrame, mkF, argsToLocals, Value.category]; done) | rfl) hn ?_
  intro p e s m below meth c T K W
  replace K : Cx p s m meth c Z "java/lang/String" "charAt" jdk_42_method_56_code 2 (some .char) := K
  generalize eA : (#[(.ref o0), (.int x1)] : Array Value) = args at W
  show Go p e below s n0 (Q_c1 Z n0 h0 o0 x1 cst va f k fm) 0 0 T (mkF m 0 #[.val (.ref o0), .val (.int x1)] [])
  refine g_aloadN K W d1_0 rfl rfl (pc' := 1) rfl ?_
  refine g_callV (c2 l Z a0 hw n0 _ W.sz o0 cst X_o0 F_o0_coder S_cs hcs) K W X_o0 (hw _ (List.mem_of_getElem? (i := 14) rfl)) (hw _ (List.mem_of_getElem? (i := 15) rfl)) (hw _ (List.mem_of_getElem? (i := 17) rfl)) (hw _ (List.mem_of_getElem? (i := 17) rfl)) (hw _ (List.mem_of_getElem? (i := 16) rfl)) (hw _ (List.mem_of_getElem? (i := 1) rfl)) (hw _ (List.mem_of_getElem? (i := 18) rfl)) (by decide) (lenOf pd_2 rfl) d1_1 (pc' := 4) rfl (argsL := []) (rest := []) rfl rfl (by decide) (wt := 0) rfl (by decide) (by decide) (by decide) ?_
  rintro T _ _ W ⟨rfl, rfl⟩
  show Go p e below s n0 (Q_c1 Z n0 h0 o0 x1 cst va f k fm) 0 0 T (mkF m 4 #[.val (.ref o0), .val (.int x1)] [(.int (1 : Int32))])
  refine g_if_eq K W d1_4 (pt := 16) rfl (pf := 7) rfl (fun hc4 => absurd hc4 (by decide)) (fun hc4 => ?_)
  refine g_aloadN K W d1_7 rfl rfl (pc' := 8) rfl ?_
  refine g_getF K W (host := "") (Or.inl (hw _ (List.mem_of_getElem? (i := 21) rfl))) Via.refl F_o0_value d1_8 (pc' := 11) rfl (fun T W => ?_)
  refine g_iloadN K W d1_11 rfl (pc' := 12) rfl ?_
  refine g_callS (c3 l Z a0 hw n0 _ W.sz va x1 f k fm A_va hk hk15 S_fm hfm) K W (hw _ (List.mem_of_getElem? (i := 22) rfl)) (hw _ (List.mem_of_getElem? (i := 23) rfl)) (hw _ (List.mem_of_getElem? (i := 24) rfl)) (hw _ (List.mem_of_getElem? (i := 25) rfl)) (by decide) (lenOf pd_3 rfl) d1_12 (pc' := 15) rfl (argsL := [(.ref va), (.int x1)]) (rest := []) rfl rfl (by decide) (wt := 0) rfl (by decide) (by decide) (by decide) ?_
  rintro T _ _ W ⟨rfl, rfl⟩
  show Go p e below s n0 (Q_c1 Z n0 h0 o0 x1 cst va f k fm) 0 0 T (mkF m 15 #[.val (.ref o0), .val (.int x1)] [(.int (own_ch (f k)))])
  exact g_retN K W (by simp) d1_15 (by decide) (by decide) (v := (own_ch (f k))) (own_chch (f k)) ⟨rfl, rfl⟩
set_option maxHeartbeats 40000000 in
theorem c0 (l : Launch) (Z : State) (a0 : Array Value) (hw : ∀ d ∈ tables_1, d.before a0 Z = true) (n0 : Nat) (h0 : Heap) (x0 x1 : Int32) (a va : Addr) (cst : Int32) (fm : Value) (X_a : Exa Z h0 a "java/lang/String") (F_a_coder : Fld Z h0 a "java/lang/String" "coder" "B" (.int (0 : Int32))) (F_a_value : Fld Z h0 a "java/lang/String" "value" "[B" (.ref va)) (A_va : AyI Z h0 va .byte 15 own_f) (S_cs : Sta Z h0 "java/lang/String" "COMPACT_STRINGS" "Z" (.int cst)) (S_fm : Sta Z h0 "jdk/internal/util/Preconditions" "SIOOBE_FORMATTER" "Ljava/util/function/BiFunction;" fm) (hcs : ¬ cst = 0) (hfm : fm.isRef = true) {p : Program} {e : Env} {s : State} {m : MethodId} {args : Array Value} {below : List Frame} {meth : Method} {c : Code} {T : State} (K : Cx p s m meth c Z "com/example/tagwire/tagwire/ScalarsIsDecimalCharPinLaw" "law" code 9 (some .boolean)) (W : Wd p l e room_1 s m args below meth c n0 T h0 2 64) :
    Go p e below s n0 (fun v hh => v = some (.int 1) ∧ hh = h0) 8 1088 T (mkF m 2 #[.val (.int x0), .val (.int x1), .unset, .unset, .unset, .unset, .unset, .unset, .unset] [(.ref a)]) := by
  refine g_astoreN K W at_2 rfl (Ls' := #[.val (.int x0), .val (.int x1), .val (.ref a), .unset, .unset, .unset, .unset, .unset, .unset]) rfl (pc' := 3) rfl ?_
  refine g_iloadN K W at_3 rfl (pc' := 4) rfl ?_
  refine g_ldc K W (v := (2147483647 : Int32)) (hw _ (List.mem_of_getElem? (i := 8) rfl)) at_4 (pc' := 6) rfl ?_
  refine g_iand K W at_6 (pc' := 7) rfl ?_
  refine g_bipush K W (v := (15 : Int32)) at_7 rfl (pc' := 9) rfl ?_
  refine g_irem K W (by decide) at_9 (pc' := 10) rfl ?_
  generalize e_v10 : ((x1 &&& (2147483647 : Int32)) % (15 : Int32)) = v10
  refine g_istoreN K W at_10 (Ls' := #[.val (.int x0), .val (.int x1), .val (.ref a), .val (.int v10), .unset, .unset, .unset, .unset, .unset]) rfl (pc' := 11) rfl ?_
  obtain ⟨k, hk15, hk⟩ := own_rem x1 15 (by decide) (by decide)
  rw [show Int32.ofNat 15 = (15 : Int32) from rfl, e_v10] at hk
  refine g_aloadN K W at_11 rfl rfl (pc' := 12) rfl ?_
  refine g_iloadN K W at_12 rfl (pc' := 13) rfl ?_
  refine g_callV (c1 l Z a0 hw n0 _ W.sz a v10 cst va own_f k fm X_a F_a_coder S_cs hcs F_a_value A_va hk hk15 S_fm hfm) K W X_a (hw _ (List.mem_of_getElem? (i := 9) rfl)) (hw _ (List.mem_of_getElem? (i := 10) rfl)) (hw _ (List.mem_of_getElem? (i := 12) rfl)) (hw _ (List.mem_of_getElem? (i := 12) rfl)) (hw _ (List.mem_of_getElem? (i := 11) rfl)) (hw _ (List.mem_of_getElem? (i := 1) rfl)) (hw _ (List.mem_of_getElem? (i := 13) rfl)) (by decide) (lenOf pd_4 rfl) at_13 (pc' := 16) rfl (argsL := [(.int v10)]) (rest := []) rfl rfl (by decide) (wt := 0) rfl (by decide) (by decide) (by decide) ?_
  rintro T _ _ W ⟨rfl, rfl⟩
  show Go p e below s n0 (fun v hh => v = some (.int 1) ∧ hh = h0) 8 1088 T (mkF m 16 #[.val (.int x0), .val (.int x1), .val (.ref a), .val (.int v10), .unset, .unset, .unset, .unset, .unset] [(.int (own_ch (own_f k)))])
  generalize e_v16 : (own_ch (own_f k)) = v16
  refine g_istore K W at_16 (Ls' := #[.val (.int x0), .val (.int x1), .val (.ref a), .val (.int v10), .val (.int v16), .unset, .unset, .unset, .unset]) rfl (pc' := 18) rfl ?_
  refine g_iload K W at_18 rfl (pc' := 20) rfl ?_
  refine g_callS (c6 l Z a0 hw n0 _ W.sz v16) K W (hw _ (List.mem_of_getElem? (i := 34) rfl)) (hw _ (List.mem_of_getElem? (i := 35) rfl)) (hw _ (List.mem_of_getElem? (i := 36) rfl)) (hw _ (List.mem_of_getElem? (i := 37) rfl)) (by decide) (lenOf pd_5 rfl) at_20 (pc' := 23) rfl (argsL := [(.int v16)]) (rest := []) rfl rfl (by decide) (wt := 0) rfl (by decide) (by decide) (by decide) ?_
  rintro T _ _ W ⟨rfl, rfl⟩
  show Go p e below s n0 (fun v hh => v = some (.int 1) ∧ hh = h0) 8 1088 T (mkF m 23 #[.val (.int x0), .val (.int x1), .val (.ref a), .val (.int v10), .val (.int v16), .unset, .unset, .unset, .unset] [(.int (own_dec v16))])
  refine g_istore K W at_23 (Ls' := #[.val (.int x0), .val (.int x1), .val (.ref a), .val (.int v10), .val (.int v16), .val (.int (own_dec v16)), .unset, .unset, .unset]) rfl (pc' := 25) rfl ?_
  refine g_iloadN K W at_25 rfl (pc' := 26) rfl ?_
  refine g_callS (c6 l Z a0 hw n0 _ W.sz x0) K W (hw _ (List.mem_of_getElem? (i := 34) rfl)) (hw _ (List.mem_of_getElem? (i := 35) rfl)) (hw _ (List.mem_of_getElem? (i := 36) rfl)) (hw _ (List.mem_of_getElem? (i := 37) rfl)) (by decide) (lenOf pd_5 rfl) at_26 (pc' := 29) rfl (argsL := [(.int x0)]) (rest := []) rfl rfl (by decide) (wt := 0) rfl (by decide) (by decide) (by decide) ?_
  rintro T _ _ W ⟨rfl, rfl⟩
  show Go p e below s n0 (fun v hh => v = some (.int 1) ∧ hh = h0) 8 1088 T (mkF m 29 #[.val (.int x0), .val (.int x1), .val (.ref a), .val (.int v10), .val (.int v16), .val (.int (own_dec v16)), .unset, .unset, .unset] [(.int (own_dec x0))])
  refine g_iloadN K W at_29 rfl (pc' := 30) rfl ?_
  refine g_callS (c7 l Z a0 hw n0 _ W.sz x0) K W (hw _ (List.mem_of_getElem? (i := 38) rfl)) (hw _ (List.mem_of_getElem? (i := 39) rfl)) (hw _ (List.mem_of_getElem? (i := 40) rfl)) (hw _ (List.mem_of_getElem? (i := 41) rfl)) (by decide) (lenOf pd_5 rfl) at_30 (pc' := 33) rfl (argsL := [(.int x0)]) (rest := [(.int (own_dec x0))]) rfl rfl (by decide) (wt := 1) rfl (by decide) (by decide) (by decide) ?_
  rintro T _ _ W ⟨rfl, rfl⟩
  show Go p e below s n0 (fun v hh => v = some (.int 1) ∧ hh = h0) 8 1088 T (mkF m 33 #[.val (.int x0), .val (.int x1), .val (.ref a), .val (.int v10), .val (.int v16), .val (.int (own_dec v16)), .unset, .unset, .unset] [(.int (own_dec x0)), (.int (own_dec x0))])
  refine g_icmp_ne K W at_33 (pt := 40) rfl (pf := 36) rfl (fun hc33 => ?_) (fun hc33 => absurd rfl hc33)
  refine g_iconst K W (v := (1 : Int32)) at_36 rfl (pc' := 37) rfl ?_
  refine g_goto K W at_37 (pt := 41) rfl ?_
  refine g_istore K W at_41 (Ls' := #[.val (.int x0), .val (.int x1), .val (.ref a), .val (.int v10), .val (.int v16), .val (.int (own_dec v16)), .val (.int (1 : Int32)), .unset, .unset]) rfl (pc' := 43) rfl ?_
  refine g_iloadN K W at_43 rfl (pc' := 44) rfl ?_
  refine g_sipush K W (v := (255 : Int32)) at_44 rfl (pc' := 47) rfl ?_
  refine g_iand K W at_47 (pc' := 48) rfl ?_
  generalize e_v48 : (x0 &&& (255 : Int32)) = v48
  refine g_istore K W at_48 (Ls' := #[.val (.int x0), .val (.int x1), .val (.ref a), .val (.int v10), .val (.int v16), .val (.int (own_dec v16)), .val (.int (1 : Int32)), .val (.int v48), .unset]) rfl (pc' := 50) rfl ?_
  refine g_iload K W at_50 rfl (pc' := 52) rfl ?_
  refine g_callS (c6 l Z a0 hw n0 _ W.sz v48) K W (hw _ (List.mem_of_getElem? (i := 34) rfl)) (hw _ (List.mem_of_getElem? (i := 35) rfl)) (hw _ (List.mem_of_getElem? (i := 36) rfl)) (hw _ (List.mem_of_getElem? (i := 37) rfl)) (by decide) (lenOf pd_5 rfl) at_52 (pc' := 55) rfl (argsL := [(.int v48)]) (rest := []) rfl rfl (by decide) (wt := 0) rfl (by decide) (by decide) (by decide) ?_
  rintro T _ _ W ⟨rfl, rfl⟩
  show Go p e below s n0 (fun v hh => v = some (.int 1) ∧ hh = h0) 8 1088 T (mkF m 55 #[.val (.int x0), .val (.int x1), .val (.ref a), .val (.int v10), .val (.int v16), .val (.int (own_dec v16)), .val (.int (1 : Int32)), .val (.int v48), .unset] [(.int (own_dec v48))])
  refine g_iload K W at_55 rfl (pc' := 57) rfl ?_
  refine g_callS (c7 l Z a0 hw n0 _ W.sz v48) K W (hw _ (List.mem_of_getElem? (i := 38) rfl)) (hw _ (List.mem_of_getElem? (i := 39) rfl)) (hw _ (List.mem_of_getElem? (i := 40) rfl)) (hw _ (List.mem_of_getElem? (i := 41) rfl)) (by decide) (lenOf pd_5 rfl) at_57 (pc' := 60) rfl (argsL := [(.int v48)]) (rest := [(.int (own_dec v48))]) rfl rfl (by decide) (wt := 1) rfl (by decide) (by decide) (by decide) ?_
  rintro T _ _ W ⟨rfl, rfl⟩
  show Go p e below s n0 (fun v hh => v = some (.int 1) ∧ hh = h0) 8 1088 T (mkF m 60 #[.val (.int x0), .val (.int x1), .val (.ref a), .val (.int v10), .val (.int v16), .val (.int (own_dec v16)), .val (.int (1 : Int32)), .val (.int v48), .unset] [(.int (own_dec v48)), (.int (own_dec v48))])
  refine g_icmp_ne K W at_60 (pt := 67) rfl (pf := 63) rfl (fun hc60 => ?_) (fun hc60 => absurd rfl hc60)
  refine g_iconst K W (v := (1 : Int32)) at_63 rfl (pc' := 64) rfl ?_
  refine g_goto K W at_64 (pt := 68) rfl ?_
  refine g_istore K W at_68 (Ls' := #[.val (.int x0), .val (.int x1), .val (.ref a), .val (.int v10), .val (.int v16), .val (.int (own_dec v16)), .val (.int (1 : Int32)), .val (.int v48), .val (.int (1 : Int32))]) rfl (pc' := 70) rfl ?_
  refine g_iload K W at_70 rfl (pc' := 72) rfl ?_
  refine g_if_eq K W at_72 (pt := 89) rfl (pf := 75) rfl (fun hc72 => absurd hc72 (by rw [← e_v16, own_all hk15]; decide)) (fun hc72 => ?_)
  refine g_iload K W at_75 rfl (pc' := 77) rfl ?_
  refine g_if_eq K W at_77 (pt := 89) rfl (pf := 80) rfl (fun hc77 => absurd hc77 (by decide)) (fun hc77 => ?_)
  refine g_iload K W at_80 rfl (pc' := 82) rfl ?_
  refine g_if_eq K W at_82 (pt := 89) rfl (pf := 85) rfl (fun hc82 => absurd hc82 (by decide)) (fun hc82 => ?_)
  refine g_iconst K W (v := (1 : Int32)) at_85 rfl (pc' := 86) rfl ?_
  refine g_goto K W at_86 (pt := 90) rfl ?_
  exact g_retN K W (by simp) at_90 (by decide) (by decide) (v := (1 : Int32)) rfl ⟨rfl, rfl⟩
set_option maxHeartbeats 40000000 in
theorem own_runs (l : Launch) (x0 x1 cst : Int32) (fm : Value) : MetFree l x (head1 (Jvm.Cond.code x code maxLocals ret :: tables_1) room_1) (fun a U => a = #[.int x0, .int x1] ∧ Jvm.Lit.constHeld U "com/example/tagwire/tagwire/ScalarsIsDecimalCharPinLaw" 7 ∧ Jvm.Lit.compactW.before a U = true ∧ Sta U U.heap "java/lang/String" "COMPACT_STRINGS" "Z" (.int cst) ∧ ¬ cst = 0 ∧ Sta U U.heap "jdk/internal/util/Preconditions" "SIOOBE_FORMATTER" "Ljava/util/function/BiFunction;" fm ∧ fm.isRef = true) (fun _ _ _ _ _ => True)
    (fun _ s o t => ∃ L, o = .returned (some (.int 1)) ∧ Fr s.heap.size L ∧ ReturnedEndW s o t L 8 1088) := by
  refine MetFree.of_bodySF (plainFor_of_name pn_1) hisR ?_
  intro p e s m args below meth c s₁ Bd hml0 hP hK
  obtain ⟨rfl, hheld, hcw, Scs, hcs, Sfm, hfm⟩ := hP
  have hw : ∀ d ∈ tables_1, d.before #[.int x0, .int x1] s = true := fun d hd => atoms_spec (ws := Jvm.Cond.code x code maxLocals ret :: tables_1) Bd.pre d (List.mem_cons_of_mem _ hd)
  have hown : s.vm.findClass "com/example/tagwire/tagwire/ScalarsIsDecimalCharPinLaw" = some m.cls := findClass_of_methodNamed Bd.named
  have X0 := Stand.of_body Bd
  have X : Stand p l e room_1 (s.setVm s.vm) m #[.int x0, .int x1] below meth c s₁ [] 0 0 := X0
  have e0 : s₁.heap = s.heap := by rw [Bd.state]; rfl
  have wS : ∀ d ∈ Bundle.stringAtoms, d.before #[.int x0, .int x1] s = true := by
    intro d hd
    simp only [Bundle.stringAtoms, List.mem_cons, List.not_mem_nil, or_false] at hd
    rcases hd with rfl | rfl | rfl | rfl | rfl | rfl | rfl
    · exact hw _ (List.mem_of_getElem? (i := 1) rfl)
    · exact hw _ (List.mem_of_getElem? (i := 2) rfl)
    · exact hw _ (List.mem_of_getElem? (i := 3) rfl)
    · exact hw _ (List.mem_of_getElem? (i := 4) rfl)
    · exact hw _ (List.mem_of_getElem? (i := 5) rfl)
    · exact hw _ (List.mem_of_getElem? (i := 6) rfl)
    · exact hw _ (List.mem_of_getElem? (i := 7) rfl)
  obtain ⟨a, T', h', k1, va, kb, X', e', E, hS, hk1, hZ', hown', Xa, Fc, Fv, Av, -, -, -, st⟩ := ldcSV (Z := s) (Ts := []) (vs := own_cs.map Value.int) (z := 15) X Bd.exec (State.Warmed39.refl s) hown (hw _ (List.mem_of_getElem? (i := 0) rfl)) wS e0 ((State.WarmedH.refl s).since 0) (Nat.zero_le _) (Fr.nil _) (fun _ _ q => q) IB.start (by simp) hheld hcw ⟨by decide, by decide⟩ (by decide) (by decide) (g := mkF m 0 #[.val (.int x0), .val (.int x1), .unset, .unset, .unset, .unset, .unset, .unset, .unset] []) rfl (hb Bd.bytes at_0) (n := 60) (by decide) (by decide) (by decide) (by decide)
  have K : Cx p (s.setVm T'.vm) m meth c s "com/example/tagwire/tagwire/ScalarsIsDecimalCharPinLaw" "law" code 9 (some .boolean) := ⟨Bd.exec, hZ', Bd.bytes, hml0, hown', Bd.returns, Bd.notSynchronized, (name_of_methodNamed Bd.named Bd.method).1⟩
  have W : Wd p l e room_1 (s.setVm T'.vm) m #[.int x0, .int x1] below meth c s.heap.size T' h' 2 64 := ⟨[], X', Fr.nil _, e', Nat.le_refl _⟩
  have G := c0 l s _ hw s.heap.size h' x0 x1 a va cst fm Xa Fc Fv (AyI.of_arv (n := 15) (f := own_f) Av (by decide) (by decide)) (Scs.ext E) (Sfm.ext E) hcs hfm K W
  obtain ⟨s₂, o, g1, g2, g3, v, L, rfl, ⟨⟨rfl, gh⟩, gN⟩, gF⟩ := G
  obtain ⟨r1, r2, r3⟩ := hS.ended (U := s₂) gF.2.1 (by rw [gh]; exact hk1) gF.2.2
  refine ⟨s₂, _, castTop (by first | (simp [entryFrame, mkF, argsToLocals, Value.category, maxLocals]; done) | rfl) (st _ g1), g2, g3, L, rfl, gN, ⟨_, rfl⟩, r1, r2, r3⟩
set_option maxHeartbeats 40000000 in
theorem comes_1 {Post : Tables → Env → Array Value → State → Outcome → State → Prop} (hpost : ∀ tb e args s v u, (limb_1_1.after args s (.returned v) u = true ∧ limb_1_2.after args s (.returned v) u = true ∧ True) → ReturnedEndW s (.returned v) u (Jvm.fieldLocs frame_1_writes args s ++ Jvm.arrayLocs frame_1_arrays args s ++ Jvm.staticLocs frame_1_statics s) 8 1088 → Post tb e args s (.returned v) u) :
    ArmFor flags0 classFile x code maxLocals ret World_1 tables_1 room_1 Calls_1 rest_1 Pre_1 Post := by
  intro l hfl _ _ p e ha hc hk s m args below hf hA hF happ hP
  obtain ⟨hcalls, hrest, hpre⟩ := hP
  obtain ⟨hg, hn⟩ := and_e (Cond.before_iff.mp (show (Jvm.Cond.and given_1 narrow_1).before args s = true from hpre))
  obtain ⟨hcnt, hg⟩ := and_e hg
  obtain ⟨hi0, hi1⟩ := and_e hg
  obtain ⟨w0, w1, rfl⟩ : ∃ w0 w1 : Value, args = #[w0, w1] := by
    have hs : args.size = 2 := by simpa [Cond.value, given_1] using hcnt
    obtain ⟨L⟩ := args
    match L, hs with
    | [w0, w1], _ => exact ⟨w0, w1, rfl⟩
  obtain ⟨i0, ei0⟩ := is_v hi0
  obtain rfl : w0 = (.int i0) := Option.some.inj ei0
  obtain ⟨i1, ei1⟩ := is_v hi1
  obtain rfl : w1 = (.int i1) := Option.some.inj ei1
  obtain ⟨hsets, hown0⟩ := atoms_of _ (rest_1_c_eq ▸ (show rest_1_c.before _ s = true from hrest))
  have hcw := hsets _ (List.mem_of_getElem? (i := 2) rfl)
  have n5 := not_v (Cond.before_iff.mp hcw)
  obtain ⟨cst, ec⟩ := is_v (Cond.before_iff.mp (hsets _ (List.mem_of_getElem? (i := 1) rfl)))
  have Scs : Sta s s.heap "java/lang/String" "COMPACT_STRINGS" "Z" (.int cst) := Sta.start ec (Or.inl (hsets _ (List.mem_of_getElem? (i := 0) rfl)))
  obtain ⟨fm, ef, rf⟩ := isR_v (Cond.before_iff.mp (hsets _ (List.mem_of_getElem? (i := 8) rfl)))
  have Sfm : Sta s s.heap "jdk/internal/util/Preconditions" "SIOOBE_FORMATTER" "Ljava/util/function/BiFunction;" fm := Sta.start ef (Or.inl (hsets _ (List.mem_of_getElem? (i := 7) rfl)))
  have hcs : ¬ (cst = (0 : Int32)) := gotF (Cond.eq_ints ec (Term.int_eval (0))) n5
  have hheld : Jvm.Lit.constHeld s "com/example/tagwire/tagwire/ScalarsIsDecimalCharPinLaw" 7 := hcalls.1 ("com/example/tagwire/tagwire/ScalarsIsDecimalCharPinLaw", 7) (List.mem_singleton.mpr rfl)
  obtain ⟨n, o, h1, h2, h3, L, rfl, N, hq⟩ := own_runs l i0 i1 cst fm p e ha hc hk s m _ below hf ((Spec.applies_iff_loose hf).mp happ).1 ⟨rfl, hheld, hcw, Scs, hcs, Sfm, rf⟩ trivial
  refine ⟨n, _, h1, h2, h3, hpost _ _ _ _ _ _ ⟨Cond.after_iff.mpr rfl, Cond.after_iff.mpr (eq_i res_at (Term.int_eval (1)) rfl), trivial⟩ ⟨hq.1, hq.2.1, hq.2.2.1, (hq.2.2.2.sift fun y hy => Or.inr (N y hy)).mono (by decide) (by decide)⟩⟩
theorem main_1_1 : Claimed_1_1 := comes_1 fun _ _ _ _ _ _ h hF => ⟨h.1, hF⟩
theorem main_1_2 : Claimed_1_2 := comes_1 fun _ _ _ _ _ _ h hF => ⟨h.2.1, hF⟩
end Jvm.Pilot.@@N@@
namespace Jvm.Pilot.@@N@@
open Jvm Jvm.ClassFile Sem Op Lib Jvm.Free Jvm.Stand Jvm.Pilot.@@N@@.Jvm.D
/-! MADE BY PROGRAM (witnessworld.py) out of the Statement's table words and the real class files: 17 classes; the members and pool entries that the words name. The judged class is class 1, her method 1. -/
namespace start1
open Jvm.ClassFile
def u (s : String) : CpInfo := .utf8 (stringToUtf16 s)
/-- a pool by its gaps: so many unusable entries, then the entry; so many at the end -/
def gap : Nat → List CpInfo → List CpInfo
  | 0, r => r
  | n + 1, r => .unusable :: gap n r
def poolList (es : List (Nat × CpInfo)) (last : Nat) : List CpInfo := es.foldr (fun e r => gap e.1 (e.2 :: r)) (gap last [])
def pool (es : List (Nat × CpInfo)) (last : Nat) : Array CpInfo := ⟨poolList es last⟩
def fileOf (pool : Array CpInfo) (this : Nat) (attrs : Array Attribute := #[]) (ms : Array MethodInfo := #[]) (fl : Nat := 33) (sup : Nat := 0) (ifs : Array Nat := #[]) (fds : Array FieldInfo := #[]) : ClassFile where
  minorVersion := 0
  majorVersion := 65
  constantPool := pool
  accessFlags := fl
  thisClass := this
  superClass := sup
  interfaces := ifs
  fields := fds
  methods := ms
  attributes := attrs
def plain (name : String) (sup : Option ClassId) : Class where
  name := name
  kind := .ordinary
  loader := none
  accessFlags := 33
  super := sup
  interfaces := #[]
  cf := none
  fields := #[]
  methods := #[]
  instanceTypes := #[]
  staticTypes := #[]
  resolved := #[]
  callSites := []
  init := .initialized
  statics := none
  mirror := none

def pool0 : Array CpInfo := pool [(5, u "<init>"), (0, u "()V"), (1, .class_ 10), (1, u "java/lang/Object")] 113

def k0m0 : Method := { name := "<init>", desc := "()V", sig := { parameters := [], returnType := none }, accessFlags := 1, code := none }
/-- java/lang/Object -/
def k0 : Class := { plain "java/lang/Object" none with
  accessFlags := 33
  interfaces := #[]
  cf := some (fileOf pool0 8 #[] #[{ accessFlags := 1, nameIndex := 5, descriptorIndex := 6, attributes := #[] }] 33 0 #[] #[])
  fields := #[]
  methods := #[k0m0]
  instanceTypes := #[]
  staticTypes := #[]
  resolved := Array.replicate 124 none
  statics := none }

def pool1 : Array CpInfo := pool [(2, .class_ 4), (1, u "java/lang/Object"), (0, u "<init>"), (0, u "()V"), (0, .string 8), (0, u "0123456789+-.eE"), (0, .integer 2147483647), (0, .methodref 11 12), (0, .class_ 13), (0, .nameAndType 14 15), (0, u "java/lang/String"), (0, u "charAt"), (0, u "(I)C"), (0, .methodref 17 18), (0, .class_ 19), (0, .nameAndType 20 21), (0, u "com/example/tagwire/tagwire/Scalars"), (0, u "isDecimalChar"), (0, u "(I)Z"), (0, .methodref 23 24), (0, .class_ 25), (0, .nameAndType 26 21), (0, u "com/example/tagwire/tagwire/ScalarsIsDecimalCharPinLaw"), (0, u "expected"), (0, .long 48), (1, .long 9), (3, u "law"), (0, u "(II)Z")] 3

def k1m0 : Method := { name := "<init>", desc := "()V", sig := { parameters := [], returnType := none }, accessFlags := 2, code := none }
def k1c1 : Code := { maxStack := 2, maxLocals := 9, code := code, exceptionTable := #[], attributes := #[] }
def k1m1 : Method := { name := "law", desc := "(II)Z", sig := { parameters := [.int, .int], returnType := some .boolean }, accessFlags := 9, code := some k1c1 }
def k1c2 : Code := { maxStack := 4, maxLocals := 4, code := method_3_code, exceptionTable := #[], attributes := #[] }
def k1m2 : Method := { name := "expected", desc := "(I)Z", sig := { parameters := [.int], returnType := some .boolean }, accessFlags := 10, code := some k1c2 }
/-- com/example/tagwire/tagwire/ScalarsIsDecimalCharPinLaw -/
def k1 : Class := { plain "com/example/tagwire/tagwire/ScalarsIsDecimalCharPinLaw" (some 0) with
  accessFlags := 49
  interfaces := #[]
  cf := some (fileOf pool1 23 #[] #[{ accessFlags := 2, nameIndex := 5, descriptorIndex := 6, attributes := #[] }, { accessFlags := 9, nameIndex := 33, descriptorIndex := 34, attributes := #[] }, { accessFlags := 10, nameIndex := 26, descriptorIndex := 21, attributes := #[] }] 49 2 #[] #[])
  fields := #[]
  methods := #[k1m0, k1m1, k1m2]
  instanceTypes := #[]
  staticTypes := #[]
  resolved := Array.replicate 38 none
  statics := none }

def pool2 : Array CpInfo := pool [(1, .class_ 2), (0, u "java/io/Serializable"), (0, .class_ 4), (0, u "java/lang/Object")] 2

/-- java/io/Serializable -/
def k2 : Class := { plain "java/io/Serializable" (some 0) with
  accessFlags := 1537
  interfaces := #[]
  cf := some (fileOf pool2 1 #[] #[] 1537 3 #[] #[])
  fields := #[]
  methods := #[]
  instanceTypes := #[]
  staticTypes := #[]
  resolved := Array.replicate 7 none
  statics := none }

def pool3 : Array CpInfo := pool [(1, .class_ 2), (0, u "java/lang/Comparable"), (0, .class_ 4), (0, u "java/lang/Object")] 7

/-- java/lang/Comparable -/
def k3 : Class := { plain "java/lang/Comparable" (some 0) with
  accessFlags := 1537
  interfaces := #[]
  cf := some (fileOf pool3 1 #[] #[] 1537 3 #[] #[])
  fields := #[]
  methods := #[]
  instanceTypes := #[]
  staticTypes := #[]
  resolved := Array.replicate 12 none
  statics := none }

def pool4 : Array CpInfo := pool [(2, .class_ 4), (1, u "java/lang/CharSequence"), (42, .class_ 48), (0, u "java/lang/CharSequence$1CodePointIterator"), (10, .class_ 60), (0, u "java/lang/CharSequence$1CharIterator"), (5, .class_ 67), (0, u "java/lang/Object")] 63

/-- java/lang/CharSequence -/
def k4 : Class := { plain "java/lang/CharSequence" (some 0) with
  accessFlags := 1537
  interfaces := #[]
  cf := some (fileOf pool4 2 #[.nestMembers #[47, 59]] #[] 1537 66 #[] #[])
  fields := #[]
  methods := #[]
  instanceTypes := #[]
  staticTypes := #[]
  resolved := Array.replicate 131 none
  statics := none }

def pool5 : Array CpInfo := pool [(1, .class_ 2), (0, u "java/lang/constant/Constable"), (0, .class_ 4), (0, u "java/lang/Object")] 6

/-- java/lang/constant/Constable -/
def k5 : Class := { plain "java/lang/constant/Constable" (some 0) with
  accessFlags := 1537
  interfaces := #[]
  cf := some (fileOf pool5 1 #[] #[] 1537 3 #[] #[])
  fields := #[]
  methods := #[]
  instanceTypes := #[]
  staticTypes := #[]
  resolved := Array.replicate 11 none
  statics := none }

def pool6 : Array CpInfo := pool [(1, .class_ 2), (0, u "java/lang/constant/ConstantDesc"), (0, .class_ 4), (0, u "java/lang/Object")] 32

/-- java/lang/constant/ConstantDesc -/
def k6 : Class := { plain "java/lang/constant/ConstantDesc" (some 0) with
  accessFlags := 1537
  interfaces := #[]
  cf := some (fileOf pool6 1 #[] #[] 1537 3 #[] #[])
  fields := #[]
  methods := #[]
  instanceTypes := #[]
  staticTypes := #[]
  resolved := Array.replicate 37 none
  statics := none }

def pool7 : Array CpInfo := pool [(2, .class_ 4), (1, u "java/lang/Object"), (0, u "<init>"), (0, u "()V"), (2, .fieldref 10 11), (0, .class_ 12), (0, .nameAndType 13 14), (0, u "java/lang/String"), (0, u "value"), (0, u "[B"), (0, .fieldref 10 16), (0, .nameAndType 17 18), (0, u "coder"), (0, u "B"), (2, u "hash"), (0, u "I"), (2, u "hashIsZero"), (0, u "Z"), (11, .fieldref 10 39), (0, .nameAndType 40 26), (0, u "COMPACT_STRINGS"), (66, .class_ 109), (1, u "java/lang/StringLatin1"), (32, u "()Z"), (220, u "([BI)C"), (27, u "(II)V"), (35, u "(I)C"), (64, .methodref 10 493), (0, .nameAndType 494 142), (0, u "isLatin1"), (0, .methodref 107 496), (0, .nameAndType 497 363), (0, u "charAt"), (3, u "checkIndex"), (73, .class_ 576), (0, u "java/lang/CharSequence"), (22, u "CASE_INSENSITIVE_ORDER"), (0, u "Ljava/util/Comparator;"), (452, .fieldref 1054 1055), (0, .class_ 1056), (0, .nameAndType 1057 1058), (0, u "jdk/internal/util/Preconditions"), (0, u "SIOOBE_FORMATTER"), (0, u "Ljava/util/function/BiFunction;"), (0, .methodref 1054 1060), (0, .nameAndType 501 1061), (0, u "(IILjava/util/function/BiFunction;)I"), (39, u "serialPersistentFields"), (0, u "[Ljava/io/ObjectStreamField;"), (0, .class_ 1104), (0, u "java/lang/String$CaseInsensitiveComparator"), (1, .class_ 1107), (0, u "java/io/Serializable"), (0, .class_ 1109), (0, u "java/lang/Comparable"), (0, .class_ 1111), (0, u "java/lang/constant/Constable"), (0, .class_ 1113), (0, u "java/lang/constant/ConstantDesc"), (2, u "serialVersionUID"), (0, u "J"), (3, u "REPL"), (0, u "C"), (2, u "LATIN1"), (1, u "UTF16")] 323

def k7m0 : Method := { name := "<init>", desc := "()V", sig := { parameters := [], returnType := none }, accessFlags := 1, code := none }
def k7c1 : Code := { maxStack := 2, maxLocals := 2, code := jdk_42_method_56_code, exceptionTable := #[], attributes := #[] }
def k7m1 : Method := { name := "charAt", desc := "(I)C", sig := { parameters := [.int], returnType := some .char }, accessFlags := 1, code := some k7c1 }
def k7c2 : Code := { maxStack := 1, maxLocals := 1, code := jdk_42_method_154_code, exceptionTable := #[], attributes := #[] }
def k7m2 : Method := { name := "isLatin1", desc := "()Z", sig := { parameters := [], returnType := some .boolean }, accessFlags := 0, code := some k7c2 }
def k7c3 : Code := { maxStack := 3, maxLocals := 2, code := jdk_42_method_155_code, exceptionTable := #[], attributes := #[] }
def k7m3 : Method := { name := "checkIndex", desc := "(II)V", sig := { parameters := [.int, .int], returnType := none }, accessFlags := 8, code := some k7c3 }
/-- java/lang/String -/
def k7 : Class := { plain "java/lang/String" (some 0) with
  accessFlags := 49
  interfaces := #[2, 3, 4, 5, 6]
  cf := some (fileOf pool7 10 #[.nestMembers #[1103]] #[{ accessFlags := 1, nameIndex := 5, descriptorIndex := 6, attributes := #[] }, { accessFlags := 1, nameIndex := 497, descriptorIndex := 427, attributes := #[] }, { accessFlags := 0, nameIndex := 494, descriptorIndex := 142, attributes := #[] }, { accessFlags := 8, nameIndex := 501, descriptorIndex := 391, attributes := #[] }] 49 2 #[1106, 1108, 575, 1110, 1112] #[{ accessFlags := 18, nameIndex := 13, descriptorIndex := 14, attributes := #[] }, { accessFlags := 18, nameIndex := 17, descriptorIndex := 18, attributes := #[] }, { accessFlags := 2, nameIndex := 21, descriptorIndex := 22, attributes := #[] }, { accessFlags := 2, nameIndex := 25, descriptorIndex := 26, attributes := #[] }, { accessFlags := 26, nameIndex := 1116, descriptorIndex := 1117, attributes := #[] }, { accessFlags := 24, nameIndex := 40, descriptorIndex := 26, attributes := #[] }, { accessFlags := 26, nameIndex := 1101, descriptorIndex := 1102, attributes := #[] }, { accessFlags := 26, nameIndex := 1121, descriptorIndex := 1122, attributes := #[] }, { accessFlags := 25, nameIndex := 599, descriptorIndex := 600, attributes := #[] }, { accessFlags := 24, nameIndex := 1125, descriptorIndex := 18, attributes := #[] }, { accessFlags := 24, nameIndex := 1127, descriptorIndex := 18, attributes := #[] }])
  fields := #[{ name := "value", type := (.array .byte), accessFlags := 18, slot := 0, constantValue := 0 }, { name := "coder", type := .byte, accessFlags := 18, slot := 1, constantValue := 0 }, { name := "hash", type := .int, accessFlags := 2, slot := 2, constantValue := 0 }, { name := "hashIsZero", type := .boolean, accessFlags := 2, slot := 3, constantValue := 0 }, { name := "serialVersionUID", type := .long, accessFlags := 26, slot := 0, constantValue := 0 }, { name := "COMPACT_STRINGS", type := .boolean, accessFlags := 24, slot := 1, constantValue := 0 }, { name := "serialPersistentFields", type := (.array (.object "java/io/ObjectStreamField")), accessFlags := 26, slot := 2, constantValue := 0 }, { name := "REPL", type := .char, accessFlags := 26, slot := 3, constantValue := 0 }, { name := "CASE_INSENSITIVE_ORDER", type := (.object "java/util/Comparator"), accessFlags := 25, slot := 4, constantValue := 0 }, { name := "LATIN1", type := .byte, accessFlags := 24, slot := 5, constantValue := 0 }, { name := "UTF16", type := .byte, accessFlags := 24, slot := 6, constantValue := 0 }]
  methods := #[k7m0, k7m1, k7m2, k7m3]
  instanceTypes := #[(.array .byte), .byte, .int, .boolean]
  staticTypes := #[.long, .boolean, (.array (.object "java/io/ObjectStreamField")), .char, (.object "java/util/Comparator"), .byte, .byte]
  resolved := Array.replicate 1451 none
  statics := some 0 }

def pool8 : Array CpInfo := pool [(1, .class_ 2), (0, u "java/lang/String"), (1, .class_ 6), (1, u "java/lang/Object"), (0, u "<init>"), (0, u "()V"), (0, .methodref 1 10), (0, .nameAndType 11 12), (0, u "checkIndex"), (0, u "(II)V"), (1, .class_ 16), (1, u "java/lang/StringLatin1"), (36, u "([BI)C"), (67, u "$assertionsDisabled"), (0, u "Z"), (98, .class_ 223), (1, u "java/lang/StringLatin1$LinesSpliterator"), (28, u "charAt"), (137, .class_ 391), (0, u "java/lang/StringLatin1$CharsSpliterator")] 3

def k8m0 : Method := { name := "<init>", desc := "()V", sig := { parameters := [], returnType := none }, accessFlags := 0, code := none }
def k8c1 : Code := { maxStack := 2, maxLocals := 2, code := jdk_43_method_2_code, exceptionTable := #[], attributes := #[] }
def k8m1 : Method := { name := "charAt", desc := "([BI)C", sig := { parameters := [(.array .byte), .int], returnType := some .char }, accessFlags := 9, code := some k8c1 }
/-- java/lang/StringLatin1 -/
def k8 : Class := { plain "java/lang/StringLatin1" (some 0) with
  accessFlags := 48
  interfaces := #[]
  cf := some (fileOf pool8 14 #[.nestMembers #[390, 221]] #[{ accessFlags := 0, nameIndex := 7, descriptorIndex := 8, attributes := #[] }, { accessFlags := 9, nameIndex := 252, descriptorIndex := 53, attributes := #[] }] 48 4 #[] #[{ accessFlags := 4120, nameIndex := 121, descriptorIndex := 122, attributes := #[] }])
  fields := #[{ name := "$assertionsDisabled", type := .boolean, accessFlags := 4120, slot := 0, constantValue := 0 }]
  methods := #[k8m0, k8m1]
  instanceTypes := #[]
  staticTypes := #[.boolean]
  resolved := Array.replicate 395 none
  statics := none }

def pool9 : Array CpInfo := pool [(2, .class_ 4), (1, u "java/lang/Object"), (0, u "<init>"), (0, u "()V"), (17, .class_ 26), (1, u "jdk/internal/util/Preconditions"), (6, u "checkIndex"), (21, .class_ 56), (0, u "jdk/internal/util/Preconditions$4"), (57, .class_ 115), (0, u "jdk/internal/util/Preconditions$1"), (7, u "SIOOBE_FORMATTER"), (0, u "Ljava/util/function/BiFunction;"), (0, .class_ 126), (0, u "jdk/internal/util/Preconditions$2"), (3, u "AIOOBE_FORMATTER"), (0, .class_ 132), (0, u "jdk/internal/util/Preconditions$3"), (3, u "IOOBE_FORMATTER"), (41, u "(IILjava/util/function/BiFunction;)I")] 15

def k9m0 : Method := { name := "<init>", desc := "()V", sig := { parameters := [], returnType := none }, accessFlags := 1, code := none }
def k9c1 : Code := { maxStack := 3, maxLocals := 3, code := jdk_41_method_11_code, exceptionTable := #[], attributes := #[] }
def k9m1 : Method := { name := "checkIndex", desc := "(IILjava/util/function/BiFunction;)I", sig := { parameters := [.int, .int, (.object "java/util/function/BiFunction")], returnType := some .int }, accessFlags := 9, code := some k9c1 }
/-- jdk/internal/util/Preconditions -/
def k9 : Class := { plain "jdk/internal/util/Preconditions" (some 0) with
  accessFlags := 33
  interfaces := #[]
  cf := some (fileOf pool9 24 #[.nestMembers #[55, 131, 125, 114]] #[{ accessFlags := 1, nameIndex := 5, descriptorIndex := 6, attributes := #[] }, { accessFlags := 9, nameIndex := 33, descriptorIndex := 178, attributes := #[] }] 33 2 #[] #[{ accessFlags := 25, nameIndex := 123, descriptorIndex := 124, attributes := #[] }, { accessFlags := 25, nameIndex := 130, descriptorIndex := 124, attributes := #[] }, { accessFlags := 25, nameIndex := 136, descriptorIndex := 124, attributes := #[] }])
  fields := #[{ name := "SIOOBE_FORMATTER", type := (.object "java/util/function/BiFunction"), accessFlags := 25, slot := 0, constantValue := 0 }, { name := "AIOOBE_FORMATTER", type := (.object "java/util/function/BiFunction"), accessFlags := 25, slot := 1, constantValue := 0 }, { name := "IOOBE_FORMATTER", type := (.object "java/util/function/BiFunction"), accessFlags := 25, slot := 2, constantValue := 0 }]
  methods := #[k9m0, k9m1]
  instanceTypes := #[]
  staticTypes := #[(.object "java/util/function/BiFunction"), (.object "java/util/function/BiFunction"), (.object "java/util/function/BiFunction")]
  resolved := Array.replicate 194 none
  statics := some 1 }

def pool10 : Array CpInfo := pool [(2, .class_ 4), (1, u "java/lang/Object"), (0, u "<init>"), (0, u "()V"), (66, .class_ 75), (1, u "com/example/tagwire/tagwire/Scalars"), (2, .class_ 79), (0, u "com/example/tagwire/tagwire/Scalars$Invalid"), (44, u "NOT_OWN"), (0, u "Ljava/lang/Object;"), (162, u "TRUE"), (3, u "FALSE"), (14, u "TIME_READ"), (0, u "Ljava/time/format/DateTimeFormatter;"), (33, u "UUID_HYPHENS"), (0, u "[I"), (50, u "isDecimalChar"), (0, u "(I)Z"), (0, .class_ 397), (0, u "com/example/tagwire/tagwire/Scalars$OverLimit"), (88, u "TIME_WRITTEN"), (83, u "UNSUPPORTED"), (0, u "Ljava/lang/String;"), (1, u "NOT_AN_INTEGER"), (0, u "NOT_A_DECIMAL"), (0, u "NOT_A_DOUBLE"), (0, u "NOT_BASE64"), (0, u "NAN"), (0, u "INFINITY"), (0, u "NEGATIVE_INFINITY"), (0, u "UUID_LENGTH"), (0, u "I")] 43

def k10m0 : Method := { name := "<init>", desc := "()V", sig := { parameters := [], returnType := none }, accessFlags := 2, code := none }
def k10c1 : Code := { maxStack := 2, maxLocals := 1, code := prog_28_method_26_code, exceptionTable := #[], attributes := #[] }
def k10m1 : Method := { name := "isDecimalChar", desc := "(I)Z", sig := { parameters := [.int], returnType := some .boolean }, accessFlags := 8, code := some k10c1 }
/-- com/example/tagwire/tagwire/Scalars -/
def k10 : Class := { plain "com/example/tagwire/tagwire/Scalars" (some 0) with
  accessFlags := 48
  interfaces := #[]
  cf := some (fileOf pool10 73 #[.nestMembers #[396, 78]] #[{ accessFlags := 2, nameIndex := 5, descriptorIndex := 6, attributes := #[] }, { accessFlags := 8, nameIndex := 394, descriptorIndex := 395, attributes := #[] }] 48 2 #[] #[{ accessFlags := 26, nameIndex := 570, descriptorIndex := 571, attributes := #[] }, { accessFlags := 26, nameIndex := 573, descriptorIndex := 571, attributes := #[] }, { accessFlags := 26, nameIndex := 574, descriptorIndex := 571, attributes := #[] }, { accessFlags := 26, nameIndex := 575, descriptorIndex := 571, attributes := #[] }, { accessFlags := 26, nameIndex := 576, descriptorIndex := 571, attributes := #[] }, { accessFlags := 26, nameIndex := 577, descriptorIndex := 571, attributes := #[] }, { accessFlags := 26, nameIndex := 578, descriptorIndex := 571, attributes := #[] }, { accessFlags := 26, nameIndex := 579, descriptorIndex := 571, attributes := #[] }, { accessFlags := 26, nameIndex := 288, descriptorIndex := 571, attributes := #[] }, { accessFlags := 26, nameIndex := 292, descriptorIndex := 571, attributes := #[] }, { accessFlags := 26, nameIndex := 124, descriptorIndex := 125, attributes := #[] }, { accessFlags := 26, nameIndex := 342, descriptorIndex := 343, attributes := #[] }, { accessFlags := 26, nameIndex := 580, descriptorIndex := 581, attributes := #[] }, { accessFlags := 26, nameIndex := 307, descriptorIndex := 308, attributes := #[] }, { accessFlags := 26, nameIndex := 486, descriptorIndex := 308, attributes := #[] }])
  fields := #[{ name := "UNSUPPORTED", type := (.object "java/lang/String"), accessFlags := 26, slot := 0, constantValue := 0 }, { name := "NOT_AN_INTEGER", type := (.object "java/lang/String"), accessFlags := 26, slot := 1, constantValue := 0 }, { name := "NOT_A_DECIMAL", type := (.object "java/lang/String"), accessFlags := 26, slot := 2, constantValue := 0 }, { name := "NOT_A_DOUBLE", type := (.object "java/lang/String"), accessFlags := 26, slot := 3, constantValue := 0 }, { name := "NOT_BASE64", type := (.object "java/lang/String"), accessFlags := 26, slot := 4, constantValue := 0 }, { name := "NAN", type := (.object "java/lang/String"), accessFlags := 26, slot := 5, constantValue := 0 }, { name := "INFINITY", type := (.object "java/lang/String"), accessFlags := 26, slot := 6, constantValue := 0 }, { name := "NEGATIVE_INFINITY", type := (.object "java/lang/String"), accessFlags := 26, slot := 7, constantValue := 0 }, { name := "TRUE", type := (.object "java/lang/String"), accessFlags := 26, slot := 8, constantValue := 0 }, { name := "FALSE", type := (.object "java/lang/String"), accessFlags := 26, slot := 9, constantValue := 0 }, { name := "NOT_OWN", type := (.object "java/lang/Object"), accessFlags := 26, slot := 10, constantValue := 0 }, { name := "UUID_HYPHENS", type := (.array .int), accessFlags := 26, slot := 11, constantValue := 0 }, { name := "UUID_LENGTH", type := .int, accessFlags := 26, slot := 12, constantValue := 0 }, { name := "TIME_READ", type := (.object "java/time/format/DateTimeFormatter"), accessFlags := 26, slot := 13, constantValue := 0 }, { name := "TIME_WRITTEN", type := (.object "java/time/format/DateTimeFormatter"), accessFlags := 26, slot := 14, constantValue := 0 }]
  methods := #[k10m0, k10m1]
  instanceTypes := #[]
  staticTypes := #[(.object "java/lang/String"), (.object "java/lang/String"), (.object "java/lang/String"), (.object "java/lang/String"), (.object "java/lang/String"), (.object "java/lang/String"), (.object "java/lang/String"), (.object "java/lang/String"), (.object "java/lang/String"), (.object "java/lang/String"), (.object "java/lang/Object"), (.array .int), .int, (.object "java/time/format/DateTimeFormatter"), (.object "java/time/format/DateTimeFormatter")]
  resolved := Array.replicate 625 none
  statics := none }

def pool11 : Array CpInfo := pool [(9, u "<init>"), (6, .class_ 18), (1, u "java/lang/Object"), (0, u "()V"), (1, .class_ 23), (1, u "jdk/internal/util/ArraysSupport"), (0, u "LOG2_ARRAY_LONG_INDEX_SCALE"), (0, u "I"), (2, u "U"), (0, u "Ljdk/internal/misc/Unsafe;"), (8, u "BIG_ENDIAN"), (0, u "Z"), (8, u "LOG2_BYTE_BIT_SIZE"), (4, u "LOG2_ARRAY_INT_INDEX_SCALE"), (54, u "JLA"), (0, u "Ljdk/internal/access/JavaLangAccess;"), (11, u "LOG2_ARRAY_BOOLEAN_INDEX_SCALE"), (9, u "LOG2_ARRAY_BYTE_INDEX_SCALE"), (5, u "LOG2_ARRAY_CHAR_INDEX_SCALE"), (5, u "LOG2_ARRAY_SHORT_INDEX_SCALE"), (18, u "LOG2_ARRAY_FLOAT_INDEX_SCALE"), (24, u "LOG2_ARRAY_DOUBLE_INDEX_SCALE"), (89, u "T_BOOLEAN"), (2, u "T_CHAR"), (1, u "T_FLOAT"), (1, u "T_DOUBLE"), (1, u "T_BYTE"), (1, u "T_SHORT"), (1, u "T_INT"), (1, u "T_LONG"), (1, u "SOFT_MAX_ARRAY_LENGTH")] 83

def k11m0 : Method := { name := "<init>", desc := "()V", sig := { parameters := [], returnType := none }, accessFlags := 2, code := none }
/-- jdk/internal/util/ArraysSupport -/
def k11 : Class := { plain "jdk/internal/util/ArraysSupport" (some 0) with
  accessFlags := 33
  interfaces := #[]
  cf := some (fileOf pool11 21 #[] #[{ accessFlags := 2, nameIndex := 9, descriptorIndex := 19, attributes := #[] }] 33 16 #[] #[{ accessFlags := 24, nameIndex := 28, descriptorIndex := 29, attributes := #[] }, { accessFlags := 26, nameIndex := 38, descriptorIndex := 39, attributes := #[] }, { accessFlags := 25, nameIndex := 121, descriptorIndex := 25, attributes := #[] }, { accessFlags := 25, nameIndex := 131, descriptorIndex := 25, attributes := #[] }, { accessFlags := 25, nameIndex := 137, descriptorIndex := 25, attributes := #[] }, { accessFlags := 25, nameIndex := 143, descriptorIndex := 25, attributes := #[] }, { accessFlags := 25, nameIndex := 53, descriptorIndex := 25, attributes := #[] }, { accessFlags := 25, nameIndex := 24, descriptorIndex := 25, attributes := #[] }, { accessFlags := 25, nameIndex := 162, descriptorIndex := 25, attributes := #[] }, { accessFlags := 25, nameIndex := 187, descriptorIndex := 25, attributes := #[] }, { accessFlags := 26, nameIndex := 48, descriptorIndex := 25, attributes := #[] }, { accessFlags := 25, nameIndex := 277, descriptorIndex := 25, attributes := #[] }, { accessFlags := 25, nameIndex := 280, descriptorIndex := 25, attributes := #[] }, { accessFlags := 25, nameIndex := 282, descriptorIndex := 25, attributes := #[] }, { accessFlags := 25, nameIndex := 284, descriptorIndex := 25, attributes := #[] }, { accessFlags := 25, nameIndex := 286, descriptorIndex := 25, attributes := #[] }, { accessFlags := 25, nameIndex := 288, descriptorIndex := 25, attributes := #[] }, { accessFlags := 25, nameIndex := 290, descriptorIndex := 25, attributes := #[] }, { accessFlags := 25, nameIndex := 292, descriptorIndex := 25, attributes := #[] }, { accessFlags := 26, nameIndex := 108, descriptorIndex := 109, attributes := #[] }, { accessFlags := 25, nameIndex := 294, descriptorIndex := 25, attributes := #[] }])
  fields := #[{ name := "U", type := (.object "jdk/internal/misc/Unsafe"), accessFlags := 24, slot := 0, constantValue := 0 }, { name := "BIG_ENDIAN", type := .boolean, accessFlags := 26, slot := 1, constantValue := 0 }, { name := "LOG2_ARRAY_BOOLEAN_INDEX_SCALE", type := .int, accessFlags := 25, slot := 2, constantValue := 0 }, { name := "LOG2_ARRAY_BYTE_INDEX_SCALE", type := .int, accessFlags := 25, slot := 3, constantValue := 0 }, { name := "LOG2_ARRAY_CHAR_INDEX_SCALE", type := .int, accessFlags := 25, slot := 4, constantValue := 0 }, { name := "LOG2_ARRAY_SHORT_INDEX_SCALE", type := .int, accessFlags := 25, slot := 5, constantValue := 0 }, { name := "LOG2_ARRAY_INT_INDEX_SCALE", type := .int, accessFlags := 25, slot := 6, constantValue := 0 }, { name := "LOG2_ARRAY_LONG_INDEX_SCALE", type := .int, accessFlags := 25, slot := 7, constantValue := 0 }, { name := "LOG2_ARRAY_FLOAT_INDEX_SCALE", type := .int, accessFlags := 25, slot := 8, constantValue := 0 }, { name := "LOG2_ARRAY_DOUBLE_INDEX_SCALE", type := .int, accessFlags := 25, slot := 9, constantValue := 0 }, { name := "LOG2_BYTE_BIT_SIZE", type := .int, accessFlags := 26, slot := 10, constantValue := 0 }, { name := "T_BOOLEAN", type := .int, accessFlags := 25, slot := 11, constantValue := 0 }, { name := "T_CHAR", type := .int, accessFlags := 25, slot := 12, constantValue := 0 }, { name := "T_FLOAT", type := .int, accessFlags := 25, slot := 13, constantValue := 0 }, { name := "T_DOUBLE", type := .int, accessFlags := 25, slot := 14, constantValue := 0 }, { name := "T_BYTE", type := .int, accessFlags := 25, slot := 15, constantValue := 0 }, { name := "T_SHORT", type := .int, accessFlags := 25, slot := 16, constantValue := 0 }, { name := "T_INT", type := .int, accessFlags := 25, slot := 17, constantValue := 0 }, { name := "T_LONG", type := .int, accessFlags := 25, slot := 18, constantValue := 0 }, { name := "JLA", type := (.object "jdk/internal/access/JavaLangAccess"), accessFlags := 26, slot := 19, constantValue := 0 }, { name := "SOFT_MAX_ARRAY_LENGTH", type := .int, accessFlags := 25, slot := 20, constantValue := 0 }]
  methods := #[k11m0]
  instanceTypes := #[]
  staticTypes := #[(.object "jdk/internal/misc/Unsafe"), .boolean, .int, .int, .int, .int, .int, .int, .int, .int, .int, .int, .int, .int, .int, .int, .int, .int, .int, (.object "jdk/internal/access/JavaLangAccess"), .int]
  resolved := Array.replicate 378 none
  statics := none }

def pool12 : Array CpInfo := pool [(1, u "java/lang/Cloneable"), (0, .class_ 1), (0, u "java/lang/Object"), (0, .class_ 3)] 3

/-- java/lang/Cloneable -/
def k12 : Class := { plain "java/lang/Cloneable" (some 0) with
  accessFlags := 1537
  interfaces := #[]
  cf := some (fileOf pool12 2 #[] #[] 1537 4 #[] #[])
  fields := #[]
  methods := #[]
  instanceTypes := #[]
  staticTypes := #[]
  resolved := Array.replicate 8 none
  statics := none }

/-- the primitive byte -/
def k13 : Class := { plain "byte" none with kind := .primitive 'B', accessFlags := 0x411 }
/-- [B -/
def k14 : Class := { plain "[B" (some 0) with kind := .array 13 .byte, interfaces := #[12, 2], accessFlags := 1041 }

/-- the primitive int -/
def k15 : Class := { plain "int" none with kind := .primitive 'I', accessFlags := 0x411 }
/-- [I -/
def k16 : Class := { plain "[I" (some 0) with kind := .array 15 .int, interfaces := #[12, 2], accessFlags := 1041 }

def heap : Heap := #[{ cls := 7, slots := #[.long 0, .int 1, .null, .int 0, .null, .int 0, .int 0], vm := .statics 7 },
  { cls := 9, slots := #[.null, .null, .null], vm := .statics 9 }]
def classes : Array Class := #[k0, k1, k2, k3, k4, k5, k6, k7, k8, k9, k10, k11, k12, k13, k14, k15, k16]
def interned : List (Array UInt16 × Addr) := []
def slotsUsed : Nat := 10
def theMethod : MethodId := ⟨1, 1⟩
def args0 : Array Value := #[.int 5, .int 6]
def aboutOver (below : List Frame) : State where
  vm := { classes := classes, interned := interned.toArray }
  heap := heap
  slotsUsed := slotsUsed
  threads := #[{ frames := .invoking theMethod args0 :: below }]
def below0 : List Frame := [.native { method := ⟨0, 0⟩, args := #[] }]
def about1 : State := aboutOver below0
def p0 : Program := .bare "" "" ""
def e0 : Env := launch0.env 0 0 0
theorem w_frames : about1.frames = Frame.invoking theMethod args0 :: below0 := rfl
set_option maxRecDepth 65536 in
theorem w_args : argsFit about1.vm theMethod args0 = true := by decide +kernel
set_option maxRecDepth 65536 in
theorem w_heap : heapFits about1 = true := by decide +kernel
set_option maxRecDepth 65536 in
theorem w_runnable : about1.curStatus? = some .runnable := by decide +kernel
set_option maxRecDepth 65536 in
theorem w_alone : about1.alone = true := by decide +kernel
set_option maxRecDepth 65536 in
theorem w_named : about1.methodNamed? x = some theMethod := by decide +kernel
set_option maxRecDepth 65536 in
theorem w_hears : about1.hears theMethod below0 = true := by decide +kernel
set_option maxRecDepth 65536 in
theorem w_ripe : about1.ripe theMethod args0 below0 = true := by decide +kernel
theorem w_running : about1.status = .running := rfl
set_option maxRecDepth 65536 in
theorem w_room : about1.hasRoom e0.platform room_1 = true :=
  launch0.hasRoom_least _ room_1 (by decide +kernel) (by decide +kernel) (by decide +kernel) (by decide +kernel) (by decide +kernel) (by decide +kernel)
theorem allAtoms_all (ts : List Jvm.Cond) (a : Array Jvm.Value) (st : Jvm.State) : (allAtoms ts).before a st = ts.all (fun c => c.before a st) := by
  induction ts with
  | nil => rfl
  | cons c t ih =>
    show (Jvm.Cond.and c (allAtoms t)).before a st = _
    rw [Jvm.Cond.before_and, ih, List.all_cons]
def words1 : List Jvm.Cond := Jvm.Cond.code x code maxLocals ret :: tables_1
/-- a 'code' word, met by the world's own term for the bytes: nothing is compared byte by byte -/
theorem code_word {y : MethodName} {bytes : ByteArray} {mx : Nat} {rt : Option FieldType} {a : Array Value} {s : State} {m : MethodId} {meth : Method} {c : Code} (h1 : s.methodNamed? y = some m) (h2 : s.vm.method? m = some meth) (h3 : meth.code = some c) (h4 : c.code = bytes)
    (h5 : (c.maxLocals == mx && c.exceptionTable.isEmpty && decide (c.maxStack ≤ mostOperands) && decide (meth.sig.returnType = rt) && !meth.locks && decide (parseMethodDescriptor y.desc = some meth.sig)) = true) : (Jvm.Cond.code y bytes mx rt).before a s = true := by
  simp only [Bool.and_eq_true, beq_iff_eq, Bool.not_eq_true', decide_eq_true_eq] at h5
  obtain ⟨⟨⟨⟨⟨g1, g2⟩, g3⟩, g4⟩, g5⟩, g6⟩ := h5
  simp [Cond.before, Cond.holds, Cond.value, h1, h2, h3, h4, g1, g2, g3, g4, g5, g6]
def isCode : Jvm.Cond → Bool
  | .code _ _ _ _ => true
  | _ => false
theorem all_split {L : List Jvm.Cond} {P : Jvm.Cond → Bool} (h1 : L.all (fun c => isCode c || P c) = true) (h2 : ∀ c ∈ L.filter isCode, P c = true) : L.all P = true := by
  refine List.all_eq_true.mpr fun c hc => ?_
  have h := List.all_eq_true.mp h1 c hc
  rcases Bool.eq_false_or_eq_true (isCode c) with hi | hi
  · exact h2 c (List.mem_filter.mpr ⟨hc, hi⟩)
  · simpa [hi] using h
set_option maxRecDepth 65536 in
theorem w_c0 : (Jvm.Cond.code x code maxLocals ret).before args0 about1 = true := code_word (m := ⟨1, 1⟩) (meth := k1m1) (c := k1c1) (by decide +kernel) rfl rfl rfl (by decide +kernel)
set_option maxRecDepth 65536 in
theorem w_c1 : (Jvm.Cond.code ({ cls := "java/lang/String", name := "charAt", desc := "(I)C" } : Jvm.MethodName) jdk_42_method_56_code (2 : Nat) (Option.some Jvm.ClassFile.FieldType.char)).before args0 about1 = true := code_word (m := ⟨7, 1⟩) (meth := k7m1) (c := k7c1) (by decide +kernel) rfl rfl rfl (by decide +kernel)
set_option maxRecDepth 65536 in
theorem w_c2 : (Jvm.Cond.code ({ cls := "java/lang/String", name := "isLatin1", desc := "()Z" } : Jvm.MethodName) jdk_42_method_154_code (1 : Nat) (Option.some Jvm.ClassFile.FieldType.boolean)).before args0 about1 = true := code_word (m := ⟨7, 2⟩) (meth := k7m2) (c := k7c2) (by decide +kernel) rfl rfl rfl (by decide +kernel)
set_option maxRecDepth 65536 in
theorem w_c3 : (Jvm.Cond.code ({ cls := "java/lang/StringLatin1", name := "charAt", desc := "([BI)C" } : Jvm.MethodName) jdk_43_method_2_code (2 : Nat) (Option.some Jvm.ClassFile.FieldType.char)).before args0 about1 = true := code_word (m := ⟨8, 1⟩) (meth := k8m1) (c := k8c1) (by decide +kernel) rfl rfl rfl (by decide +kernel)
set_option maxRecDepth 65536 in
theorem w_c4 : (Jvm.Cond.code ({ cls := "java/lang/String", name := "checkIndex", desc := "(II)V" } : Jvm.MethodName) jdk_42_method_155_code (2 : Nat) (Option.none : Option Jvm.ClassFile.FieldType)).before args0 about1 = true := code_word (m := ⟨7, 3⟩) (meth := k7m3) (c := k7c3) (by decide +kernel) rfl rfl rfl (by decide +kernel)
set_option maxRecDepth 65536 in
theorem w_c5 : (Jvm.Cond.code ({ cls := "jdk/internal/util/Preconditions", name := "checkIndex", desc := "(IILjava/util/function/BiFunction;)I" } : Jvm.MethodName) jdk_41_method_11_code (3 : Nat) (Option.some Jvm.ClassFile.FieldType.int)).before args0 about1 = true := code_word (m := ⟨9, 1⟩) (meth := k9m1) (c := k9c1) (by decide +kernel) rfl rfl rfl (by decide +kernel)
set_option maxRecDepth 65536 in
theorem w_c6 : (Jvm.Cond.code ({ cls := "com/example/tagwire/tagwire/Scalars", name := "isDecimalChar", desc := "(I)Z" } : Jvm.MethodName) prog_28_method_26_code (1 : Nat) (Option.some Jvm.ClassFile.FieldType.boolean)).before args0 about1 = true := code_word (m := ⟨10, 1⟩) (meth := k10m1) (c := k10c1) (by decide +kernel) rfl rfl rfl (by decide +kernel)
set_option maxRecDepth 65536 in
theorem w_c7 : (Jvm.Cond.code ({ cls := "com/example/tagwire/tagwire/ScalarsIsDecimalCharPinLaw", name := "expected", desc := "(I)Z" } : Jvm.MethodName) method_3_code (4 : Nat) (Option.some Jvm.ClassFile.FieldType.boolean)).before args0 about1 = true := code_word (m := ⟨1, 2⟩) (meth := k1m2) (c := k1c2) (by decide +kernel) rfl rfl rfl (by decide +kernel)
def codes1 : List Jvm.Cond := [Jvm.Cond.code x code maxLocals ret, Jvm.Cond.code ({ cls := "java/lang/String", name := "charAt", desc := "(I)C" } : Jvm.MethodName) jdk_42_method_56_code (2 : Nat) (Option.some Jvm.ClassFile.FieldType.char), Jvm.Cond.code ({ cls := "java/lang/String", name := "isLatin1", desc := "()Z" } : Jvm.MethodName) jdk_42_method_154_code (1 : Nat) (Option.some Jvm.ClassFile.FieldType.boolean), Jvm.Cond.code ({ cls := "java/lang/StringLatin1", name := "charAt", desc := "([BI)C" } : Jvm.MethodName) jdk_43_method_2_code (2 : Nat) (Option.some Jvm.ClassFile.FieldType.char), Jvm.Cond.code ({ cls := "java/lang/String", name := "checkIndex", desc := "(II)V" } : Jvm.MethodName) jdk_42_method_155_code (2 : Nat) (Option.none : Option Jvm.ClassFile.FieldType), Jvm.Cond.code ({ cls := "jdk/internal/util/Preconditions", name := "checkIndex", desc := "(IILjava/util/function/BiFunction;)I" } : Jvm.MethodName) jdk_41_method_11_code (3 : Nat) (Option.some Jvm.ClassFile.FieldType.int), Jvm.Cond.code ({ cls := "com/example/tagwire/tagwire/Scalars", name := "isDecimalChar", desc := "(I)Z" } : Jvm.MethodName) prog_28_method_26_code (1 : Nat) (Option.some Jvm.ClassFile.FieldType.boolean), Jvm.Cond.code ({ cls := "com/example/tagwire/tagwire/ScalarsIsDecimalCharPinLaw", name := "expected", desc := "(I)Z" } : Jvm.MethodName) method_3_code (4 : Nat) (Option.some Jvm.ClassFile.FieldType.boolean)]
set_option maxRecDepth 65536 in
theorem codes_eq : words1.filter isCode = codes1 := rfl
theorem w_codes : ∀ c ∈ words1.filter isCode, c.before args0 about1 = true := by
  rw [codes_eq]
  intro c hc
  simp only [codes1, List.mem_cons, List.not_mem_nil, or_false] at hc
  rcases hc with rfl | rfl | rfl | rfl | rfl | rfl | rfl | rfl
  · exact w_c0
  · exact w_c1
  · exact w_c2
  · exact w_c3
  · exact w_c4
  · exact w_c5
  · exact w_c6
  · exact w_c7
set_option maxRecDepth 65536 in
theorem w_t1 : (words1.take 24).all (fun c => isCode c || c.before args0 about1) = true := by decide +kernel
set_option maxRecDepth 65536 in
theorem w_t2 : (words1.drop 24).all (fun c => isCode c || c.before args0 about1) = true := by decide +kernel
theorem w_tables : (allAtoms (Jvm.Cond.code x code maxLocals ret :: tables_1)).before args0 about1 = true := by
  rw [allAtoms_all]
  show words1.all (fun c => c.before args0 about1) = true
  refine all_split ?_ w_codes
  rw [← List.take_append_drop 24 words1, List.all_append, w_t1, w_t2]
  rfl
set_option maxRecDepth 65536 in
theorem w_rest : rest_1_c.before args0 about1 = true := by decide +kernel
set_option maxRecDepth 65536 in
theorem w_case : (Jvm.Cond.and given_1 narrow_1).before args0 about1 = true := by decide +kernel
set_option maxRecDepth 65536 in
theorem w_consts : constsHeld consts_1 about1 := Jvm.Lit.constsHeldB_iff.mp (by decide +kernel)
theorem w_applies : (headSpec (Jvm.Cond.code x code maxLocals ret :: tables_1) room_1).applies x e0.platform about1 = true :=
  (Spec.applies_iff w_frames).mpr ⟨w_running, w_runnable, w_alone, w_named, w_hears, w_ripe, w_room, w_tables⟩
theorem atStart : AtStart classFile x code maxLocals ret World_1 tables_1 room_1 Calls_1 rest_1 Pre_1 launch0 p0 e0 about1 theMethod args0 below0 :=
  ⟨lists_1, trivial, launch0.admits_env _ _ _, launch0.least_env, fairChoices_fair.cas, fairChoices_fair.clock, w_frames, w_args, w_heap, w_applies, ⟨w_consts, trivial⟩, w_rest, w_case⟩
end start1
theorem witness_1 : WitnessClaimed_1 := ⟨start1.p0, start1.e0, start1.about1, start1.theMethod, start1.args0, start1.below0, start1.atStart⟩
end Jvm.Pilot.@@N@@
