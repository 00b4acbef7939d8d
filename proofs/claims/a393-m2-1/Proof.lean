import JvmDerived
import JvmDerived.Pilot.@@N@@Statement
import JvmDerived.Pilot.@@N@@Code
set_option linter.unusedVariables false
set_option linter.unusedSimpArgs false
set_option maxRecDepth 65536
namespace Jvm.Pilot.@@N@@
open Jvm Jvm.ClassFile Sem Op Lib Jvm.Free Jvm.Stand Jvm.LawKit Jvm.RoadKit Bundle Jvm.Pilot.@@N@@.Jvm.D
section OwnBase
/-- where a walk stands: the Stand, that nothing old was written, the heap -/
def Wd (p : Program) (l : Launch) (e : Env) (R : Room) (s : State) (m : MethodId) (args : Array Value) (below : List Frame) (meth : Method) (c : Code) (n0 : Nat) (T : State) (h : Heap) (cs ss : Nat) : Prop :=
  ∃ locs, Stand p l e R s m args below meth c T locs cs ss ∧ Fr n0 locs ∧ T.heap = h ∧ n0 ≤ s.heap.size
/-- from the frame g on the body comes to its end, and Q holds of what it returns and of the heap -/
def Go (p : Program) (e : Env) (below : List Frame) (s : State) (n0 : Nat) (Q : Option Value → Heap → Prop) (rc rs : Nat) (T : State) (g : JFrame) : Prop :=
  ∃ s₂ o, Steps p.tables e below (T.setTop g) s₂ ∧ s₂.status = .running ∧ Ended s₂ below o ∧ ∃ v L, o = .returned v ∧ (Q v s₂.heap ∧ Fr n0 L) ∧ FrameEnd s o s₂ L rc rs
/-- what a walk knows of the body that it walks -/
def Cx (p : Program) (s : State) (m : MethodId) (meth : Method) (c : Code) (Z : State) (own nm : String) (bytes : ByteArray) (maxL : Nat) (ret : Option FieldType) : Prop :=
  p.tables.exec = Jvm.exec ∧ Z.Warmed39 s.vm ∧ c.code = bytes ∧ c.maxLocals = maxL ∧ s.vm.findClass own = some m.cls ∧ meth.sig.returnType = ret ∧ meth.locks = false ∧ meth.name = nm
/-- a body's contract -/
def Mt (l : Launch) (Z : State) (y : MethodName) (bytes : ByteArray) (maxL : Nat) (ret : Option FieldType) (rm : Room) (n0 : Nat) (as' : Array Value) (h0 : Heap) (Q : Option Value → Heap → Prop) : Prop :=
  ∀ ws : List Jvm.Cond, MetFree l y (head1 (Jvm.Cond.code y bytes maxL ret :: ws) rm) (fun a U => a = as' ∧ Z.Warmed39 U.vm ∧ U.heap = h0) (fun _ _ _ _ _ => True) (fun _ U o U' => ∃ v L, o = .returned v ∧ (Q v U'.heap ∧ Fr n0 L) ∧ FrameEnd U o U' L rm.cells rm.slots)
variable {p : Program} {l : Launch} {e : Env} {R : Room} {s : State} {m : MethodId} {args : Array Value} {below : List Frame} {meth : Method} {c : Code} {Z : State} {own nm : String} {bytes : ByteArray} {maxL : Nat} {ret : Option FieldType} {T : State} {h : Heap} {cs ss n0 : Nat} {Q : Option Value → Heap → Prop} {rc rs : Nat} {pc pc' pf pt : Nat} {Ls Ls' : Array Slot} {st rest : List Value} {a0 : Array Value}
theorem Go.stp {T' : State} {g g' : JFrame} (q : ∀ target, Steps p.tables e below (T'.setTop g') target → Steps p.tables e below (T.setTop g) target) (G : Go p e below s n0 Q rc rs T' g') : Go p e below s n0 Q rc rs T g := by
  obtain ⟨s₂, o, h1, r⟩ := G
  exact ⟨s₂, o, q _ h1, r⟩
theorem Wd.mono {cs' ss' : Nat} (W : Wd p l e R s m args below meth c n0 T h cs ss) (h1 : cs ≤ cs') (h2 : ss ≤ ss') : Wd p l e R s m args below meth c n0 T h cs' ss' := by
  obtain ⟨locs, X, r⟩ := W
  exact ⟨locs, ⟨X.admits, X.cas, X.clock, X.frames, X.room, X.hears, X.method, X.code, X.here, X.tail, X.warmed, X.limits, X.bytes, X.same.mono h1 h2⟩, r⟩
theorem met_of {y : MethodName} {rm : Room} {as' : Array Value} {h0 : Heap} (hpl : plainFor y = true) (hent : ∀ m, entryFrame m as' maxL = mkF m 0 Ls []) (hn : n0 ≤ h0.size)
    (H : ∀ p e s m below meth c T, Cx p s m meth c Z y.cls y.name bytes maxL ret → Wd p l e rm s m as' below meth c n0 T h0 0 0 → Go p e below s n0 Q rm.cells rm.slots T (mkF m 0 Ls [])) :
    Mt l Z y bytes maxL ret rm n0 as' h0 Q := by
  intro ws
  refine MetFree.of_bodySF hpl hisR ?_
  intro p e s m args below meth c s₁ Bd hml0 hP hK
  obtain ⟨rfl, hZ, hh⟩ := hP
  have X0 := Stand.of_body Bd
  have e0 : s₁.heap = h0 := by rw [← hh, Bd.state]; rfl
  have G := H p e s m below meth c s₁ ⟨Bd.exec, hZ, Bd.bytes, hml0, findClass_of_methodNamed Bd.named, Bd.returns, Bd.notSynchronized, (name_of_methodNamed Bd.named Bd.method).1⟩ ⟨[], X0, Fr.nil n0, e0, by rw [hh]; exact hn⟩
  obtain ⟨s₂, o, h1, h2, h3, v, L, h4, h5, h6⟩ := G
  exact ⟨s₂, o, castTop (hent m) h1, h2, h3, v, L, h4, h5, h6⟩
/-! the single steps -/
theorem g_iload (K : Cx p s m meth c Z own nm bytes maxL ret) (W : Wd p l e R s m args below meth c n0 T h cs ss) {k : Nat} {v : Int32} (hd : decode bytes pc = .ok (.iload k, 2)) (hl : Ls[k]? = some (.val (.int v))) (hp : pc + 2 = pc') (G : Go p e below s n0 Q rc rs T (mkF m pc' Ls (.int v :: st))) : Go p e below s n0 Q rc rs T (mkF m pc Ls st) := by
  obtain ⟨_, X, -⟩ := W; subst hp
  exact Go.stp (g' := mkF m (pc + 2) Ls (.int v :: st)) (fun _ hr => XS.iload X.here K.1 rfl (hb K.2.2.1 hd) hl hr) G
theorem g_iloadN (K : Cx p s m meth c Z own nm bytes maxL ret) (W : Wd p l e R s m args below meth c n0 T h cs ss) {k : Fin 4} {v : Int32} (hd : decode bytes pc = .ok (.iload_n k, 1)) (hl : Ls[k.val]? = some (.val (.int v))) (hp : pc + 1 = pc') (G : Go p e below s n0 Q rc rs T (mkF m pc' Ls (.int v :: st))) : Go p e below s n0 Q rc rs T (mkF m pc Ls st) := by
  obtain ⟨_, X, -⟩ := W; subst hp
  exact Go.stp (g' := mkF m (pc + 1) Ls (.int v :: st)) (fun _ hr => XS.iloadN X.here K.1 rfl (hb K.2.2.1 hd) hl hr) G
theorem g_lload (K : Cx p s m meth c Z own nm bytes maxL ret) (W : Wd p l e R s m args below meth c n0 T h cs ss) {k : Nat} {v : Int64} (hd : decode bytes pc = .ok (.lload k, 2)) (hl : Ls[k]? = some (.val (.long v))) (hp : pc + 2 = pc') (G : Go p e below s n0 Q rc rs T (mkF m pc' Ls (.long v :: st))) : Go p e below s n0 Q rc rs T (mkF m pc Ls st) := by
  obtain ⟨_, X, -⟩ := W; subst hp
  exact Go.stp (g' := mkF m (pc + 2) Ls (.long v :: st)) (fun _ hr => XS.lload X.here K.1 rfl (hb K.2.2.1 hd) hl hr) G
theorem g_lloadN (K : Cx p s m meth c Z own nm bytes maxL ret) (W : Wd p l e R s m args below meth c n0 T h cs ss) {k : Fin 4} {v : Int64} (hd : decode bytes pc = .ok (.lload_n k, 1)) (hl : Ls[k.val]? = some (.val (.long v))) (hp : pc + 1 = pc') (G : Go p e below s n0 Q rc rs T (mkF m pc' Ls (.long v :: st))) : Go p e below s n0 Q rc rs T (mkF m pc Ls st) := by
  obtain ⟨_, X, -⟩ := W; subst hp
  exact Go.stp (g' := mkF m (pc + 1) Ls (.long v :: st)) (fun _ hr => XS.lloadN X.here K.1 rfl (hb K.2.2.1 hd) hl hr) G
theorem g_aload (K : Cx p s m meth c Z own nm bytes maxL ret) (W : Wd p l e R s m args below meth c n0 T h cs ss) {k : Nat} {v : Value} (hd : decode bytes pc = .ok (.aload k, 2)) (hl : Ls[k]? = some (.val v)) (hv : v.isRef = true) (hp : pc + 2 = pc') (G : Go p e below s n0 Q rc rs T (mkF m pc' Ls (v :: st))) : Go p e below s n0 Q rc rs T (mkF m pc Ls st) := by
  obtain ⟨_, X, -⟩ := W; subst hp
  exact Go.stp (g' := mkF m (pc + 2) Ls (v :: st)) (fun _ hr => XS.aload X.here K.1 rfl (hb K.2.2.1 hd) hl hv hr) G
theorem g_aloadN (K : Cx p s m meth c Z own nm bytes maxL ret) (W : Wd p l e R s m args below meth c n0 T h cs ss) {k : Fin 4} {v : Value} (hd : decode bytes pc = .ok (.aload_n k, 1)) (hl : Ls[k.val]? = some (.val v)) (hv : v.isRef = true) (hp : pc + 1 = pc') (G : Go p e below s n0 Q rc rs T (mkF m pc' Ls (v :: st))) : Go p e below s n0 Q rc rs T (mkF m pc Ls st) := by
  obtain ⟨_, X, -⟩ := W; subst hp
  exact Go.stp (g' := mkF m (pc + 1) Ls (v :: st)) (fun _ hr => XS.aloadN X.here K.1 rfl (hb K.2.2.1 hd) hl hv hr) G
theorem g_istore (K : Cx p s m meth c Z own nm bytes maxL ret) (W : Wd p l e R s m args below meth c n0 T h cs ss) {k : Nat} {x : Int32} (hd : decode bytes pc = .ok (.istore k, 2)) (hl : storeLocals Ls k (.int x) = some Ls') (hp : pc + 2 = pc') (G : Go p e below s n0 Q rc rs T (mkF m pc' Ls' st)) : Go p e below s n0 Q rc rs T (mkF m pc Ls (.int x :: st)) := by
  obtain ⟨_, X, -⟩ := W; subst hp
  exact Go.stp (g' := mkF m (pc + 2) Ls' st) (fun _ hr => XS.istore X.here K.1 rfl (hb K.2.2.1 hd) rfl hl hr) G
theorem g_istoreN (K : Cx p s m meth c Z own nm bytes maxL ret) (W : Wd p l e R s m args below meth c n0 T h cs ss) {k : Fin 4} {x : Int32} (hd : decode bytes pc = .ok (.istore_n k, 1)) (hl : storeLocals Ls k.val (.int x) = some Ls') (hp : pc + 1 = pc') (G : Go p e below s n0 Q rc rs T (mkF m pc' Ls' st)) : Go p e below s n0 Q rc rs T (mkF m pc Ls (.int x :: st)) := by
  obtain ⟨_, X, -⟩ := W; subst hp
  exact Go.stp (g' := mkF m (pc + 1) Ls' st) (fun _ hr => XS.istoreN X.here K.1 rfl (hb K.2.2.1 hd) rfl hl hr) G
theorem g_lstore (K : Cx p s m meth c Z own nm bytes maxL ret) (W : Wd p l e R s m args below meth c n0 T h cs ss) {k : Nat} {x : Int64} (hd : decode bytes pc = .ok (.lstore k, 2)) (hl : storeLocals Ls k (.long x) = some Ls') (hp : pc + 2 = pc') (G : Go p e below s n0 Q rc rs T (mkF m pc' Ls' st)) : Go p e below s n0 Q rc rs T (mkF m pc Ls (.long x :: st)) := by
  obtain ⟨_, X, -⟩ := W; subst hp
  exact Go.stp (g' := mkF m (pc + 2) Ls' st) (fun _ hr => XS.lstore X.here K.1 rfl (hb K.2.2.1 hd) rfl hl hr) G
theorem g_lstoreN (K : Cx p s m meth c Z own nm bytes maxL ret) (W : Wd p l e R s m args below meth c n0 T h cs ss) {k : Fin 4} {x : Int64} (hd : decode bytes pc = .ok (.lstore_n k, 1)) (hl : storeLocals Ls k.val (.long x) = some Ls') (hp : pc + 1 = pc') (G : Go p e below s n0 Q rc rs T (mkF m pc' Ls' st)) : Go p e below s n0 Q rc rs T (mkF m pc Ls (.long x :: st)) := by
  obtain ⟨_, X, -⟩ := W; subst hp
  exact Go.stp (g' := mkF m (pc + 1) Ls' st) (fun _ hr => XS.lstoreN X.here K.1 rfl (hb K.2.2.1 hd) rfl hl hr) G
theorem g_astore (K : Cx p s m meth c Z own nm bytes maxL ret) (W : Wd p l e R s m args below meth c n0 T h cs ss) {k : Nat} {x : Value} (hd : decode bytes pc = .ok (.astore k, 2)) (hv : x.isRef = true) (hl : storeLocals Ls k x = some Ls') (hp : pc + 2 = pc') (G : Go p e below s n0 Q rc rs T (mkF m pc' Ls' st)) : Go p e below s n0 Q rc rs T (mkF m pc Ls (x :: st)) := by
  obtain ⟨_, X, -⟩ := W; subst hp
  exact Go.stp (g' := mkF m (pc + 2) Ls' st) (fun _ hr => XS.astore X.here K.1 rfl (hb K.2.2.1 hd) rfl hv hl hr) G
theorem g_astoreN (K : Cx p s m meth c Z own nm bytes maxL ret) (W : Wd p l e R s m args below meth c n0 T h cs ss) {k : Fin 4} {x : Value} (hd : decode bytes pc = .ok (.astore_n k, 1)) (hv : x.isRef = true) (hl : storeLocals Ls k.val x = some Ls') (hp : pc + 1 = pc') (G : Go p e below s n0 Q rc rs T (mkF m pc' Ls' st)) : Go p e below s n0 Q rc rs T (mkF m pc Ls (x :: st)) := by
  obtain ⟨_, X, -⟩ := W; subst hp
  exact Go.stp (g' := mkF m (pc + 1) Ls' st) (fun _ hr => XS.astoreN X.here K.1 rfl (hb K.2.2.1 hd) rfl hv hl hr) G
theorem g_iconst (K : Cx p s m meth c Z own nm bytes maxL ret) (W : Wd p l e R s m args below meth c n0 T h cs ss) {i : Int} {v : Int32} (hd : decode bytes pc = .ok (.iconst i, 1)) (hv : Int32.ofInt i = v) (hp : pc + 1 = pc') (G : Go p e below s n0 Q rc rs T (mkF m pc' Ls (.int v :: st))) : Go p e below s n0 Q rc rs T (mkF m pc Ls st) := by
  obtain ⟨_, X, -⟩ := W; subst hp hv
  exact Go.stp (g' := mkF m (pc + 1) Ls (.int (Int32.ofInt i) :: st)) (fun _ hr => XS.iconst X.here K.1 rfl (hb K.2.2.1 hd) hr) G
theorem g_bipush (K : Cx p s m meth c Z own nm bytes maxL ret) (W : Wd p l e R s m args below meth c n0 T h cs ss) {i : Int} {v : Int32} (hd : decode bytes pc = .ok (.bipush i, 2)) (hv : (Int8.ofInt i).toInt32 = v) (hp : pc + 2 = pc') (G : Go p e below s n0 Q rc rs T (mkF m pc' Ls (.int v :: st))) : Go p e below s n0 Q rc rs T (mkF m pc Ls st) := by
  obtain ⟨_, X, -⟩ := W; subst hp hv
  exact Go.stp (g' := mkF m (pc + 2) Ls (.int ((Int8.ofInt i).toInt32) :: st)) (fun _ hr => XS.bipush X.here K.1 rfl (hb K.2.2.1 hd) hr) G
theorem g_sipush (K : Cx p s m meth c Z own nm bytes maxL ret) (W : Wd p l e R s m args below meth c n0 T h cs ss) {i : Int} {v : Int32} (hd : decode bytes pc = .ok (.sipush i, 3)) (hv : (Int16.ofInt i).toInt32 = v) (hp : pc + 3 = pc') (G : Go p e below s n0 Q rc rs T (mkF m pc' Ls (.int v :: st))) : Go p e below s n0 Q rc rs T (mkF m pc Ls st) := by
  obtain ⟨_, X, -⟩ := W; subst hp hv
  exact Go.stp (g' := mkF m (pc + 3) Ls (.int ((Int16.ofInt i).toInt32) :: st)) (fun _ hr => XS.sipush X.here K.1 rfl (hb K.2.2.1 hd) hr) G
theorem g_lconst (K : Cx p s m meth c Z own nm bytes maxL ret) (W : Wd p l e R s m args below meth c n0 T h cs ss) {k : Fin 2} {v : Int64} (hd : decode bytes pc = .ok (.lconst k, 1)) (hv : Int64.ofNat k = v) (hp : pc + 1 = pc') (G : Go p e below s n0 Q rc rs T (mkF m pc' Ls (.long v :: st))) : Go p e below s n0 Q rc rs T (mkF m pc Ls st) := by
  obtain ⟨_, X, -⟩ := W; subst hp hv
  exact Go.stp (g' := mkF m (pc + 1) Ls (.long (Int64.ofNat k) :: st)) (fun _ hr => XS.lconst X.here K.1 rfl (hb K.2.2.1 hd) hr) G
theorem g_null (K : Cx p s m meth c Z own nm bytes maxL ret) (W : Wd p l e R s m args below meth c n0 T h cs ss) (hd : decode bytes pc = .ok (.aconst_null, 1)) (hp : pc + 1 = pc') (G : Go p e below s n0 Q rc rs T (mkF m pc' Ls (.null :: st))) : Go p e below s n0 Q rc rs T (mkF m pc Ls st) := by
  obtain ⟨_, X, -⟩ := W; subst hp
  exact Go.stp (g' := mkF m (pc + 1) Ls (.null :: st)) (fun _ hr => XS.aconstNull X.here K.1 rfl (hb K.2.2.1 hd) hr) G
theorem g_ldc (K : Cx p s m meth c Z own nm bytes maxL ret) (W : Wd p l e R s m args below meth c n0 T h cs ss) {index : Nat} {v : Int32} (w : (Jvm.Cond.constant own index v).before a0 Z = true) (hd : decode bytes pc = .ok (.ldc index, 2)) (hp : pc + 2 = pc') (G : Go p e below s n0 Q rc rs T (mkF m pc' Ls (.int v :: st))) : Go p e below s n0 Q rc rs T (mkF m pc Ls st) := by
  obtain ⟨_, X, -⟩ := W; subst hp
  exact Go.stp (g' := mkF m (pc + 2) Ls (.int v :: st)) (X.ldcInt K.1 K.2.2.2.2.1 (mvT K.2.1 w) (g := mkF m pc Ls st) rfl (hb K.2.2.1 hd)) G
theorem g_ldc2 (K : Cx p s m meth c Z own nm bytes maxL ret) (W : Wd p l e R s m args below meth c n0 T h cs ss) {index : Nat} {v : Int64} (w : (Jvm.Cond.constantLong own index v).before a0 Z = true) (hd : decode bytes pc = .ok (.ldc2_w index, 3)) (hp : pc + 3 = pc') (G : Go p e below s n0 Q rc rs T (mkF m pc' Ls (.long v :: st))) : Go p e below s n0 Q rc rs T (mkF m pc Ls st) := by
  obtain ⟨_, X, -⟩ := W; subst hp
  exact Go.stp (g' := mkF m (pc + 3) Ls (.long v :: st)) (X.ldc2Long K.1 K.2.2.2.2.1 (mvT K.2.1 w) (g := mkF m pc Ls st) rfl (hb K.2.2.1 hd)) G
theorem g_iadd (K : Cx p s m meth c Z own nm bytes maxL ret) (W : Wd p l e R s m args below meth c n0 T h cs ss) {x y : Int32} (hd : decode bytes pc = .ok (.iadd, 1)) (hp : pc + 1 = pc') (G : Go p e below s n0 Q rc rs T (mkF m pc' Ls (.int (x + y) :: st))) : Go p e below s n0 Q rc rs T (mkF m pc Ls (.int y :: .int x :: st)) := by
  obtain ⟨_, X, -⟩ := W; subst hp
  exact Go.stp (g' := mkF m (pc + 1) Ls (.int (x + y) :: st)) (fun _ hr => XS.iadd X.here K.1 rfl (hb K.2.2.1 hd) rfl hr) G
theorem g_isub (K : Cx p s m meth c Z own nm bytes maxL ret) (W : Wd p l e R s m args below meth c n0 T h cs ss) {x y : Int32} (hd : decode bytes pc = .ok (.isub, 1)) (hp : pc + 1 = pc') (G : Go p e below s n0 Q rc rs T (mkF m pc' Ls (.int (x - y) :: st))) : Go p e below s n0 Q rc rs T (mkF m pc Ls (.int y :: .int x :: st)) := by
  obtain ⟨_, X, -⟩ := W; subst hp
  exact Go.stp (g' := mkF m (pc + 1) Ls (.int (x - y) :: st)) (fun _ hr => XS.isub X.here K.1 rfl (hb K.2.2.1 hd) rfl hr) G
theorem g_imul (K : Cx p s m meth c Z own nm bytes maxL ret) (W : Wd p l e R s m args below meth c n0 T h cs ss) {x y : Int32} (hd : decode bytes pc = .ok (.imul, 1)) (hp : pc + 1 = pc') (G : Go p e below s n0 Q rc rs T (mkF m pc' Ls (.int (x * y) :: st))) : Go p e below s n0 Q rc rs T (mkF m pc Ls (.int y :: .int x :: st)) := by
  obtain ⟨_, X, -⟩ := W; subst hp
  exact Go.stp (g' := mkF m (pc + 1) Ls (.int (x * y) :: st)) (fun _ hr => XS.imul X.here K.1 rfl (hb K.2.2.1 hd) rfl hr) G
theorem g_iand (K : Cx p s m meth c Z own nm bytes maxL ret) (W : Wd p l e R s m args below meth c n0 T h cs ss) {x y : Int32} (hd : decode bytes pc = .ok (.iand, 1)) (hp : pc + 1 = pc') (G : Go p e below s n0 Q rc rs T (mkF m pc' Ls (.int (x &&& y) :: st))) : Go p e below s n0 Q rc rs T (mkF m pc Ls (.int y :: .int x :: st)) := by
  obtain ⟨_, X, -⟩ := W; subst hp
  exact Go.stp (g' := mkF m (pc + 1) Ls (.int (x &&& y) :: st)) (fun _ hr => XS.iand X.here K.1 rfl (hb K.2.2.1 hd) rfl hr) G
theorem g_ior (K : Cx p s m meth c Z own nm bytes maxL ret) (W : Wd p l e R s m args below meth c n0 T h cs ss) {x y : Int32} (hd : decode bytes pc = .ok (.ior, 1)) (hp : pc + 1 = pc') (G : Go p e below s n0 Q rc rs T (mkF m pc' Ls (.int (x ||| y) :: st))) : Go p e below s n0 Q rc rs T (mkF m pc Ls (.int y :: .int x :: st)) := by
  obtain ⟨_, X, -⟩ := W; subst hp
  exact Go.stp (g' := mkF m (pc + 1) Ls (.int (x ||| y) :: st)) (fun _ hr => XS.ior X.here K.1 rfl (hb K.2.2.1 hd) rfl hr) G
theorem g_ixor (K : Cx p s m meth c Z own nm bytes maxL ret) (W : Wd p l e R s m args below meth c n0 T h cs ss) {x y : Int32} (hd : decode bytes pc = .ok (.ixor, 1)) (hp : pc + 1 = pc') (G : Go p e below s n0 Q rc rs T (mkF m pc' Ls (.int (x ^^^ y) :: st))) : Go p e below s n0 Q rc rs T (mkF m pc Ls (.int y :: .int x :: st)) := by
  obtain ⟨_, X, -⟩ := W; subst hp
  exact Go.stp (g' := mkF m (pc + 1) Ls (.int (x ^^^ y) :: st)) (fun _ hr => XS.ixor X.here K.1 rfl (hb K.2.2.1 hd) rfl hr) G
theorem g_ishl (K : Cx p s m meth c Z own nm bytes maxL ret) (W : Wd p l e R s m args below meth c n0 T h cs ss) {x y : Int32} (hd : decode bytes pc = .ok (.ishl, 1)) (hp : pc + 1 = pc') (G : Go p e below s n0 Q rc rs T (mkF m pc' Ls (.int (x <<< (y &&& 31)) :: st))) : Go p e below s n0 Q rc rs T (mkF m pc Ls (.int y :: .int x :: st)) := by
  obtain ⟨_, X, -⟩ := W; subst hp
  exact Go.stp (g' := mkF m (pc + 1) Ls (.int (x <<< (y &&& 31)) :: st)) (fun _ hr => XS.ishl X.here K.1 rfl (hb K.2.2.1 hd) rfl hr) G
theorem g_ishr (K : Cx p s m meth c Z own nm bytes maxL ret) (W : Wd p l e R s m args below meth c n0 T h cs ss) {x y : Int32} (hd : decode bytes pc = .ok (.ishr, 1)) (hp : pc + 1 = pc') (G : Go p e below s n0 Q rc rs T (mkF m pc' Ls (.int (x >>> (y &&& 31)) :: st))) : Go p e below s n0 Q rc rs T (mkF m pc Ls (.int y :: .int x :: st)) := by
  obtain ⟨_, X, -⟩ := W; subst hp
  exact Go.stp (g' := mkF m (pc + 1) Ls (.int (x >>> (y &&& 31)) :: st)) (fun _ hr => XS.ishr X.here K.1 rfl (hb K.2.2.1 hd) rfl hr) G
theorem g_iushr (K : Cx p s m meth c Z own nm bytes maxL ret) (W : Wd p l e R s m args below meth c n0 T h cs ss) {x y : Int32} (hd : decode bytes pc = .ok (.iushr, 1)) (hp : pc + 1 = pc') (G : Go p e below s n0 Q rc rs T (mkF m pc' Ls (.int ((x.toUInt32 >>> (y &&& 31).toUInt32).toInt32) :: st))) : Go p e below s n0 Q rc rs T (mkF m pc Ls (.int y :: .int x :: st)) := by
  obtain ⟨_, X, -⟩ := W; subst hp
  exact Go.stp (g' := mkF m (pc + 1) Ls (.int ((x.toUInt32 >>> (y &&& 31).toUInt32).toInt32) :: st)) (fun _ hr => XS.iushr X.here K.1 rfl (hb K.2.2.1 hd) rfl hr) G
theorem g_idiv (K : Cx p s m meth c Z own nm bytes maxL ret) (W : Wd p l e R s m args below meth c n0 T h cs ss) {x y : Int32} (hy : y ≠ 0) (hd : decode bytes pc = .ok (.idiv, 1)) (hp : pc + 1 = pc') (G : Go p e below s n0 Q rc rs T (mkF m pc' Ls (.int (x / y) :: st))) : Go p e below s n0 Q rc rs T (mkF m pc Ls (.int y :: .int x :: st)) := by
  obtain ⟨_, X, -⟩ := W; subst hp
  exact Go.stp (g' := mkF m (pc + 1) Ls (.int (x / y) :: st)) (fun _ hr => XS.idiv X.here K.1 rfl (hb K.2.2.1 hd) rfl hy hr) G
theorem g_irem (K : Cx p s m meth c Z own nm bytes maxL ret) (W : Wd p l e R s m args below meth c n0 T h cs ss) {x y : Int32} (hy : y ≠ 0) (hd : decode bytes pc = .ok (.irem, 1)) (hp : pc + 1 = pc') (G : Go p e below s n0 Q rc rs T (mkF m pc' Ls (.int (x % y) :: st))) : Go p e below s n0 Q rc rs T (mkF m pc Ls (.int y :: .int x :: st)) := by
  obtain ⟨_, X, -⟩ := W; subst hp
  exact Go.stp (g' := mkF m (pc + 1) Ls (.int (x % y) :: st)) (fun _ hr => iremM X K.1 rfl (hb K.2.2.1 hd) rfl hy hr) G
theorem g_ladd (K : Cx p s m meth c Z own nm bytes maxL ret) (W : Wd p l e R s m args below meth c n0 T h cs ss) {x y : Int64} (hd : decode bytes pc = .ok (.ladd, 1)) (hp : pc + 1 = pc') (G : Go p e below s n0 Q rc rs T (mkF m pc' Ls (.long (x + y) :: st))) : Go p e below s n0 Q rc rs T (mkF m pc Ls (.long y :: .long x :: st)) := by
  obtain ⟨_, X, -⟩ := W; subst hp
  exact Go.stp (g' := mkF m (pc + 1) Ls (.long (x + y) :: st)) (fun _ hr => XS.ladd X.here K.1 rfl (hb K.2.2.1 hd) rfl hr) G
theorem g_lsub (K : Cx p s m meth c Z own nm bytes maxL ret) (W : Wd p l e R s m args below meth c n0 T h cs ss) {x y : Int64} (hd : decode bytes pc = .ok (.lsub, 1)) (hp : pc + 1 = pc') (G : Go p e below s n0 Q rc rs T (mkF m pc' Ls (.long (x - y) :: st))) : Go p e below s n0 Q rc rs T (mkF m pc Ls (.long y :: .long x :: st)) := by
  obtain ⟨_, X, -⟩ := W; subst hp
  exact Go.stp (g' := mkF m (pc + 1) Ls (.long (x - y) :: st)) (fun _ hr => XS.lsub X.here K.1 rfl (hb K.2.2.1 hd) rfl hr) G
theorem g_lmul (K : Cx p s m meth c Z own nm bytes maxL ret) (W : Wd p l e R s m args below meth c n0 T h cs ss) {x y : Int64} (hd : decode bytes pc = .ok (.lmul, 1)) (hp : pc + 1 = pc') (G : Go p e below s n0 Q rc rs T (mkF m pc' Ls (.long (x * y) :: st))) : Go p e below s n0 Q rc rs T (mkF m pc Ls (.long y :: .long x :: st)) := by
  obtain ⟨_, X, -⟩ := W; subst hp
  exact Go.stp (g' := mkF m (pc + 1) Ls (.long (x * y) :: st)) (fun _ hr => XS.lmul X.here K.1 rfl (hb K.2.2.1 hd) rfl hr) G
theorem g_land (K : Cx p s m meth c Z own nm bytes maxL ret) (W : Wd p l e R s m args below meth c n0 T h cs ss) {x y : Int64} (hd : decode bytes pc = .ok (.land, 1)) (hp : pc + 1 = pc') (G : Go p e below s n0 Q rc rs T (mkF m pc' Ls (.long (x &&& y) :: st))) : Go p e below s n0 Q rc rs T (mkF m pc Ls (.long y :: .long x :: st)) := by
  obtain ⟨_, X, -⟩ := W; subst hp
  exact Go.stp (g' := mkF m (pc + 1) Ls (.long (x &&& y) :: st)) (fun _ hr => XS.land X.here K.1 rfl (hb K.2.2.1 hd) rfl hr) G
theorem g_lor (K : Cx p s m meth c Z own nm bytes maxL ret) (W : Wd p l e R s m args below meth c n0 T h cs ss) {x y : Int64} (hd : decode bytes pc = .ok (.lor, 1)) (hp : pc + 1 = pc') (G : Go p e below s n0 Q rc rs T (mkF m pc' Ls (.long (x ||| y) :: st))) : Go p e below s n0 Q rc rs T (mkF m pc Ls (.long y :: .long x :: st)) := by
  obtain ⟨_, X, -⟩ := W; subst hp
  exact Go.stp (g' := mkF m (pc + 1) Ls (.long (x ||| y) :: st)) (fun _ hr => XS.lor X.here K.1 rfl (hb K.2.2.1 hd) rfl hr) G
theorem g_lxor (K : Cx p s m meth c Z own nm bytes maxL ret) (W : Wd p l e R s m args below meth c n0 T h cs ss) {x y : Int64} (hd : decode bytes pc = .ok (.lxor, 1)) (hp : pc + 1 = pc') (G : Go p e below s n0 Q rc rs T (mkF m pc' Ls (.long (x ^^^ y) :: st))) : Go p e below s n0 Q rc rs T (mkF m pc Ls (.long y :: .long x :: st)) := by
  obtain ⟨_, X, -⟩ := W; subst hp
  exact Go.stp (g' := mkF m (pc + 1) Ls (.long (x ^^^ y) :: st)) (fun _ hr => XS.lxor X.here K.1 rfl (hb K.2.2.1 hd) rfl hr) G
theorem g_lshl (K : Cx p s m meth c Z own nm bytes maxL ret) (W : Wd p l e R s m args below meth c n0 T h cs ss) {x : Int64} {y : Int32} (hd : decode bytes pc = .ok (.lshl, 1)) (hp : pc + 1 = pc') (G : Go p e below s n0 Q rc rs T (mkF m pc' Ls (.long (x <<< (y &&& 0x3f).toInt64) :: st))) : Go p e below s n0 Q rc rs T (mkF m pc Ls (.int y :: .long x :: st)) := by
  obtain ⟨_, X, -⟩ := W; subst hp
  exact Go.stp (g' := mkF m (pc + 1) Ls (.long (x <<< (y &&& 0x3f).toInt64) :: st)) (fun _ hr => XS.lshl X.here K.1 rfl (hb K.2.2.1 hd) rfl hr) G
theorem g_lshr (K : Cx p s m meth c Z own nm bytes maxL ret) (W : Wd p l e R s m args below meth c n0 T h cs ss) {x : Int64} {y : Int32} (hd : decode bytes pc = .ok (.lshr, 1)) (hp : pc + 1 = pc') (G : Go p e below s n0 Q rc rs T (mkF m pc' Ls (.long (x >>> (y &&& 0x3f).toInt64) :: st))) : Go p e below s n0 Q rc rs T (mkF m pc Ls (.int y :: .long x :: st)) := by
  obtain ⟨_, X, -⟩ := W; subst hp
  exact Go.stp (g' := mkF m (pc + 1) Ls (.long (x >>> (y &&& 0x3f).toInt64) :: st)) (fun _ hr => XS.lshr X.here K.1 rfl (hb K.2.2.1 hd) rfl hr) G
theorem g_lushr (K : Cx p s m meth c Z own nm bytes maxL ret) (W : Wd p l e R s m args below meth c n0 T h cs ss) {x : Int64} {y : Int32} (hd : decode bytes pc = .ok (.lushr, 1)) (hp : pc + 1 = pc') (G : Go p e below s n0 Q rc rs T (mkF m pc' Ls (.long ((x.toUInt64 >>> (y &&& 0x3f).toInt64.toUInt64).toInt64) :: st))) : Go p e below s n0 Q rc rs T (mkF m pc Ls (.int y :: .long x :: st)) := by
  obtain ⟨_, X, -⟩ := W; subst hp
  exact Go.stp (g' := mkF m (pc + 1) Ls (.long ((x.toUInt64 >>> (y &&& 0x3f).toInt64.toUInt64).toInt64) :: st)) (fun _ hr => XS.lushr X.here K.1 rfl (hb K.2.2.1 hd) rfl hr) G
theorem g_ldiv (K : Cx p s m meth c Z own nm bytes maxL ret) (W : Wd p l e R s m args below meth c n0 T h cs ss) {x y : Int64} (hy : y ≠ 0) (hd : decode bytes pc = .ok (.ldiv, 1)) (hp : pc + 1 = pc') (G : Go p e below s n0 Q rc rs T (mkF m pc' Ls (.long (x / y) :: st))) : Go p e below s n0 Q rc rs T (mkF m pc Ls (.long y :: .long x :: st)) := by
  obtain ⟨_, X, -⟩ := W; subst hp
  exact Go.stp (g' := mkF m (pc + 1) Ls (.long (x / y) :: st)) (fun _ hr => XS.ldiv X.here K.1 rfl (hb K.2.2.1 hd) rfl hy hr) G
theorem g_lrem (K : Cx p s m meth c Z own nm bytes maxL ret) (W : Wd p l e R s m args below meth c n0 T h cs ss) {x y : Int64} (hy : y ≠ 0) (hd : decode bytes pc = .ok (.lrem, 1)) (hp : pc + 1 = pc') (G : Go p e below s n0 Q rc rs T (mkF m pc' Ls (.long (x - (x / y) * y) :: st))) : Go p e below s n0 Q rc rs T (mkF m pc Ls (.long y :: .long x :: st)) := by
  obtain ⟨_, X, -⟩ := W; subst hp
  exact Go.stp (g' := mkF m (pc + 1) Ls (.long (x - (x / y) * y) :: st)) (fun _ hr => XS.lrem X.here K.1 rfl (hb K.2.2.1 hd) rfl hy hr) G
theorem g_ineg (K : Cx p s m meth c Z own nm bytes maxL ret) (W : Wd p l e R s m args below meth c n0 T h cs ss) {x : Int32} (hd : decode bytes pc = .ok (.ineg, 1)) (hp : pc + 1 = pc') (G : Go p e below s n0 Q rc rs T (mkF m pc' Ls (.int (-x) :: st))) : Go p e below s n0 Q rc rs T (mkF m pc Ls (.int x :: st)) := by
  obtain ⟨_, X, -⟩ := W; subst hp
  exact Go.stp (g' := mkF m (pc + 1) Ls (.int (-x) :: st)) (fun _ hr => XS.ineg X.here K.1 rfl (hb K.2.2.1 hd) rfl hr) G
theorem g_i2b (K : Cx p s m meth c Z own nm bytes maxL ret) (W : Wd p l e R s m args below meth c n0 T h cs ss) {x : Int32} (hd : decode bytes pc = .ok (.i2b, 1)) (hp : pc + 1 = pc') (G : Go p e below s n0 Q rc rs T (mkF m pc' Ls (.int (x.toInt8.toInt32) :: st))) : Go p e below s n0 Q rc rs T (mkF m pc Ls (.int x :: st)) := by
  obtain ⟨_, X, -⟩ := W; subst hp
  exact Go.stp (g' := mkF m (pc + 1) Ls (.int (x.toInt8.toInt32) :: st)) (fun _ hr => XS.i2b X.here K.1 rfl (hb K.2.2.1 hd) rfl hr) G
theorem g_i2c (K : Cx p s m meth c Z own nm bytes maxL ret) (W : Wd p l e R s m args below meth c n0 T h cs ss) {x : Int32} (hd : decode bytes pc = .ok (.i2c, 1)) (hp : pc + 1 = pc') (G : Go p e below s n0 Q rc rs T (mkF m pc' Ls (.int (x.toUInt32.toUInt16.toUInt32.toInt32) :: st))) : Go p e below s n0 Q rc rs T (mkF m pc Ls (.int x :: st)) := by
  obtain ⟨_, X, -⟩ := W; subst hp
  exact Go.stp (g' := mkF m (pc + 1) Ls (.int (x.toUInt32.toUInt16.toUInt32.toInt32) :: st)) (fun _ hr => XS.i2c X.here K.1 rfl (hb K.2.2.1 hd) rfl hr) G
theorem g_i2s (K : Cx p s m meth c Z own nm bytes maxL ret) (W : Wd p l e R s m args below meth c n0 T h cs ss) {x : Int32} (hd : decode bytes pc = .ok (.i2s, 1)) (hp : pc + 1 = pc') (G : Go p e below s n0 Q rc rs T (mkF m pc' Ls (.int (x.toInt16.toInt32) :: st))) : Go p e below s n0 Q rc rs T (mkF m pc Ls (.int x :: st)) := by
  obtain ⟨_, X, -⟩ := W; subst hp
  exact Go.stp (g' := mkF m (pc + 1) Ls (.int (x.toInt16.toInt32) :: st)) (fun _ hr => XS.i2s X.here K.1 rfl (hb K.2.2.1 hd) rfl hr) G
theorem g_i2l (K : Cx p s m meth c Z own nm bytes maxL ret) (W : Wd p l e R s m args below meth c n0 T h cs ss) {x : Int32} (hd : decode bytes pc = .ok (.i2l, 1)) (hp : pc + 1 = pc') (G : Go p e below s n0 Q rc rs T (mkF m pc' Ls (.long (x.toInt64) :: st))) : Go p e below s n0 Q rc rs T (mkF m pc Ls (.int x :: st)) := by
  obtain ⟨_, X, -⟩ := W; subst hp
  exact Go.stp (g' := mkF m (pc + 1) Ls (.long (x.toInt64) :: st)) (fun _ hr => XS.i2l X.here K.1 rfl (hb K.2.2.1 hd) rfl hr) G
theorem g_l2i (K : Cx p s m meth c Z own nm bytes maxL ret) (W : Wd p l e R s m args below meth c n0 T h cs ss) {x : Int64} (hd : decode bytes pc = .ok (.l2i, 1)) (hp : pc + 1 = pc') (G : Go p e below s n0 Q rc rs T (mkF m pc' Ls (.int (x.toInt32) :: st))) : Go p e below s n0 Q rc rs T (mkF m pc Ls (.long x :: st)) := by
  obtain ⟨_, X, -⟩ := W; subst hp
  exact Go.stp (g' := mkF m (pc + 1) Ls (.int (x.toInt32) :: st)) (fun _ hr => XS.l2i X.here K.1 rfl (hb K.2.2.1 hd) rfl hr) G
theorem g_lneg (K : Cx p s m meth c Z own nm bytes maxL ret) (W : Wd p l e R s m args below meth c n0 T h cs ss) {x : Int64} (hd : decode bytes pc = .ok (.lneg, 1)) (hp : pc + 1 = pc') (G : Go p e below s n0 Q rc rs T (mkF m pc' Ls (.long (-x) :: st))) : Go p e below s n0 Q rc rs T (mkF m pc Ls (.long x :: st)) := by
  obtain ⟨_, X, -⟩ := W; subst hp
  exact Go.stp (g' := mkF m (pc + 1) Ls (.long (-x) :: st)) (fun _ hr => XS.lneg X.here K.1 rfl (hb K.2.2.1 hd) rfl hr) G
theorem g_iinc (K : Cx p s m meth c Z own nm bytes maxL ret) (W : Wd p l e R s m args below meth c n0 T h cs ss) {k : Nat} {cst : Int} {x : Int32} (hd : decode bytes pc = .ok (.iinc k cst, 3)) (hl : Ls[k]? = some (.val (.int x))) (hl' : storeLocals Ls k (.int (x + Int32.ofInt cst)) = some Ls') (hp : pc + 3 = pc') (G : Go p e below s n0 Q rc rs T (mkF m pc' Ls' st)) : Go p e below s n0 Q rc rs T (mkF m pc Ls st) := by
  obtain ⟨_, X, -⟩ := W; subst hp
  exact Go.stp (g' := mkF m (pc + 3) Ls' st) (fun _ hr => XS.iinc X.here K.1 rfl (hb K.2.2.1 hd) hl hl' hr) G
theorem g_dup (K : Cx p s m meth c Z own nm bytes maxL ret) (W : Wd p l e R s m args below meth c n0 T h cs ss) {x : Value} (hd : decode bytes pc = .ok (.dup, 1)) (hc : x.category = 1) (hp : pc + 1 = pc') (G : Go p e below s n0 Q rc rs T (mkF m pc' Ls (x :: x :: st))) : Go p e below s n0 Q rc rs T (mkF m pc Ls (x :: st)) := by
  obtain ⟨_, X, -⟩ := W; subst hp
  exact Go.stp (g' := mkF m (pc + 1) Ls (x :: x :: st)) (fun _ hr => XS.dup X.here K.1 rfl (hb K.2.2.1 hd) rfl hc hr) G
theorem g_pop (K : Cx p s m meth c Z own nm bytes maxL ret) (W : Wd p l e R s m args below meth c n0 T h cs ss) {x : Value} (hd : decode bytes pc = .ok (.pop, 1)) (hc : x.category = 1) (hp : pc + 1 = pc') (G : Go p e below s n0 Q rc rs T (mkF m pc' Ls st)) : Go p e below s n0 Q rc rs T (mkF m pc Ls (x :: st)) := by
  obtain ⟨_, X, -⟩ := W; subst hp
  exact Go.stp (g' := mkF m (pc + 1) Ls st) (fun _ hr => XS.pop X.here K.1 rfl (hb K.2.2.1 hd) rfl hc hr) G
theorem g_dup_x1 (K : Cx p s m meth c Z own nm bytes maxL ret) (W : Wd p l e R s m args below meth c n0 T h cs ss) {x y : Value} (hd : decode bytes pc = .ok (.dup_x1, 1)) (hc : x.category = 1) (hc2 : y.category = 1) (hp : pc + 1 = pc') (G : Go p e below s n0 Q rc rs T (mkF m pc' Ls (x :: y :: x :: st))) : Go p e below s n0 Q rc rs T (mkF m pc Ls (x :: y :: st)) := by
  obtain ⟨_, X, -⟩ := W; subst hp
  exact Go.stp (g' := mkF m (pc + 1) Ls (x :: y :: x :: st)) (fun _ hr => XS.dupX1 X.here K.1 rfl (hb K.2.2.1 hd) rfl hc hc2 hr) G
theorem g_dup2 (K : Cx p s m meth c Z own nm bytes maxL ret) (W : Wd p l e R s m args below meth c n0 T h cs ss) {x y : Value} (hd : decode bytes pc = .ok (.dup2, 1)) (hc : x.category = 1) (hc2 : y.category = 1) (hp : pc + 1 = pc') (G : Go p e below s n0 Q rc rs T (mkF m pc' Ls (x :: y :: x :: y :: st))) : Go p e below s n0 Q rc rs T (mkF m pc Ls (x :: y :: st)) := by
  obtain ⟨_, X, -⟩ := W; subst hp
  exact Go.stp (g' := mkF m (pc + 1) Ls (x :: y :: x :: y :: st)) (fun _ hr => XT.dup2 X.here K.1 rfl (hb K.2.2.1 hd) rfl hc hc2 hr) G
theorem g_dup2L (K : Cx p s m meth c Z own nm bytes maxL ret) (W : Wd p l e R s m args below meth c n0 T h cs ss) {x : Int64} (hd : decode bytes pc = .ok (.dup2, 1)) (hp : pc + 1 = pc') (G : Go p e below s n0 Q rc rs T (mkF m pc' Ls (.long x :: .long x :: st))) : Go p e below s n0 Q rc rs T (mkF m pc Ls (.long x :: st)) := by
  obtain ⟨_, X, -⟩ := W; subst hp
  exact Go.stp (g' := mkF m (pc + 1) Ls (.long x :: .long x :: st)) (fun _ hr => XT.dup2L X.here K.1 rfl (hb K.2.2.1 hd) rfl hr) G
theorem own_jmp {o : Int} (ht : (pc : Int) + o = (pt : Int)) : 0 ≤ (pc : Int) + o ∧ ((pc : Int) + o).toNat = pt := by omega
theorem g_goto (K : Cx p s m meth c Z own nm bytes maxL ret) (W : Wd p l e R s m args below meth c n0 T h cs ss) {o : Int} (hd : decode bytes pc = .ok (.goto o, 3)) (ht : (pc : Int) + o = (pt : Int)) (G : Go p e below s n0 Q rc rs T (mkF m pt Ls st)) : Go p e below s n0 Q rc rs T (mkF m pc Ls st) := by
  obtain ⟨_, X, -⟩ := W
  exact Go.stp (g' := mkF m pt Ls st) (fun _ hr => XS.goto X.here K.1 rfl (pc0 := pc) rfl (hb K.2.2.1 hd) (own_jmp ht).1 (own_jmp ht).2 hr) G
theorem g_icmp_eq (K : Cx p s m meth c Z own nm bytes maxL ret) (W : Wd p l e R s m args below meth c n0 T h cs ss) {x y : Int32} {o : Int} (hd : decode bytes pc = .ok (.if_icmp .eq o, 3)) (ht : (pc : Int) + o = (pt : Int)) (hp : pc + 3 = pf) (Gp : x = y → Go p e below s n0 Q rc rs T (mkF m pt Ls st)) (Gn : ¬ (x = y) → Go p e below s n0 Q rc rs T (mkF m pf Ls st)) : Go p e below s n0 Q rc rs T (mkF m pc Ls (.int y :: .int x :: st)) := by
  obtain ⟨_, X, -⟩ := W; subst hp
  by_cases q : x = y
  · exact Go.stp (g' := mkF m pt Ls st) (fun _ hr => XS.icmpYes X.here K.1 rfl (pc0 := pc) rfl (hb K.2.2.1 hd) rfl (Jvm.Free.XT.ii_eq_t q) (own_jmp ht).1 (own_jmp ht).2 hr) (Gp q)
  · exact Go.stp (g' := mkF m (pc + 3) Ls st) (fun _ hr => XS.icmpNo X.here K.1 rfl (hb K.2.2.1 hd) rfl (Jvm.Free.XT.ii_eq_f q) hr) (Gn q)
theorem g_if_eq (K : Cx p s m meth c Z own nm bytes maxL ret) (W : Wd p l e R s m args below meth c n0 T h cs ss) {x : Int32} {o : Int} (hd : decode bytes pc = .ok (.ifCond .eq o, 3)) (ht : (pc : Int) + o = (pt : Int)) (hp : pc + 3 = pf) (Gp : x = 0 → Go p e below s n0 Q rc rs T (mkF m pt Ls st)) (Gn : ¬ (x = 0) → Go p e below s n0 Q rc rs T (mkF m pf Ls st)) : Go p e below s n0 Q rc rs T (mkF m pc Ls (.int x :: st)) := by
  obtain ⟨_, X, -⟩ := W; subst hp
  by_cases q : x = 0
  · exact Go.stp (g' := mkF m pt Ls st) (fun _ hr => XS.ifYes X.here K.1 rfl (pc0 := pc) rfl (hb K.2.2.1 hd) rfl (Jvm.Free.XT.i0_eq_t q) (own_jmp ht).1 (own_jmp ht).2 hr) (Gp q)
  · exact Go.stp (g' := mkF m (pc + 3) Ls st) (fun _ hr => XS.ifNo X.here K.1 rfl (hb K.2.2.1 hd) rfl (Jvm.Free.XT.i0_eq_f q) hr) (Gn q)
theorem g_lcmp_eq (K : Cx p s m meth c Z own nm bytes maxL ret) (W : Wd p l e R s m args below meth c n0 T h cs ss) {x y : Int64} {o : Int} {pc1 : Nat} (hd0 : decode bytes pc = .ok (.lcmp, 1)) (hp0 : pc + 1 = pc1) (hd : decode bytes pc1 = .ok (.ifCond .eq o, 3)) (ht : (pc1 : Int) + o = (pt : Int)) (hp : pc1 + 3 = pf) (Gp : x = y → Go p e below s n0 Q rc rs T (mkF m pt Ls st)) (Gn : ¬ (x = y) → Go p e below s n0 Q rc rs T (mkF m pf Ls st)) : Go p e below s n0 Q rc rs T (mkF m pc Ls (.long y :: .long x :: st)) := by
  obtain ⟨_, X, -⟩ := W; subst hp hp0
  refine Go.stp (g' := mkF m (pc + 1) Ls (.int (Jvm.Free.XT.cmpL x y) :: st)) (fun _ hr => XS.lcmp X.here K.1 rfl (hb K.2.2.1 hd0) rfl hr) ?_
  by_cases q : x = y
  · exact Go.stp (g' := mkF m pt Ls st) (fun _ hr => XS.ifYes X.here K.1 rfl (pc0 := pc + 1) rfl (hb K.2.2.1 hd) rfl (Jvm.Free.XT.ll_eq_t q) (own_jmp ht).1 (own_jmp ht).2 hr) (Gp q)
  · exact Go.stp (g' := mkF m (pc + 1 + 3) Ls st) (fun _ hr => XS.ifNo X.here K.1 rfl (hb K.2.2.1 hd) rfl (Jvm.Free.XT.ll_eq_f q) hr) (Gn q)
theorem g_icmp_ne (K : Cx p s m meth c Z own nm bytes maxL ret) (W : Wd p l e R s m args below meth c n0 T h cs ss) {x y : Int32} {o : Int} (hd : decode bytes pc = .ok (.if_icmp .ne o, 3)) (ht : (pc : Int) + o = (pt : Int)) (hp : pc + 3 = pf) (Gp : x = y → Go p e below s n0 Q rc rs T (mkF m pf Ls st)) (Gn : ¬ (x = y) → Go p e below s n0 Q rc rs T (mkF m pt Ls st)) : Go p e below s n0 Q rc rs T (mkF m pc Ls (.int y :: .int x :: st)) := by
  obtain ⟨_, X, -⟩ := W; subst hp
  by_cases q : x = y
  · exact Go.stp (g' := mkF m (pc + 3) Ls st) (fun _ hr => XS.icmpNo X.here K.1 rfl (hb K.2.2.1 hd) rfl (Jvm.Free.XT.ii_ne_f q) hr) (Gp q)
  · exact Go.stp (g' := mkF m pt Ls st) (fun _ hr => XS.icmpYes X.here K.1 rfl (pc0 := pc) rfl (hb K.2.2.1 hd) rfl (Jvm.Free.XT.ii_ne_t q) (own_jmp ht).1 (own_jmp ht).2 hr) (Gn q)
theorem g_if_ne (K : Cx p s m meth c Z own nm bytes maxL ret) (W : Wd p l e R s m args below meth c n0 T h cs ss) {x : Int32} {o : Int} (hd : decode bytes pc = .ok (.ifCond .ne o, 3)) (ht : (pc : Int) + o = (pt : Int)) (hp : pc + 3 = pf) (Gp : x = 0 → Go p e below s n0 Q rc rs T (mkF m pf Ls st)) (Gn : ¬ (x = 0) → Go p e below s n0 Q rc rs T (mkF m pt Ls st)) : Go p e below s n0 Q rc rs T (mkF m pc Ls (.int x :: st)) := by
  obtain ⟨_, X, -⟩ := W; subst hp
  by_cases q : x = 0
  · exact Go.stp (g' := mkF m (pc + 3) Ls st) (fun _ hr => XS.ifNo X.here K.1 rfl (hb K.2.2.1 hd) rfl (Jvm.Free.XT.i0_ne_f q) hr) (Gp q)
  · exact Go.stp (g' := mkF m pt Ls st) (fun _ hr => XS.ifYes X.here K.1 rfl (pc0 := pc) rfl (hb K.2.2.1 hd) rfl (Jvm.Free.XT.i0_ne_t q) (own_jmp ht).1 (own_jmp ht).2 hr) (Gn q)
theorem g_lcmp_ne (K : Cx p s m meth c Z own nm bytes maxL ret) (W : Wd p l e R s m args below meth c n0 T h cs ss) {x y : Int64} {o : Int} {pc1 : Nat} (hd0 : decode bytes pc = .ok (.lcmp, 1)) (hp0 : pc + 1 = pc1) (hd : decode bytes pc1 = .ok (.ifCond .ne o, 3)) (ht : (pc1 : Int) + o = (pt : Int)) (hp : pc1 + 3 = pf) (Gp : x = y → Go p e below s n0 Q rc rs T (mkF m pf Ls st)) (Gn : ¬ (x = y) → Go p e below s n0 Q rc rs T (mkF m pt Ls st)) : Go p e below s n0 Q rc rs T (mkF m pc Ls (.long y :: .long x :: st)) := by
  obtain ⟨_, X, -⟩ := W; subst hp hp0
  refine Go.stp (g' := mkF m (pc + 1) Ls (.int (Jvm.Free.XT.cmpL x y) :: st)) (fun _ hr => XS.lcmp X.here K.1 rfl (hb K.2.2.1 hd0) rfl hr) ?_
  by_cases q : x = y
  · exact Go.stp (g' := mkF m (pc + 1 + 3) Ls st) (fun _ hr => XS.ifNo X.here K.1 rfl (hb K.2.2.1 hd) rfl (Jvm.Free.XT.ll_ne_f q) hr) (Gp q)
  · exact Go.stp (g' := mkF m pt Ls st) (fun _ hr => XS.ifYes X.here K.1 rfl (pc0 := pc + 1) rfl (hb K.2.2.1 hd) rfl (Jvm.Free.XT.ll_ne_t q) (own_jmp ht).1 (own_jmp ht).2 hr) (Gn q)
theorem g_icmp_lt (K : Cx p s m meth c Z own nm bytes maxL ret) (W : Wd p l e R s m args below meth c n0 T h cs ss) {x y : Int32} {o : Int} (hd : decode bytes pc = .ok (.if_icmp .lt o, 3)) (ht : (pc : Int) + o = (pt : Int)) (hp : pc + 3 = pf) (Gp : x < y → Go p e below s n0 Q rc rs T (mkF m pt Ls st)) (Gn : ¬ (x < y) → Go p e below s n0 Q rc rs T (mkF m pf Ls st)) : Go p e below s n0 Q rc rs T (mkF m pc Ls (.int y :: .int x :: st)) := by
  obtain ⟨_, X, -⟩ := W; subst hp
  by_cases q : x < y
  · exact Go.stp (g' := mkF m pt Ls st) (fun _ hr => XS.icmpYes X.here K.1 rfl (pc0 := pc) rfl (hb K.2.2.1 hd) rfl (Jvm.Free.XT.ii_lt_t q) (own_jmp ht).1 (own_jmp ht).2 hr) (Gp q)
  · exact Go.stp (g' := mkF m (pc + 3) Ls st) (fun _ hr => XS.icmpNo X.here K.1 rfl (hb K.2.2.1 hd) rfl (Jvm.Free.XT.ii_lt_f q) hr) (Gn q)
theorem g_if_lt (K : Cx p s m meth c Z own nm bytes maxL ret) (W : Wd p l e R s m args below meth c n0 T h cs ss) {x : Int32} {o : Int} (hd : decode bytes pc = .ok (.ifCond .lt o, 3)) (ht : (pc : Int) + o = (pt : Int)) (hp : pc + 3 = pf) (Gp : x < 0 → Go p e below s n0 Q rc rs T (mkF m pt Ls st)) (Gn : ¬ (x < 0) → Go p e below s n0 Q rc rs T (mkF m pf Ls st)) : Go p e below s n0 Q rc rs T (mkF m pc Ls (.int x :: st)) := by
  obtain ⟨_, X, -⟩ := W; subst hp
  by_cases q : x < 0
  · exact Go.stp (g' := mkF m pt Ls st) (fun _ hr => XS.ifYes X.here K.1 rfl (pc0 := pc) rfl (hb K.2.2.1 hd) rfl (Jvm.Free.XT.i0_lt_t q) (own_jmp ht).1 (own_jmp ht).2 hr) (Gp q)
  · exact Go.stp (g' := mkF m (pc + 3) Ls st) (fun _ hr => XS.ifNo X.here K.1 rfl (hb K.2.2.1 hd) rfl (Jvm.Free.XT.i0_lt_f q) hr) (Gn q)
theorem g_lcmp_lt (K : Cx p s m meth c Z own nm bytes maxL ret) (W : Wd p l e R s m args below meth c n0 T h cs ss) {x y : Int64} {o : Int} {pc1 : Nat} (hd0 : decode bytes pc = .ok (.lcmp, 1)) (hp0 : pc + 1 = pc1) (hd : decode bytes pc1 = .ok (.ifCond .lt o, 3)) (ht : (pc1 : Int) + o = (pt : Int)) (hp : pc1 + 3 = pf) (Gp : x < y → Go p e below s n0 Q rc rs T (mkF m pt Ls st)) (Gn : ¬ (x < y) → Go p e below s n0 Q rc rs T (mkF m pf Ls st)) : Go p e below s n0 Q rc rs T (mkF m pc Ls (.long y :: .long x :: st)) := by
  obtain ⟨_, X, -⟩ := W; subst hp hp0
  refine Go.stp (g' := mkF m (pc + 1) Ls (.int (Jvm.Free.XT.cmpL x y) :: st)) (fun _ hr => XS.lcmp X.here K.1 rfl (hb K.2.2.1 hd0) rfl hr) ?_
  by_cases q : x < y
  · exact Go.stp (g' := mkF m pt Ls st) (fun _ hr => XS.ifYes X.here K.1 rfl (pc0 := pc + 1) rfl (hb K.2.2.1 hd) rfl (Jvm.Free.XT.ll_lt_t q) (own_jmp ht).1 (own_jmp ht).2 hr) (Gp q)
  · exact Go.stp (g' := mkF m (pc + 1 + 3) Ls st) (fun _ hr => XS.ifNo X.here K.1 rfl (hb K.2.2.1 hd) rfl (Jvm.Free.XT.ll_lt_f q) hr) (Gn q)
theorem g_icmp_ge (K : Cx p s m meth c Z own nm bytes maxL ret) (W : Wd p l e R s m args below meth c n0 T h cs ss) {x y : Int32} {o : Int} (hd : decode bytes pc = .ok (.if_icmp .ge o, 3)) (ht : (pc : Int) + o = (pt : Int)) (hp : pc + 3 = pf) (Gp : x < y → Go p e below s n0 Q rc rs T (mkF m pf Ls st)) (Gn : ¬ (x < y) → Go p e below s n0 Q rc rs T (mkF m pt Ls st)) : Go p e below s n0 Q rc rs T (mkF m pc Ls (.int y :: .int x :: st)) := by
  obtain ⟨_, X, -⟩ := W; subst hp
  by_cases q : x < y
  · exact Go.stp (g' := mkF m (pc + 3) Ls st) (fun _ hr => XS.icmpNo X.here K.1 rfl (hb K.2.2.1 hd) rfl (Jvm.Free.XT.ii_ge_f q) hr) (Gp q)
  · exact Go.stp (g' := mkF m pt Ls st) (fun _ hr => XS.icmpYes X.here K.1 rfl (pc0 := pc) rfl (hb K.2.2.1 hd) rfl (Jvm.Free.XT.ii_ge_t q) (own_jmp ht).1 (own_jmp ht).2 hr) (Gn q)
theorem g_if_ge (K : Cx p s m meth c Z own nm bytes maxL ret) (W : Wd p l e R s m args below meth c n0 T h cs ss) {x : Int32} {o : Int} (hd : decode bytes pc = .ok (.ifCond .ge o, 3)) (ht : (pc : Int) + o = (pt : Int)) (hp : pc + 3 = pf) (Gp : x < 0 → Go p e below s n0 Q rc rs T (mkF m pf Ls st)) (Gn : ¬ (x < 0) → Go p e below s n0 Q rc rs T (mkF m pt Ls st)) : Go p e below s n0 Q rc rs T (mkF m pc Ls (.int x :: st)) := by
  obtain ⟨_, X, -⟩ := W; subst hp
  by_cases q : x < 0
  · exact Go.stp (g' := mkF m (pc + 3) Ls st) (fun _ hr => XS.ifNo X.here K.1 rfl (hb K.2.2.1 hd) rfl (Jvm.Free.XT.i0_ge_f q) hr) (Gp q)
  · exact Go.stp (g' := mkF m pt Ls st) (fun _ hr => XS.ifYes X.here K.1 rfl (pc0 := pc) rfl (hb K.2.2.1 hd) rfl (Jvm.Free.XT.i0_ge_t q) (own_jmp ht).1 (own_jmp ht).2 hr) (Gn q)
theorem g_lcmp_ge (K : Cx p s m meth c Z own nm bytes maxL ret) (W : Wd p l e R s m args below meth c n0 T h cs ss) {x y : Int64} {o : Int} {pc1 : Nat} (hd0 : decode bytes pc = .ok (.lcmp, 1)) (hp0 : pc + 1 = pc1) (hd : decode bytes pc1 = .ok (.ifCond .ge o, 3)) (ht : (pc1 : Int) + o = (pt : Int)) (hp : pc1 + 3 = pf) (Gp : x < y → Go p e below s n0 Q rc rs T (mkF m pf Ls st)) (Gn : ¬ (x < y) → Go p e below s n0 Q rc rs T (mkF m pt Ls st)) : Go p e below s n0 Q rc rs T (mkF m pc Ls (.long y :: .long x :: st)) := by
  obtain ⟨_, X, -⟩ := W; subst hp hp0
  refine Go.stp (g' := mkF m (pc + 1) Ls (.int (Jvm.Free.XT.cmpL x y) :: st)) (fun _ hr => XS.lcmp X.here K.1 rfl (hb K.2.2.1 hd0) rfl hr) ?_
  by_cases q : x < y
  · exact Go.stp (g' := mkF m (pc + 1 + 3) Ls st) (fun _ hr => XS.ifNo X.here K.1 rfl (hb K.2.2.1 hd) rfl (Jvm.Free.XT.ll_ge_f q) hr) (Gp q)
  · exact Go.stp (g' := mkF m pt Ls st) (fun _ hr => XS.ifYes X.here K.1 rfl (pc0 := pc + 1) rfl (hb K.2.2.1 hd) rfl (Jvm.Free.XT.ll_ge_t q) (own_jmp ht).1 (own_jmp ht).2 hr) (Gn q)
theorem g_icmp_gt (K : Cx p s m meth c Z own nm bytes maxL ret) (W : Wd p l e R s m args below meth c n0 T h cs ss) {x y : Int32} {o : Int} (hd : decode bytes pc = .ok (.if_icmp .gt o, 3)) (ht : (pc : Int) + o = (pt : Int)) (hp : pc + 3 = pf) (Gp : y < x → Go p e below s n0 Q rc rs T (mkF m pt Ls st)) (Gn : ¬ (y < x) → Go p e below s n0 Q rc rs T (mkF m pf Ls st)) : Go p e below s n0 Q rc rs T (mkF m pc Ls (.int y :: .int x :: st)) := by
  obtain ⟨_, X, -⟩ := W; subst hp
  by_cases q : y < x
  · exact Go.stp (g' := mkF m pt Ls st) (fun _ hr => XS.icmpYes X.here K.1 rfl (pc0 := pc) rfl (hb K.2.2.1 hd) rfl (Jvm.Free.XT.ii_gt_t q) (own_jmp ht).1 (own_jmp ht).2 hr) (Gp q)
  · exact Go.stp (g' := mkF m (pc + 3) Ls st) (fun _ hr => XS.icmpNo X.here K.1 rfl (hb K.2.2.1 hd) rfl (Jvm.Free.XT.ii_gt_f q) hr) (Gn q)
theorem g_if_gt (K : Cx p s m meth c Z own nm bytes maxL ret) (W : Wd p l e R s m args below meth c n0 T h cs ss) {x : Int32} {o : Int} (hd : decode bytes pc = .ok (.ifCond .gt o, 3)) (ht : (pc : Int) + o = (pt : Int)) (hp : pc + 3 = pf) (Gp : 0 < x → Go p e below s n0 Q rc rs T (mkF m pt Ls st)) (Gn : ¬ (0 < x) → Go p e below s n0 Q rc rs T (mkF m pf Ls st)) : Go p e below s n0 Q rc rs T (mkF m pc Ls (.int x :: st)) := by
  obtain ⟨_, X, -⟩ := W; subst hp
  by_cases q : 0 < x
  · exact Go.stp (g' := mkF m pt Ls st) (fun _ hr => XS.ifYes X.here K.1 rfl (pc0 := pc) rfl (hb K.2.2.1 hd) rfl (Jvm.Free.XT.i0_gt_t q) (own_jmp ht).1 (own_jmp ht).2 hr) (Gp q)
  · exact Go.stp (g' := mkF m (pc + 3) Ls st) (fun _ hr => XS.ifNo X.here K.1 rfl (hb K.2.2.1 hd) rfl (Jvm.Free.XT.i0_gt_f q) hr) (Gn q)
theorem g_lcmp_gt (K : Cx p s m meth c Z own nm bytes maxL ret) (W : Wd p l e R s m args below meth c n0 T h cs ss) {x y : Int64} {o : Int} {pc1 : Nat} (hd0 : decode bytes pc = .ok (.lcmp, 1)) (hp0 : pc + 1 = pc1) (hd : decode bytes pc1 = .ok (.ifCond .gt o, 3)) (ht : (pc1 : Int) + o = (pt : Int)) (hp : pc1 + 3 = pf) (Gp : y < x → Go p e below s n0 Q rc rs T (mkF m pt Ls st)) (Gn : ¬ (y < x) → Go p e below s n0 Q rc rs T (mkF m pf Ls st)) : Go p e below s n0 Q rc rs T (mkF m pc Ls (.long y :: .long x :: st)) := by
  obtain ⟨_, X, -⟩ := W; subst hp hp0
  refine Go.stp (g' := mkF m (pc + 1) Ls (.int (Jvm.Free.XT.cmpL x y) :: st)) (fun _ hr => XS.lcmp X.here K.1 rfl (hb K.2.2.1 hd0) rfl hr) ?_
  by_cases q : y < x
  · exact Go.stp (g' := mkF m pt Ls st) (fun _ hr => XS.ifYes X.here K.1 rfl (pc0 := pc + 1) rfl (hb K.2.2.1 hd) rfl (Jvm.Free.XT.ll_gt_t q) (own_jmp ht).1 (own_jmp ht).2 hr) (Gp q)
  · exact Go.stp (g' := mkF m (pc + 1 + 3) Ls st) (fun _ hr => XS.ifNo X.here K.1 rfl (hb K.2.2.1 hd) rfl (Jvm.Free.XT.ll_gt_f q) hr) (Gn q)
theorem g_icmp_le (K : Cx p s m meth c Z own nm bytes maxL ret) (W : Wd p l e R s m args below meth c n0 T h cs ss) {x y : Int32} {o : Int} (hd : decode bytes pc = .ok (.if_icmp .le o, 3)) (ht : (pc : Int) + o = (pt : Int)) (hp : pc + 3 = pf) (Gp : y < x → Go p e below s n0 Q rc rs T (mkF m pf Ls st)) (Gn : ¬ (y < x) → Go p e below s n0 Q rc rs T (mkF m pt Ls st)) : Go p e below s n0 Q rc rs T (mkF m pc Ls (.int y :: .int x :: st)) := by
  obtain ⟨_, X, -⟩ := W; subst hp
  by_cases q : y < x
  · exact Go.stp (g' := mkF m (pc + 3) Ls st) (fun _ hr => XS.icmpNo X.here K.1 rfl (hb K.2.2.1 hd) rfl (Jvm.Free.XT.ii_le_f q) hr) (Gp q)
  · exact Go.stp (g' := mkF m pt Ls st) (fun _ hr => XS.icmpYes X.here K.1 rfl (pc0 := pc) rfl (hb K.2.2.1 hd) rfl (Jvm.Free.XT.ii_le_t q) (own_jmp ht).1 (own_jmp ht).2 hr) (Gn q)
theorem g_if_le (K : Cx p s m meth c Z own nm bytes maxL ret) (W : Wd p l e R s m args below meth c n0 T h cs ss) {x : Int32} {o : Int} (hd : decode bytes pc = .ok (.ifCond .le o, 3)) (ht : (pc : Int) + o = (pt : Int)) (hp : pc + 3 = pf) (Gp : 0 < x → Go p e below s n0 Q rc rs T (mkF m pf Ls st)) (Gn : ¬ (0 < x) → Go p e below s n0 Q rc rs T (mkF m pt Ls st)) : Go p e below s n0 Q rc rs T (mkF m pc Ls (.int x :: st)) := by
  obtain ⟨_, X, -⟩ := W; subst hp
  by_cases q : 0 < x
  · exact Go.stp (g' := mkF m (pc + 3) Ls st) (fun _ hr => XS.ifNo X.here K.1 rfl (hb K.2.2.1 hd) rfl (Jvm.Free.XT.i0_le_f q) hr) (Gp q)
  · exact Go.stp (g' := mkF m pt Ls st) (fun _ hr => XS.ifYes X.here K.1 rfl (pc0 := pc) rfl (hb K.2.2.1 hd) rfl (Jvm.Free.XT.i0_le_t q) (own_jmp ht).1 (own_jmp ht).2 hr) (Gn q)
theorem g_lcmp_le (K : Cx p s m meth c Z own nm bytes maxL ret) (W : Wd p l e R s m args below meth c n0 T h cs ss) {x y : Int64} {o : Int} {pc1 : Nat} (hd0 : decode bytes pc = .ok (.lcmp, 1)) (hp0 : pc + 1 = pc1) (hd : decode bytes pc1 = .ok (.ifCond .le o, 3)) (ht : (pc1 : Int) + o = (pt : Int)) (hp : pc1 + 3 = pf) (Gp : y < x → Go p e below s n0 Q rc rs T (mkF m pf Ls st)) (Gn : ¬ (y < x) → Go p e below s n0 Q rc rs T (mkF m pt Ls st)) : Go p e below s n0 Q rc rs T (mkF m pc Ls (.long y :: .long x :: st)) := by
  obtain ⟨_, X, -⟩ := W; subst hp hp0
  refine Go.stp (g' := mkF m (pc + 1) Ls (.int (Jvm.Free.XT.cmpL x y) :: st)) (fun _ hr => XS.lcmp X.here K.1 rfl (hb K.2.2.1 hd0) rfl hr) ?_
  by_cases q : y < x
  · exact Go.stp (g' := mkF m (pc + 1 + 3) Ls st) (fun _ hr => XS.ifNo X.here K.1 rfl (hb K.2.2.1 hd) rfl (Jvm.Free.XT.ll_le_f q) hr) (Gp q)
  · exact Go.stp (g' := mkF m pt Ls st) (fun _ hr => XS.ifYes X.here K.1 rfl (pc0 := pc + 1) rfl (hb K.2.2.1 hd) rfl (Jvm.Free.XT.ll_le_t q) (own_jmp ht).1 (own_jmp ht).2 hr) (Gn q)
theorem g_ifnull_t (K : Cx p s m meth c Z own nm bytes maxL ret) (W : Wd p l e R s m args below meth c n0 T h cs ss) {o : Int} (hd : decode bytes pc = .ok (.ifnull o, 3)) (ht : (pc : Int) + o = (pt : Int)) (G : Go p e below s n0 Q rc rs T (mkF m pt Ls st)) : Go p e below s n0 Q rc rs T (mkF m pc Ls (.null :: st)) := by
  obtain ⟨_, X, -⟩ := W
  exact Go.stp (g' := mkF m pt Ls st) (fun _ hr => XS.ifnullYes X.here K.1 rfl (pc0 := pc) rfl (hb K.2.2.1 hd) rfl (own_jmp ht).1 (own_jmp ht).2 hr) G
theorem g_ifnull_f (K : Cx p s m meth c Z own nm bytes maxL ret) (W : Wd p l e R s m args below meth c n0 T h cs ss) {o : Int} {b : Addr} (hd : decode bytes pc = .ok (.ifnull o, 3)) (hp : pc + 3 = pf) (G : Go p e below s n0 Q rc rs T (mkF m pf Ls st)) : Go p e below s n0 Q rc rs T (mkF m pc Ls (.ref b :: st)) := by
  obtain ⟨_, X, -⟩ := W; subst hp
  exact Go.stp (g' := mkF m (pc + 3) Ls st) (fun _ hr => XS.ifnullNo X.here K.1 rfl (hb K.2.2.1 hd) rfl hr) G
theorem g_ifnonnull_t (K : Cx p s m meth c Z own nm bytes maxL ret) (W : Wd p l e R s m args below meth c n0 T h cs ss) {o : Int} {b : Addr} (hd : decode bytes pc = .ok (.ifnonnull o, 3)) (ht : (pc : Int) + o = (pt : Int)) (G : Go p e below s n0 Q rc rs T (mkF m pt Ls st)) : Go p e below s n0 Q rc rs T (mkF m pc Ls (.ref b :: st)) := by
  obtain ⟨_, X, -⟩ := W
  exact Go.stp (g' := mkF m pt Ls st) (fun _ hr => XS.ifnonnullYes X.here K.1 rfl (pc0 := pc) rfl (hb K.2.2.1 hd) rfl (own_jmp ht).1 (own_jmp ht).2 hr) G
theorem g_ifnonnull_f (K : Cx p s m meth c Z own nm bytes maxL ret) (W : Wd p l e R s m args below meth c n0 T h cs ss) {o : Int} (hd : decode bytes pc = .ok (.ifnonnull o, 3)) (hp : pc + 3 = pf) (G : Go p e below s n0 Q rc rs T (mkF m pf Ls st)) : Go p e below s n0 Q rc rs T (mkF m pc Ls (.null :: st)) := by
  obtain ⟨_, X, -⟩ := W; subst hp
  exact Go.stp (g' := mkF m (pc + 3) Ls st) (fun _ hr => XS.ifnonnullNo X.here K.1 rfl (hb K.2.2.1 hd) rfl hr) G
/-! the steps that read the tables or the heap -/
theorem Wd.sz (W : Wd p l e R s m args below meth c n0 T h cs ss) : n0 ≤ h.size := by
  obtain ⟨_, X, _, eT, q⟩ := W
  have r : s.heap.size ≤ T.heap.size := X.same.2.1
  rw [eT] at r
  exact Nat.le_trans q r
theorem g_getF (K : Cx p s m meth c Z own nm bytes maxL ret) (W : Wd p l e R s m args below meth c n0 T h cs ss) {R0 O n d host : String} {index : Nat} {a : Addr} {v : Value} (w : (Jvm.Cond.fieldLink own index R0 n d).before a0 Z = true ∨ (Jvm.Cond.fieldLinkNest own index R0 n d host).before a0 Z = true) (via : Via Z R0 O n d) (F : Fld Z h a O n d v) (hd : decode bytes pc = .ok (.getfield index, 3)) (hp : pc + 3 = pc')
    (G : ∀ T', Wd p l e R s m args below meth c n0 T' h cs ss → Go p e below s n0 Q rc rs T' (mkF m pc' Ls (v :: st))) : Go p e below s n0 Q rc rs T (mkF m pc Ls (.ref a :: st)) := by
  obtain ⟨locs, X, N, eT, z⟩ := W; subst hp
  obtain ⟨T', X', e', q⟩ := getF X K.1 K.2.1 K.2.2.2.2.1 w via eT F (g := mkF m pc Ls (.ref a :: st)) rfl rfl (hb K.2.2.1 hd)
  exact Go.stp q (G T' ⟨locs, X', N, e', z⟩)
theorem g_putF (K : Cx p s m meth c Z own nm bytes maxL ret) (W : Wd p l e R s m args below meth c n0 T h cs ss) {R0 O n d host C : String} {index kk : Nat} {ty : FieldType} {a : Addr} {v old : Value} (w : (Jvm.Cond.fieldLink own index R0 n d).before a0 Z = true ∨ (Jvm.Cond.fieldLinkNest own index R0 n d host).before a0 Z = true) (via : Via Z R0 O n d) (F : Fld Z h a O n d old) (E : Exa Z h a C)
    (L : (Jvm.Cond.lays C O n d).before a0 Z = true ∨ ((Jvm.Cond.laysFinal C O n d).before a0 Z = true ∧ own = O ∧ nm = "<init>")) (wi : (Jvm.Cond.instantiable C kk).before a0 Z = true) (hty : parseFieldDescriptor d = some ty) (hn : narrow ty v = v) (hf : fits ty v = true) (ha : n0 ≤ a) (hd : decode bytes pc = .ok (.putfield index, 3)) (hp : pc + 3 = pc')
    (G : ∀ T' h', Wd p l e R s m args below meth c n0 T' h' cs ss → Wr h h' a (Jvm.RoadKit.slotOf Z O n d) v → Go p e below s n0 Q rc rs T' (mkF m pc' Ls st)) : Go p e below s n0 Q rc rs T (mkF m pc Ls (v :: .ref a :: st)) := by
  obtain ⟨locs, X, N, eT, z⟩ := W; subst hp
  obtain ⟨T', h', X', e', w', q⟩ := putF X K.1 K.2.1 K.2.2.2.2.1 w via eT F E (L.imp id fun y => ⟨y.1, y.2.1, K.2.2.2.2.2.2.2.trans y.2.2⟩) wi hty hn hf (g := mkF m pc Ls (v :: .ref a :: st)) rfl rfl (hb K.2.2.1 hd)
  exact Go.stp q (G T' h' ⟨_, X', Fr.snoc X' N ha, e', z⟩ w')
theorem g_new (K : Cx p s m meth c Z own nm bytes maxL ret) (W : Wd p l e R s m args below meth c n0 T h cs ss) {C : String} {index n : Nat} (w : (Jvm.Cond.classLink own index C).before a0 Z = true) (wi : (Jvm.Cond.instantiable C n).before a0 Z = true) (wz : (Jvm.Cond.initialized C).before a0 Z = true) (hd : decode bytes pc = .ok (.new index, 3)) (hp : pc + 3 = pc') (hc : cs + 1 ≤ R.cells) (hl : ss + n ≤ R.slots)
    (G : ∀ T' h' a, Wd p l e R s m args below meth c n0 T' h' (cs + 1) (ss + n) → Ext h h' → a = h.size → n0 ≤ a → Exa Z h' a C → (∀ {O nm d : String} {ty : FieldType}, Laid Z a0 C O nm d → parseFieldDescriptor d = some ty → Fld Z h' a O nm d (defaultValue ty)) → Go p e below s n0 Q rc rs T' (mkF m pc' Ls (.ref a :: st))) : Go p e below s n0 Q rc rs T (mkF m pc Ls st) := by
  have zz := W.sz
  obtain ⟨locs, X, N, eT, z⟩ := W; subst hp
  obtain ⟨T', h', X', e', E, A, D, -, q⟩ := newO X K.1 K.2.1 K.2.2.2.2.1 w wi wz eT (g := mkF m pc Ls st) rfl (hb K.2.2.1 hd) hc hl
  exact Go.stp q (G T' h' _ ⟨_, X', N, e', z⟩ E rfl zz A (fun {O nm d ty} a b => D a b))
/-! the ways out -/
theorem g_ret0 (K : Cx p s m meth c Z own nm bytes maxL none) (W : Wd p l e R s m args below meth c n0 T h cs ss) (hd : decode bytes pc = .ok (.return_, 1)) (h1 : cs ≤ rc) (h2 : ss ≤ rs) (q : Q none h) : Go p e below s n0 Q rc rs T (mkF m pc Ls []) := by
  obtain ⟨locs, X, N, eT, z⟩ := W
  obtain ⟨fs, hr, hrun, hended, hW, hsame⟩ := X.leave (v := none) (fun _ => rfl) K.2.2.2.2.2.2.1
  exact ⟨_, _, X.returnOut K.1 K.2.2.2.2.2.1 (hb K.2.2.1 hd) hr, hrun, hended, _, _, rfl, ⟨by show Q none T.heap; rw [eT]; exact q, N⟩, ⟨_, rfl⟩, hW, hsame.mono h1 h2⟩
theorem g_retN {t : FieldType} {x v : Int32} (K : Cx p s m meth c Z own nm bytes maxL (some t)) (W : Wd p l e R s m args below meth c n0 T h cs ss) (ht : t = .boolean ∨ t = .byte ∨ t = .char ∨ t = .short) (hd : decode bytes pc = .ok (.ireturn, 1)) (h1 : cs ≤ rc) (h2 : ss ≤ rs) (hv : nar t x = v) (q : Q (some (.int v)) h) : Go p e below s n0 Q rc rs T (mkF m pc Ls (.int x :: st)) := by
  obtain ⟨locs, X, N, eT, z⟩ := W; subst hv
  obtain ⟨fs, hr, hrun, hended, hW, hsame⟩ := X.leave (v := some (.int (nar t x))) (fun y => by rw [K.2.2.2.2.2.1] at y; cases y) K.2.2.2.2.2.2.1
  exact ⟨_, _, retN X K.1 K.2.2.2.2.2.1 ht (hb K.2.2.1 hd) hr, hrun, hended, _, _, rfl, ⟨by show Q _ T.heap; rw [eT]; exact q, N⟩, ⟨_, rfl⟩, hW, hsame.mono h1 h2⟩
theorem g_retI {x : Int32} (K : Cx p s m meth c Z own nm bytes maxL (some .int)) (W : Wd p l e R s m args below meth c n0 T h cs ss) (hd : decode bytes pc = .ok (.ireturn, 1)) (h1 : cs ≤ rc) (h2 : ss ≤ rs) (q : Q (some (.int x)) h) : Go p e below s n0 Q rc rs T (mkF m pc Ls (.int x :: st)) := by
  obtain ⟨locs, X, N, eT, z⟩ := W
  obtain ⟨fs, hr, hrun, hended, hW, hsame⟩ := X.leave (v := some (.int x)) (fun y => by rw [K.2.2.2.2.2.1] at y; cases y) K.2.2.2.2.2.2.1
  exact ⟨_, _, retOut X K.1 K.2.2.2.2.2.1 rfl (Or.inl ⟨rfl, Or.inl rfl, _, rfl⟩) (hb K.2.2.1 hd) hr, hrun, hended, _, _, rfl, ⟨by show Q _ T.heap; rw [eT]; exact q, N⟩, ⟨_, rfl⟩, hW, hsame.mono h1 h2⟩
theorem g_retL {x : Int64} (K : Cx p s m meth c Z own nm bytes maxL (some .long)) (W : Wd p l e R s m args below meth c n0 T h cs ss) (hd : decode bytes pc = .ok (.lreturn, 1)) (h1 : cs ≤ rc) (h2 : ss ≤ rs) (q : Q (some (.long x)) h) : Go p e below s n0 Q rc rs T (mkF m pc Ls (.long x :: st)) := by
  obtain ⟨locs, X, N, eT, z⟩ := W
  obtain ⟨fs, hr, hrun, hended, hW, hsame⟩ := X.leave (v := some (.long x)) (fun y => by rw [K.2.2.2.2.2.1] at y; cases y) K.2.2.2.2.2.2.1
  exact ⟨_, _, retOut X K.1 K.2.2.2.2.2.1 rfl (Or.inr (Or.inl ⟨rfl, rfl, _, rfl⟩)) (hb K.2.2.1 hd) hr, hrun, hended, _, _, rfl, ⟨by show Q _ T.heap; rw [eT]; exact q, N⟩, ⟨_, rfl⟩, hW, hsame.mono h1 h2⟩
theorem g_retA {t : FieldType} {x : Value} (K : Cx p s m meth c Z own nm bytes maxL (some t)) (W : Wd p l e R s m args below meth c n0 T h cs ss) (ht : t.isReference = true) (hn : narrow t x = x) (hx : x.isRef = true) (hd : decode bytes pc = .ok (.areturn, 1)) (h1 : cs ≤ rc) (h2 : ss ≤ rs) (q : Q (some x) h) : Go p e below s n0 Q rc rs T (mkF m pc Ls (x :: st)) := by
  obtain ⟨locs, X, N, eT, z⟩ := W
  obtain ⟨fs, hr, hrun, hended, hW, hsame⟩ := X.leave (v := some x) (fun y => by rw [K.2.2.2.2.2.1] at y; cases y) K.2.2.2.2.2.2.1
  exact ⟨_, _, retOut X K.1 K.2.2.2.2.2.1 hn (Or.inr (Or.inr (Or.inr (Or.inr ⟨rfl, ht, hx⟩)))) (hb K.2.2.1 hd) hr, hrun, hended, _, _, rfl, ⟨by show Q _ T.heap; rw [eT]; exact q, N⟩, ⟨_, rfl⟩, hW, hsame.mono h1 h2⟩
/-! the calls, each by its callee's contract -/
theorem g_callS {y : MethodName} {yb : ByteArray} {yl : Nat} {yr : Option FieldType} {rm : Room} {argsL : List Value} {Qc : Option Value → Heap → Prop} {index : Nat} (M : Mt l Z y yb yl yr rm n0 argsL.toArray h Qc) (K : Cx p s m meth c Z own nm bytes maxL ret) (W : Wd p l e R s m args below meth c n0 T h cs ss)
    (wl : (Jvm.Cond.methodLink own index y).before a0 Z = true) (ws : (Jvm.Cond.static y).before a0 Z = true) (wi : (Jvm.Cond.initialized y.cls).before a0 Z = true) (wc : (Jvm.Cond.code y yb yl yr).before a0 Z = true) (hy : y.cls ≠ "java/lang/invoke/MethodHandle" ∧ y.cls ≠ "java/lang/invoke/VarHandle")
    (hlen : ∀ sig, parseMethodDescriptor y.desc = some sig → argsL.length = sig.parameters.length) (hd : decode bytes pc = .ok (.invokestatic index, 3)) (hp : pc + 3 = pc') (hst : st = argsL.reverse ++ rest) (hsz : Ls.size = maxL) (hf : rm.frames + 1 ≤ R.frames) {wt : Nat} (hwt : (rest.map fun v => v.category).sum = wt) (hl : wt + (yl + 11) + rm.locals ≤ R.locals) (hc : cs + rm.cells ≤ R.cells) (hs : ss + rm.slots ≤ R.slots)
    (G : ∀ T' h' v, Wd p l e R s m args below meth c n0 T' h' (cs + rm.cells) (ss + rm.slots) → Qc v h' → Go p e below s n0 Q rc rs T' (mkF m pc' Ls (v.toList ++ rest))) : Go p e below s n0 Q rc rs T (mkF m pc Ls st) := by
  obtain ⟨locs, X, N, eT, z⟩ := W; subst hp hwt
  obtain ⟨v, _, ⟨T', L', k', n'⟩, -, X', ⟨Lc, hQ, l1, l2, l3⟩, q⟩ := Jvm.LawKit.callS X K.1 (y := y) K.2.2.2.2.1 (mvT K.2.1 wl) (mvT K.2.1 ws) (mvT K.2.1 wi) (mvT K.2.1 wc) hy (backOf (W := (rest.map fun v => v.category).sum) (Q := fun v hh L => Qc v hh ∧ Fr n0 L) (M []) K.2.1 wc wi hf hl) (g := mkF m pc Ls st) rfl (hsz.trans K.2.2.2.1.symm) (argsL := argsL) (rest := rest) hlen hst (by show 2 * 0 + _ ≤ _; omega) (hb K.2.2.1 hd) (fun _ _ => ⟨rfl, eT, hc, hs⟩)
  dsimp only [Pt.U, Pt.locs, Pt.cells, Pt.slots] at X' l1 l2 l3 q hQ
  subst l1 l2 l3
  exact Go.stp q (G T' T'.heap v ⟨_, X', Fr.app N hQ.2, rfl, z⟩ hQ.1)
theorem g_callN {y : MethodName} {yb : ByteArray} {yl : Nat} {rm : Room} {argsL : List Value} {Qc : Option Value → Heap → Prop} {index : Nat} {a : Addr} (M : Mt l Z y yb yl none rm n0 (.ref a :: argsL).toArray h Qc) (K : Cx p s m meth c Z own nm bytes maxL ret) (W : Wd p l e R s m args below meth c n0 T h cs ss) (hy1 : y.name = "<init>")
    (wl : (Jvm.Cond.methodLink own index y).before a0 Z = true) (ws : (Jvm.Cond.instanceMethod y).before a0 Z = true) (wi : (Jvm.Cond.initialized y.cls).before a0 Z = true) (wc : (Jvm.Cond.code y yb yl none).before a0 Z = true) (hy : y.cls ≠ "java/lang/invoke/MethodHandle" ∧ y.cls ≠ "java/lang/invoke/VarHandle")
    (hlen : ∀ sig, parseMethodDescriptor y.desc = some sig → argsL.length = sig.parameters.length) (hd : decode bytes pc = .ok (.invokespecial index, 3)) (hp : pc + 3 = pc') (hst : st = argsL.reverse ++ .ref a :: rest) (hsz : Ls.size = maxL) (hf : rm.frames + 1 ≤ R.frames) {wt : Nat} (hwt : (rest.map fun v => v.category).sum = wt) (hl : wt + (yl + 11) + rm.locals ≤ R.locals) (hc : cs + rm.cells ≤ R.cells) (hs : ss + rm.slots ≤ R.slots)
    (G : ∀ T' h' v, Wd p l e R s m args below meth c n0 T' h' (cs + rm.cells) (ss + rm.slots) → Qc v h' → Go p e below s n0 Q rc rs T' (mkF m pc' Ls (v.toList ++ rest))) : Go p e below s n0 Q rc rs T (mkF m pc Ls st) := by
  obtain ⟨locs, X, N, eT, z⟩ := W; subst hp hwt
  obtain ⟨v, _, ⟨T', L', k', n'⟩, -, X', ⟨Lc, hQ, l1, l2, l3⟩, q⟩ := X.specialBack K.1 (y := y) hy1 K.2.2.2.2.1 (mvT K.2.1 wl) (mvT K.2.1 ws) (mvT K.2.1 wc) hy (backOf (W := (rest.map fun v => v.category).sum) (Q := fun v hh L => Qc v hh ∧ Fr n0 L) (M []) K.2.1 wc wi hf hl) (g := mkF m pc Ls st) rfl (hsz.trans K.2.2.2.1.symm) (Steps.refl _) (a := a) (argsL := argsL) (rest := rest) hlen hst (by show 2 * 0 + _ ≤ _; omega) (hb K.2.2.1 hd) (fun _ _ => ⟨rfl, eT, hc, hs⟩)
  dsimp only [Pt.U, Pt.locs, Pt.cells, Pt.slots] at X' l1 l2 l3 q hQ
  subst l1 l2 l3
  exact Go.stp (fun _ k => q.trans k) (G T' T'.heap v ⟨_, X', Fr.app N hQ.2, rfl, z⟩ hQ.1)
theorem g_callV {y : MethodName} {yb : ByteArray} {yl : Nat} {yr : Option FieldType} {rm : Room} {argsL : List Value} {Qc : Option Value → Heap → Prop} {index : Nat} {C : String} {a : Addr} {x : MethodName} (M : Mt l Z y yb yl yr rm n0 (.ref a :: argsL).toArray h Qc) (K : Cx p s m meth c Z own nm bytes maxL ret) (W : Wd p l e R s m args below meth c n0 T h cs ss) (E : Exa Z h a C)
    (wl : (Jvm.Cond.methodLink own index x).before a0 Z = true) (wd : (Jvm.Cond.declares x).before a0 Z = true) (wx : (Jvm.Cond.selects x.cls x x).before a0 Z = true) (wsel : (Jvm.Cond.selects C x y).before a0 Z = true) (ws : (Jvm.Cond.instanceMethod y).before a0 Z = true) (wi : (Jvm.Cond.initialized y.cls).before a0 Z = true) (wc : (Jvm.Cond.code y yb yl yr).before a0 Z = true) (hy : x.cls ≠ "java/lang/invoke/MethodHandle" ∧ x.cls ≠ "java/lang/invoke/VarHandle")
    (hlen : ∀ sig, parseMethodDescriptor x.desc = some sig → argsL.length = sig.parameters.length) (hd : decode bytes pc = .ok (.invokevirtual index, 3)) (hp : pc + 3 = pc') (hst : st = argsL.reverse ++ .ref a :: rest) (hsz : Ls.size = maxL) (hf : rm.frames + 1 ≤ R.frames) {wt : Nat} (hwt : (rest.map fun v => v.category).sum = wt) (hl : wt + (yl + 11) + rm.locals ≤ R.locals) (hc : cs + rm.cells ≤ R.cells) (hs : ss + rm.slots ≤ R.slots)
    (G : ∀ T' h' v, Wd p l e R s m args below meth c n0 T' h' (cs + rm.cells) (ss + rm.slots) → Qc v h' → Go p e below s n0 Q rc rs T' (mkF m pc' Ls (v.toList ++ rest))) : Go p e below s n0 Q rc rs T (mkF m pc Ls st) := by
  obtain ⟨locs, X, N, eT, z⟩ := W; subst hp hwt
  obtain ⟨cq, kq, qa, qb, qc⟩ := isOf K.2.1 eT E
  obtain ⟨v, _, ⟨T', L', k', n'⟩, -, X', ⟨Lc, hQ, l1, l2, l3⟩, q⟩ := X.virtualBack K.1 (y := x) (z := y) K.2.2.2.2.1 (mvT K.2.1 wl) (mvT K.2.1 wd) (notFace_of_selects (args := #[]) (mvT K.2.1 wx)) (mvT K.2.1 wsel) (mvT K.2.1 ws) hy (backOf (W := (rest.map fun v => v.category).sum) (Q := fun v hh L => Qc v hh ∧ Fr n0 L) (M []) K.2.1 wc wi hf hl) qa qc (g := mkF m pc Ls st) rfl (hsz.trans K.2.2.2.1.symm) (Steps.refl _) (argsL := argsL) (rest := rest) hlen hst (by show 2 * 0 + _ ≤ _; omega) (hb K.2.2.1 hd) (fun _ _ => ⟨rfl, eT, hc, hs⟩)
  dsimp only [Pt.U, Pt.locs, Pt.cells, Pt.slots] at X' l1 l2 l3 q hQ
  subst l1 l2 l3
  exact Go.stp (fun _ k => q.trans k) (G T' T'.heap v ⟨_, X', Fr.app N hQ.2, rfl, z⟩ hQ.1)
theorem g_callP {y : MethodName} {yb : ByteArray} {yl : Nat} {yr : Option FieldType} {rm : Room} {argsL : List Value} {Qc : Option Value → Heap → Prop} {index : Nat} {a : Addr} (M : Mt l Z y yb yl yr rm n0 (.ref a :: argsL).toArray h Qc) (K : Cx p s m meth c Z own nm bytes maxL ret) (W : Wd p l e R s m args below meth c n0 T h cs ss) (hcell : ∃ c : Cell, h[a]? = some c ∧ ∀ q, c.vm ≠ .statics q)
    (wl : (Jvm.Cond.methodLink own index y).before a0 Z = true) (ws : (Jvm.Cond.instanceMethod y).before a0 Z = true) {kk : Nat} (wk : (Jvm.Cond.instantiable y.cls kk).before a0 Z = true) (wp : (Jvm.Cond.privateMethod y).before a0 Z = true) (wi : (Jvm.Cond.initialized y.cls).before a0 Z = true) (wc : (Jvm.Cond.code y yb yl yr).before a0 Z = true) (hy : y.cls ≠ "java/lang/invoke/MethodHandle" ∧ y.cls ≠ "java/lang/invoke/VarHandle")
    (hlen : ∀ sig, parseMethodDescriptor y.desc = some sig → argsL.length = sig.parameters.length) (hd : decode bytes pc = .ok (.invokevirtual index, 3)) (hp : pc + 3 = pc') (hst : st = argsL.reverse ++ .ref a :: rest) (hsz : Ls.size = maxL) (hf : rm.frames + 1 ≤ R.frames) {wt : Nat} (hwt : (rest.map fun v => v.category).sum = wt) (hl : wt + (yl + 11) + rm.locals ≤ R.locals) (hc : cs + rm.cells ≤ R.cells) (hs : ss + rm.slots ≤ R.slots)
    (G : ∀ T' h' v, Wd p l e R s m args below meth c n0 T' h' (cs + rm.cells) (ss + rm.slots) → Qc v h' → Go p e below s n0 Q rc rs T' (mkF m pc' Ls (v.toList ++ rest))) : Go p e below s n0 Q rc rs T (mkF m pc Ls st) := by
  obtain ⟨locs, X, N, eT, z⟩ := W; subst hp hwt
  obtain ⟨cl, hc1, hc2⟩ := hcell
  have wk' : (Jvm.Cond.instantiable y.cls kk).before args s = true := mvT K.2.1 wk
  obtain ⟨ck, kc, f1, f2, f3, f4, -⟩ := Jvm.Cond.instantiable_spec wk'
  have hpr : s.PrivateAt y := Jvm.Cond.privateMethod_at (mvP K.2.1 wp (args := #[]))
  have hsel : (Jvm.Cond.selects y.cls y y).before args s = true := Jvm.Stand.selects_self_of_private f1 f2 (by simpa using (Bool.or_eq_false_iff.mp f4).1) hpr (mvT K.2.1 ws) hy
  obtain ⟨v, _, ⟨T', L', k', n'⟩, -, X', ⟨Lc, hQ, l1, l2, l3⟩, q⟩ := X.privateBack K.1 (y := y) K.2.2.2.2.1 (mvT K.2.1 wl) (mvT K.2.1 ws) hsel hpr (mvT K.2.1 wc) hy (backOf (W := (rest.map fun v => v.category).sum) (Q := fun v hh L => Qc v hh ∧ Fr n0 L) (M []) K.2.1 wc wi hf hl) (g := mkF m pc Ls st) rfl (hsz.trans K.2.2.2.1.symm) (Steps.refl _) (a := a) (by rw [eT]; exact hc1) hc2 (argsL := argsL) (rest := rest) hlen hst (by show 2 * 0 + _ ≤ _; omega) (hb K.2.2.1 hd) (fun _ _ => ⟨rfl, eT, hc, hs⟩)
  dsimp only [Pt.U, Pt.locs, Pt.cells, Pt.slots] at X' l1 l2 l3 q hQ
  subst l1 l2 l3
  exact Go.stp (fun _ k => q.trans k) (G T' T'.heap v ⟨_, X', Fr.app N hQ.2, rfl, z⟩ hQ.1)
/-! arrays: n places, place j holds f j -/
def AyI (Z : State) (h : Heap) (a : Addr) (ty : FieldType) (n : Nat) (f : Nat → Int32) : Prop := ∃ cl : Cell, Arr Z h a cl ty ∧ cl.slots.size = n ∧ ∀ j, j < n → cl.slots[j]? = some (.int (f j))
def AyJ (Z : State) (h : Heap) (a : Addr) (n : Nat) (f : Nat → Int64) : Prop := ∃ cl : Cell, Arr Z h a cl .long ∧ cl.slots.size = n ∧ ∀ j, j < n → cl.slots[j]? = some (.long (f j))
def upd {α : Type} (f : Nat → α) (k : Nat) (v : α) : Nat → α := fun j => if j = k then v else f j
theorem upd_same {α : Type} (f : Nat → α) (k : Nat) (v : α) : upd f k v k = v := if_pos rfl
theorem upd_ne {α : Type} (f : Nat → α) {k j : Nat} (v : α) (q : j ≠ k) : upd f k v j = f j := if_neg q
theorem own_ix {j : Int32} {k : Nat} (hj : j.toInt = (k : Int)) : ¬ j < 0 ∧ j.toNatClampNeg = k := by
  refine ⟨fun q => ?_, ?_⟩
  · rw [Int32.lt_iff_toInt_lt, hj, show (0 : Int32).toInt = 0 from rfl] at q; omega
  · rw [Int32.toNatClampNeg, hj]; rfl
theorem own_in {j : Int32} {k n : Nat} (hj : j.toInt = (k : Int)) (hk : k < n) {cl : Cell} (hs : cl.slots.size = n) : ¬ (j < 0 ∨ cl.slots.size ≤ j.toNatClampNeg) := by
  rw [(own_ix hj).2, hs]
  exact fun q => q.elim (own_ix hj).1 (fun q => by omega)
theorem AyI.lt {a : Addr} {ty : FieldType} {n : Nat} {f : Nat → Int32} (A : AyI Z h a ty n f) : a < h.size := by obtain ⟨_, q, -⟩ := A; exact q.lt
theorem AyJ.lt {a : Addr} {n : Nat} {f : Nat → Int64} (A : AyJ Z h a n f) : a < h.size := by obtain ⟨_, q, -⟩ := A; exact q.lt
theorem AyI.ext {h' : Heap} {a : Addr} {ty : FieldType} {n : Nat} {f : Nat → Int32} (A : AyI Z h a ty n f) (E : Ext h h') : AyI Z h' a ty n f := by obtain ⟨cl, q, r⟩ := A; exact ⟨cl, q.ext E, r⟩
theorem AyJ.ext {h' : Heap} {a : Addr} {n : Nat} {f : Nat → Int64} (A : AyJ Z h a n f) (E : Ext h h') : AyJ Z h' a n f := by obtain ⟨cl, q, r⟩ := A; exact ⟨cl, q.ext E, r⟩
theorem AyI.other {h' : Heap} {a b : Addr} {sl : Nat} {v : Value} {ty : FieldType} {n : Nat} {f : Nat → Int32} (A : AyI Z h b ty n f) (w : Wr h h' a sl v) (q : b ≠ a) : AyI Z h' b ty n f := by obtain ⟨cl, x, r⟩ := A; exact ⟨cl, x.other w q, r⟩
theorem AyJ.other {h' : Heap} {a b : Addr} {sl : Nat} {v : Value} {n : Nat} {f : Nat → Int64} (A : AyJ Z h b n f) (w : Wr h h' a sl v) (q : b ≠ a) : AyJ Z h' b n f := by obtain ⟨cl, x, r⟩ := A; exact ⟨cl, x.other w q, r⟩
theorem AyI.keep {h' : Heap} {a : Addr} {ws : List Addr} {ty : FieldType} {n : Nat} {f : Nat → Int32} (A : AyI Z h a ty n f) (k : Keep h h' ws) (q : a ∉ ws) : AyI Z h' a ty n f := by obtain ⟨cl, x, r⟩ := A; exact ⟨cl, ⟨k.2.1 a cl x.1 q, x.2⟩, r⟩
theorem AyJ.keep {h' : Heap} {a : Addr} {ws : List Addr} {n : Nat} {f : Nat → Int64} (A : AyJ Z h a n f) (k : Keep h h' ws) (q : a ∉ ws) : AyJ Z h' a n f := by obtain ⟨cl, x, r⟩ := A; exact ⟨cl, ⟨k.2.1 a cl x.1 q, x.2⟩, r⟩
theorem AyI.same {h' : Heap} {a : Addr} {k : Nat} {x : Int32} {ty : FieldType} {n : Nat} {f : Nat → Int32} (A : AyI Z h a ty n f) (w : Wr h h' a k (.int x)) : AyI Z h' a ty n (upd f k x) := by
  obtain ⟨cl, q, r1, r2⟩ := A
  refine ⟨_, q.same w, by simpa [Cell.setSlot] using r1, fun j hj => ?_⟩
  by_cases e : j = k
  · subst e; rw [upd_same]; simp [Cell.setSlot, Array.getElem?_setIfInBounds, r1, hj]
  · rw [upd_ne f x e, ← r2 j hj]; simp [Cell.setSlot, Array.getElem?_setIfInBounds, Ne.symm e]
theorem AyJ.same {h' : Heap} {a : Addr} {k : Nat} {x : Int64} {n : Nat} {f : Nat → Int64} (A : AyJ Z h a n f) (w : Wr h h' a k (.long x)) : AyJ Z h' a n (upd f k x) := by
  obtain ⟨cl, q, r1, r2⟩ := A
  refine ⟨_, q.same w, by simpa [Cell.setSlot] using r1, fun j hj => ?_⟩
  by_cases e : j = k
  · subst e; rw [upd_same]; simp [Cell.setSlot, Array.getElem?_setIfInBounds, r1, hj]
  · rw [upd_ne f x e, ← r2 j hj]; simp [Cell.setSlot, Array.getElem?_setIfInBounds, Ne.symm e]
theorem g_alenI (K : Cx p s m meth c Z own nm bytes maxL ret) (W : Wd p l e R s m args below meth c n0 T h cs ss) {a : Addr} {ty : FieldType} {n : Nat} {f : Nat → Int32} (A : AyI Z h a ty n f) {v : Int32} (hv : Int32.ofNat n = v) (hd : decode bytes pc = .ok (.arraylength, 1)) (hp : pc + 1 = pc')
    (G : Go p e below s n0 Q rc rs T (mkF m pc' Ls (.int v :: st))) : Go p e below s n0 Q rc rs T (mkF m pc Ls (.ref a :: st)) := by
  obtain ⟨_, X, N, eT, z⟩ := W; subst hp
  obtain ⟨cl, q, r1, r2⟩ := A
  refine Go.stp (g' := mkF m (pc + 1) Ls (.int v :: st)) (fun _ hr => X.arraylength K.1 (cell := cl) (by rw [eT]; exact q.1) (State.isArrayOf_alike K.2.1.alike q.2.1) (g := mkF m pc Ls (.ref a :: st)) rfl (rest := st) rfl (hb K.2.2.1 hd) _ ?_) G
  rw [r1, show n.toInt32 = v from hv]
  exact hr
theorem g_alenJ (K : Cx p s m meth c Z own nm bytes maxL ret) (W : Wd p l e R s m args below meth c n0 T h cs ss) {a : Addr} {n : Nat} {f : Nat → Int64} (A : AyJ Z h a n f) {v : Int32} (hv : Int32.ofNat n = v) (hd : decode bytes pc = .ok (.arraylength, 1)) (hp : pc + 1 = pc')
    (G : Go p e below s n0 Q rc rs T (mkF m pc' Ls (.int v :: st))) : Go p e below s n0 Q rc rs T (mkF m pc Ls (.ref a :: st)) := by
  obtain ⟨_, X, N, eT, z⟩ := W; subst hp
  obtain ⟨cl, q, r1, r2⟩ := A
  refine Go.stp (g' := mkF m (pc + 1) Ls (.int v :: st)) (fun _ hr => X.arraylength K.1 (cell := cl) (by rw [eT]; exact q.1) (State.isArrayOf_alike K.2.1.alike q.2.1) (g := mkF m pc Ls (.ref a :: st)) rfl (rest := st) rfl (hb K.2.2.1 hd) _ ?_) G
  rw [r1, show n.toInt32 = v from hv]
  exact hr
theorem g_iaload (K : Cx p s m meth c Z own nm bytes maxL ret) (W : Wd p l e R s m args below meth c n0 T h cs ss) {a : Addr} {n k : Nat} {f : Nat → Int32} {j v : Int32} (A : AyI Z h a .int n f) (hj : j.toInt = (k : Int)) (hk : k < n) (hv : f k = v) (hd : decode bytes pc = .ok (.iaload, 1)) (hp : pc + 1 = pc')
    (G : Go p e below s n0 Q rc rs T (mkF m pc' Ls (.int v :: st))) : Go p e below s n0 Q rc rs T (mkF m pc Ls (.int j :: .ref a :: st)) := by
  obtain ⟨_, X, N, eT, z⟩ := W; subst hp hv
  obtain ⟨cl, q, r1, r2⟩ := A
  exact Go.stp (g' := mkF m (pc + 1) Ls (.int (f k) :: st)) (fun _ hr => X.iaload K.1 (by rw [eT]; exact q.1) (State.isArrayOf_alike K.2.1.alike q.2.1) q.2.2 (own_in hj hk r1) (by rw [(own_ix hj).2]; exact r2 k hk) (g := mkF m pc Ls (.int j :: .ref a :: st)) rfl rfl (hb K.2.2.1 hd) _ hr) G
theorem g_baload (K : Cx p s m meth c Z own nm bytes maxL ret) (W : Wd p l e R s m args below meth c n0 T h cs ss) {a : Addr} {n k : Nat} {f : Nat → Int32} {j v : Int32} (A : AyI Z h a .byte n f) (hj : j.toInt = (k : Int)) (hk : k < n) (hv : f k = v) (hd : decode bytes pc = .ok (.baload, 1)) (hp : pc + 1 = pc')
    (G : Go p e below s n0 Q rc rs T (mkF m pc' Ls (.int v :: st))) : Go p e below s n0 Q rc rs T (mkF m pc Ls (.int j :: .ref a :: st)) := by
  obtain ⟨_, X, N, eT, z⟩ := W; subst hp hv
  obtain ⟨cl, q, r1, r2⟩ := A
  exact Go.stp (g' := mkF m (pc + 1) Ls (.int (f k) :: st)) (fun _ hr => X.baloadBytes K.1 (by rw [eT]; exact q.1) (State.isArrayOf_alike K.2.1.alike q.2.1) q.2.2 (own_in hj hk r1) (by rw [(own_ix hj).2]; exact r2 k hk) (g := mkF m pc Ls (.int j :: .ref a :: st)) rfl rfl (hb K.2.2.1 hd) _ hr) G
theorem g_zaload (K : Cx p s m meth c Z own nm bytes maxL ret) (W : Wd p l e R s m args below meth c n0 T h cs ss) {a : Addr} {n k : Nat} {f : Nat → Int32} {j v : Int32} (A : AyI Z h a .boolean n f) (hj : j.toInt = (k : Int)) (hk : k < n) (hv : f k = v) (hd : decode bytes pc = .ok (.baload, 1)) (hp : pc + 1 = pc')
    (G : Go p e below s n0 Q rc rs T (mkF m pc' Ls (.int v :: st))) : Go p e below s n0 Q rc rs T (mkF m pc Ls (.int j :: .ref a :: st)) := by
  obtain ⟨_, X, N, eT, z⟩ := W; subst hp hv
  obtain ⟨cl, q, r1, r2⟩ := A
  exact Go.stp (g' := mkF m (pc + 1) Ls (.int (f k) :: st)) (fun _ hr => X.baloadBooleans K.1 (by rw [eT]; exact q.1) (State.isArrayOf_alike K.2.1.alike q.2.1) q.2.2 (own_in hj hk r1) (by rw [(own_ix hj).2]; exact r2 k hk) (g := mkF m pc Ls (.int j :: .ref a :: st)) rfl rfl (hb K.2.2.1 hd) _ hr) G
theorem g_laload (K : Cx p s m meth c Z own nm bytes maxL ret) (W : Wd p l e R s m args below meth c n0 T h cs ss) {a : Addr} {n k : Nat} {f : Nat → Int64} {j : Int32} {v : Int64} (A : AyJ Z h a n f) (hj : j.toInt = (k : Int)) (hk : k < n) (hv : f k = v) (hd : decode bytes pc = .ok (.laload, 1)) (hp : pc + 1 = pc')
    (G : Go p e below s n0 Q rc rs T (mkF m pc' Ls (.long v :: st))) : Go p e below s n0 Q rc rs T (mkF m pc Ls (.int j :: .ref a :: st)) := by
  obtain ⟨_, X, N, eT, z⟩ := W; subst hp hv
  obtain ⟨cl, q, r1, r2⟩ := A
  exact Go.stp (g' := mkF m (pc + 1) Ls (.long (f k) :: st)) (fun _ hr => X.laload K.1 (by rw [eT]; exact q.1) (State.isArrayOf_alike K.2.1.alike q.2.1) q.2.2 (own_in hj hk r1) (by rw [(own_ix hj).2]; exact r2 k hk) (g := mkF m pc Ls (.int j :: .ref a :: st)) rfl rfl (hb K.2.2.1 hd) _ hr) G
theorem g_bastore (K : Cx p s m meth c Z own nm bytes maxL ret) (W : Wd p l e R s m args below meth c n0 T h cs ss) {a : Addr} {n k : Nat} {f : Nat → Int32} {j x : Int32} (A : AyI Z h a .byte n f) (hj : j.toInt = (k : Int)) (hk : k < n) (ha : n0 ≤ a) (hd : decode bytes pc = .ok (.bastore, 1)) (hp : pc + 1 = pc')
    (G : ∀ T' h', Wd p l e R s m args below meth c n0 T' h' cs ss → Wr h h' a k (.int x.toInt8.toInt32) → AyI Z h' a .byte n (upd f k x.toInt8.toInt32) → Go p e below s n0 Q rc rs T' (mkF m pc' Ls st)) : Go p e below s n0 Q rc rs T (mkF m pc Ls (.int x :: .int j :: .ref a :: st)) := by
  obtain ⟨locs, X, N, eT, z⟩ := W; subst hp
  have A0 := A
  obtain ⟨cl, q, r1, r2⟩ := A
  obtain ⟨T', h', X', e', w', st'⟩ := stB X K.1 K.2.1 eT q (own_in hj hk r1) (g := mkF m pc Ls (.int x :: .int j :: .ref a :: st)) rfl rfl (hb K.2.2.1 hd)
  rw [(own_ix hj).2] at w' X'
  exact Go.stp st' (G T' h' ⟨_, X', Fr.snoc X' N ha, e', z⟩ w' (A0.same w'))
theorem g_zastore (K : Cx p s m meth c Z own nm bytes maxL ret) (W : Wd p l e R s m args below meth c n0 T h cs ss) {a : Addr} {n k : Nat} {f : Nat → Int32} {j x : Int32} (A : AyI Z h a .boolean n f) (hj : j.toInt = (k : Int)) (hk : k < n) (ha : n0 ≤ a) (hd : decode bytes pc = .ok (.bastore, 1)) (hp : pc + 1 = pc')
    (G : ∀ T' h', Wd p l e R s m args below meth c n0 T' h' cs ss → Wr h h' a k (.int (x &&& 1)) → AyI Z h' a .boolean n (upd f k (x &&& 1)) → Go p e below s n0 Q rc rs T' (mkF m pc' Ls st)) : Go p e below s n0 Q rc rs T (mkF m pc Ls (.int x :: .int j :: .ref a :: st)) := by
  obtain ⟨locs, X, N, eT, z⟩ := W; subst hp
  have A0 := A
  obtain ⟨cl, q, r1, r2⟩ := A
  obtain ⟨T', h', X', e', w', st'⟩ := stZ X K.1 K.2.1 eT q (own_in hj hk r1) (g := mkF m pc Ls (.int x :: .int j :: .ref a :: st)) rfl rfl (hb K.2.2.1 hd)
  rw [(own_ix hj).2] at w' X'
  exact Go.stp st' (G T' h' ⟨_, X', Fr.snoc X' N ha, e', z⟩ w' (A0.same w'))
theorem g_iastore (K : Cx p s m meth c Z own nm bytes maxL ret) (W : Wd p l e R s m args below meth c n0 T h cs ss) {a : Addr} {n k : Nat} {f : Nat → Int32} {j x : Int32} (A : AyI Z h a .int n f) (hj : j.toInt = (k : Int)) (hk : k < n) (ha : n0 ≤ a) (hd : decode bytes pc = .ok (.iastore, 1)) (hp : pc + 1 = pc')
    (G : ∀ T' h', Wd p l e R s m args below meth c n0 T' h' cs ss → Wr h h' a k (.int x) → AyI Z h' a .int n (upd f k x) → Go p e below s n0 Q rc rs T' (mkF m pc' Ls st)) : Go p e below s n0 Q rc rs T (mkF m pc Ls (.int x :: .int j :: .ref a :: st)) := by
  obtain ⟨locs, X, N, eT, z⟩ := W; subst hp
  have A0 := A
  obtain ⟨cl, q, r1, r2⟩ := A
  obtain ⟨T', h', X', e', w', st'⟩ := stI X K.1 K.2.1 eT q (own_in hj hk r1) (g := mkF m pc Ls (.int x :: .int j :: .ref a :: st)) rfl rfl (hb K.2.2.1 hd)
  rw [(own_ix hj).2] at w' X'
  exact Go.stp st' (G T' h' ⟨_, X', Fr.snoc X' N ha, e', z⟩ w' (A0.same w'))
theorem g_lastore (K : Cx p s m meth c Z own nm bytes maxL ret) (W : Wd p l e R s m args below meth c n0 T h cs ss) {a : Addr} {n k : Nat} {f : Nat → Int64} {j : Int32} {x : Int64} (A : AyJ Z h a n f) (hj : j.toInt = (k : Int)) (hk : k < n) (ha : n0 ≤ a) (hd : decode bytes pc = .ok (.lastore, 1)) (hp : pc + 1 = pc')
    (G : ∀ T' h', Wd p l e R s m args below meth c n0 T' h' cs ss → Wr h h' a k (.long x) → AyJ Z h' a n (upd f k x) → Go p e below s n0 Q rc rs T' (mkF m pc' Ls st)) : Go p e below s n0 Q rc rs T (mkF m pc Ls (.long x :: .int j :: .ref a :: st)) := by
  obtain ⟨locs, X, N, eT, z⟩ := W; subst hp
  have A0 := A
  obtain ⟨cl, q, r1, r2⟩ := A
  obtain ⟨T', h', X', e', w', st'⟩ := stJ X K.1 K.2.1 eT q (own_in hj hk r1) (g := mkF m pc Ls (.long x :: .int j :: .ref a :: st)) rfl rfl (hb K.2.2.1 hd)
  rw [(own_ix hj).2] at w' X'
  exact Go.stp st' (G T' h' ⟨_, X', Fr.snoc X' N ha, e', z⟩ w' (A0.same w'))
theorem g_newI (K : Cx p s m meth c Z own nm bytes maxL ret) (W : Wd p l e R s m args below meth c n0 T h cs ss) {aty : ArrayType} {ty : FieldType} {j : Int32} {n cap : Nat} (w : (Jvm.Cond.arrayClass ty).before a0 Z = true) (hty : newarray.typeOf aty = ty) (hdf : defaultValue ty = .int 0) (hj : j.toInt = (n : Int)) (hcap : n ≤ cap) (hd : decode bytes pc = .ok (.newarray aty, 2)) (hp : pc + 2 = pc') (hb8 : cap * 8 ≤ 536870912) (hc : cs + 1 ≤ R.cells) (hl : ss + cap ≤ R.slots)
    (G : ∀ T' h' a, Wd p l e R s m args below meth c n0 T' h' (cs + 1) (ss + cap) → Ext h h' → a = h.size → n0 ≤ a → AyI Z h' a ty n (fun _ => 0) → Go p e below s n0 Q rc rs T' (mkF m pc' Ls (.ref a :: st))) : Go p e below s n0 Q rc rs T (mkF m pc Ls (.int j :: st)) := by
  have zz := W.sz
  obtain ⟨locs, X, N, eT, z⟩ := W; subst hp hty
  obtain ⟨T', h', kA, X', e', E, A, q⟩ := newP X K.1 K.2.1 w eT (g := mkF m pc Ls (.int j :: st)) rfl (hb K.2.2.1 hd) rfl (own_ix hj).1 (cap := cap) (by rw [(own_ix hj).2]; exact hcap) hb8 hc hl
  refine Go.stp q (G T' h' _ ⟨_, X', N, e', z⟩ E rfl zz ⟨_, A, by rw [sz_new, (own_ix hj).2], fun i hi => ?_⟩)
  rw [← hdf]
  simp [newA, (own_ix hj).2, hi]
theorem g_newJ (K : Cx p s m meth c Z own nm bytes maxL ret) (W : Wd p l e R s m args below meth c n0 T h cs ss) {j : Int32} {n cap : Nat} (w : (Jvm.Cond.arrayClass .long).before a0 Z = true) (hj : j.toInt = (n : Int)) (hcap : n ≤ cap) (hd : decode bytes pc = .ok (.newarray .long, 2)) (hp : pc + 2 = pc') (hb8 : cap * 8 ≤ 536870912) (hc : cs + 1 ≤ R.cells) (hl : ss + cap ≤ R.slots)
    (G : ∀ T' h' a, Wd p l e R s m args below meth c n0 T' h' (cs + 1) (ss + cap) → Ext h h' → a = h.size → n0 ≤ a → AyJ Z h' a n (fun _ => 0) → Go p e below s n0 Q rc rs T' (mkF m pc' Ls (.ref a :: st))) : Go p e below s n0 Q rc rs T (mkF m pc Ls (.int j :: st)) := by
  have zz := W.sz
  obtain ⟨locs, X, N, eT, z⟩ := W; subst hp
  obtain ⟨T', h', kA, X', e', E, A, q⟩ := newP X K.1 K.2.1 (aty := .long) w eT (g := mkF m pc Ls (.int j :: st)) rfl (hb K.2.2.1 hd) rfl (own_ix hj).1 (cap := cap) (by rw [(own_ix hj).2]; exact hcap) hb8 hc hl
  refine Go.stp q (G T' h' _ ⟨_, X', N, e', z⟩ E rfl zz ⟨_, A, by rw [sz_new, (own_ix hj).2], fun i hi => ?_⟩)
  rw [show (Value.long 0) = defaultValue .long from rfl]
  simp [newA, (own_ix hj).2, hi, newarray.typeOf]
end OwnBase
section OwnObj
variable {p : Program} {l : Launch} {e : Env} {R : Room} {s : State} {m : MethodId} {args : Array Value} {below : List Frame} {meth : Method} {c : Code} {Z : State} {own nm : String} {bytes : ByteArray} {maxL : Nat} {ret : Option FieldType} {T : State} {h : Heap} {cs ss n0 : Nat} {Q : Option Value → Heap → Prop} {rc rs : Nat} {pc pc' pf pt : Nat} {Ls Ls' : Array Slot} {st rest : List Value} {a0 : Array Value}
theorem g_initO (K : Cx p s m meth c Z own nm bytes maxL ret) (W : Wd p l e R s m args below meth c n0 T h cs ss) {idx : Nat} {a : Addr} (w1 : (Jvm.Cond.methodLink own idx Lib.objectInit).before a0 Z = true) (w2 : (Jvm.Cond.instanceMethod Lib.objectInit).before a0 Z = true) (w3 : (Jvm.Cond.code Lib.objectInit object_method_1_code 1 none).before a0 Z = true) (hsz : Ls.size = maxL) (hd : decode bytes pc = .ok (.invokespecial idx, 3)) (hp : pc + 3 = pc') (hf : 1 ≤ R.frames) {wt : Nat} (hwt : (st.map fun v => v.category).sum = wt) (hl : wt + 12 ≤ R.locals)
    (G : ∀ T', Wd p l e R s m args below meth c n0 T' h cs ss → Go p e below s n0 Q rc rs T' (mkF m pc' Ls st)) : Go p e below s n0 Q rc rs T (mkF m pc Ls (.ref a :: st)) := by
  obtain ⟨locs, X, N, eT, z⟩ := W; subst hp hwt
  obtain ⟨T', X', e', q⟩ := initO X K.1 K.2.1 K.2.2.2.2.1 w1 w2 w3 eT (g := mkF m pc Ls (.ref a :: st)) rfl (hsz.trans K.2.2.2.1.symm) rfl (hb K.2.2.1 hd) hf (W := (st.map fun v => v.category).sum) (by show 2 * 0 + _ ≤ _; omega) hl
  exact Go.stp q (G T' ⟨locs, X', N, e', z⟩)
end OwnObj
theorem pn_0 : plainName "com/example/bowerbird/bowerbird/formats/LongIntMapPutIfAbsentPinLaw" = true := by first | (simp [plainName, overriddenIn]; done) | decide +kernel
theorem d1_0 : decode method_2_code 0 = .ok (.lload_n 0, 1) := by decide +kernel
theorem d1_1 : decode method_2_code 1 = .ok (.lload_n 2, 1) := by decide +kernel
theorem d1_2 : decode method_2_code 2 = .ok (.lcmp, 1) := by decide +kernel
theorem d1_3 : decode method_2_code 3 = .ok (.ifCond .ne 6, 3) := by decide +kernel
theorem d1_6 : decode method_2_code 6 = .ok (.iload 4, 2) := by decide +kernel
theorem d1_8 : decode method_2_code 8 = .ok (.ireturn, 1) := by decide +kernel
theorem d1_9 : decode method_2_code 9 = .ok (.lload_n 0, 1) := by decide +kernel
theorem d1_10 : decode method_2_code 10 = .ok (.lload 5, 2) := by decide +kernel
theorem d1_12 : decode method_2_code 12 = .ok (.lcmp, 1) := by decide +kernel
theorem d1_13 : decode method_2_code 13 = .ok (.ifCond .ne 6, 3) := by decide +kernel
theorem d1_16 : decode method_2_code 16 = .ok (.iload 7, 2) := by decide +kernel
theorem d1_18 : decode method_2_code 18 = .ok (.ireturn, 1) := by decide +kernel
theorem d1_19 : decode method_2_code 19 = .ok (.lload_n 0, 1) := by decide +kernel
theorem d1_20 : decode method_2_code 20 = .ok (.lload 8, 2) := by decide +kernel
theorem d1_22 : decode method_2_code 22 = .ok (.lcmp, 1) := by decide +kernel
theorem d1_23 : decode method_2_code 23 = .ok (.ifCond .ne 6, 3) := by decide +kernel
theorem d1_26 : decode method_2_code 26 = .ok (.iload 10, 2) := by decide +kernel
theorem d1_28 : decode method_2_code 28 = .ok (.ireturn, 1) := by decide +kernel
theorem d1_29 : decode method_2_code 29 = .ok (.iconst (-1), 1) := by decide +kernel
theorem d1_30 : decode method_2_code 30 = .ok (.ireturn, 1) := by decide +kernel
theorem pn_1 : plainName "java/util/Arrays" = true := by first | (simp [plainName, overriddenIn]; done) | decide +kernel
theorem d5_0 : decode jdk_65_method_103_code 0 = .ok (.iconst 0, 1) := by decide +kernel
theorem d5_1 : decode jdk_65_method_103_code 1 = .ok (.istore_n 2, 1) := by decide +kernel
theorem d5_2 : decode jdk_65_method_103_code 2 = .ok (.aload_n 0, 1) := by decide +kernel
theorem d5_3 : decode jdk_65_method_103_code 3 = .ok (.arraylength, 1) := by decide +kernel
theorem d5_4 : decode jdk_65_method_103_code 4 = .ok (.istore_n 3, 1) := by decide +kernel
theorem d5_5 : decode jdk_65_method_103_code 5 = .ok (.iload_n 2, 1) := by decide +kernel
theorem d5_6 : decode jdk_65_method_103_code 6 = .ok (.iload_n 3, 1) := by decide +kernel
theorem d5_7 : decode jdk_65_method_103_code 7 = .ok (.if_icmp .ge 13, 3) := by decide +kernel
theorem d5_10 : decode jdk_65_method_103_code 10 = .ok (.aload_n 0, 1) := by decide +kernel
theorem d5_11 : decode jdk_65_method_103_code 11 = .ok (.iload_n 2, 1) := by decide +kernel
theorem d5_12 : decode jdk_65_method_103_code 12 = .ok (.iload_n 1, 1) := by decide +kernel
theorem d5_13 : decode jdk_65_method_103_code 13 = .ok (.iastore, 1) := by decide +kernel
theorem d5_14 : decode jdk_65_method_103_code 14 = .ok (.iinc 2 1, 3) := by decide +kernel
theorem d5_17 : decode jdk_65_method_103_code 17 = .ok (.goto (-12), 3) := by decide +kernel
theorem d5_20 : decode jdk_65_method_103_code 20 = .ok (.return_, 1) := by decide +kernel
theorem pn_2 : plainName "com/example/bowerbird/bowerbird/formats/LongIntMap" = true := by first | (simp [plainName, overriddenIn]; done) | decide +kernel
theorem d4_0 : decode prog_54_method_8_code 0 = .ok (.iload_n 0, 1) := by decide +kernel
theorem d4_1 : decode prog_54_method_8_code 1 = .ok (.newarray .int, 2) := by decide +kernel
theorem d4_3 : decode prog_54_method_8_code 3 = .ok (.astore_n 1, 1) := by decide +kernel
theorem d4_4 : decode prog_54_method_8_code 4 = .ok (.aload_n 1, 1) := by decide +kernel
theorem d4_5 : decode prog_54_method_8_code 5 = .ok (.iconst (-1), 1) := by decide +kernel
theorem d4_6 : decode prog_54_method_8_code 6 = .ok (.invokestatic 46, 3) := by decide +kernel
theorem d4_9 : decode prog_54_method_8_code 9 = .ok (.aload_n 1, 1) := by decide +kernel
theorem d4_10 : decode prog_54_method_8_code 10 = .ok (.areturn, 1) := by decide +kernel
theorem pd_0 : parseMethodDescriptor "([II)V" = some ⟨[(.array .int), .int], none⟩ := by decide +kernel
theorem d2_0 : decode prog_54_method_1_code 0 = .ok (.aload_n 0, 1) := by decide +kernel
theorem d2_1 : decode prog_54_method_1_code 1 = .ok (.invokespecial 1, 3) := by decide +kernel
theorem d2_4 : decode prog_54_method_1_code 4 = .ok (.aload_n 0, 1) := by decide +kernel
theorem d2_5 : decode prog_54_method_1_code 5 = .ok (.bipush 16, 2) := by decide +kernel
theorem d2_7 : decode prog_54_method_1_code 7 = .ok (.newarray .long, 2) := by decide +kernel
theorem d2_9 : decode prog_54_method_1_code 9 = .ok (.putfield 9, 3) := by decide +kernel
theorem d2_12 : decode prog_54_method_1_code 12 = .ok (.aload_n 0, 1) := by decide +kernel
theorem d2_13 : decode prog_54_method_1_code 13 = .ok (.bipush 16, 2) := by decide +kernel
theorem d2_15 : decode prog_54_method_1_code 15 = .ok (.invokestatic 13, 3) := by decide +kernel
theorem d2_18 : decode prog_54_method_1_code 18 = .ok (.putfield 17, 3) := by decide +kernel
theorem d2_21 : decode prog_54_method_1_code 21 = .ok (.return_, 1) := by decide +kernel
theorem pd_1 : parseMethodDescriptor "(I)[I" = some ⟨[.int], some (.array .int)⟩ := by decide +kernel
theorem d8_0 : decode prog_54_method_7_code 0 = .ok (.lload_n 0, 1) := by decide +kernel
theorem d8_1 : decode prog_54_method_7_code 1 = .ok (.ldc2_w 44, 3) := by decide +kernel
theorem d8_4 : decode prog_54_method_7_code 4 = .ok (.lmul, 1) := by decide +kernel
theorem d8_5 : decode prog_54_method_7_code 5 = .ok (.lstore_n 2, 1) := by decide +kernel
theorem d8_6 : decode prog_54_method_7_code 6 = .ok (.lload_n 2, 1) := by decide +kernel
theorem d8_7 : decode prog_54_method_7_code 7 = .ok (.lload_n 2, 1) := by decide +kernel
theorem d8_8 : decode prog_54_method_7_code 8 = .ok (.bipush 32, 2) := by decide +kernel
theorem d8_10 : decode prog_54_method_7_code 10 = .ok (.lushr, 1) := by decide +kernel
theorem d8_11 : decode prog_54_method_7_code 11 = .ok (.lxor, 1) := by decide +kernel
theorem d8_12 : decode prog_54_method_7_code 12 = .ok (.l2i, 1) := by decide +kernel
theorem d8_13 : decode prog_54_method_7_code 13 = .ok (.ireturn, 1) := by decide +kernel
theorem d7_0 : decode prog_54_method_5_code 0 = .ok (.aload_n 0, 1) := by decide +kernel
theorem d7_1 : decode prog_54_method_5_code 1 = .ok (.getfield 9, 3) := by decide +kernel
theorem d7_4 : decode prog_54_method_5_code 4 = .ok (.arraylength, 1) := by decide +kernel
theorem d7_5 : decode prog_54_method_5_code 5 = .ok (.iconst 1, 1) := by decide +kernel
theorem d7_6 : decode prog_54_method_5_code 6 = .ok (.isub, 1) := by decide +kernel
theorem d7_7 : decode prog_54_method_5_code 7 = .ok (.istore_n 3, 1) := by decide +kernel
theorem d7_8 : decode prog_54_method_5_code 8 = .ok (.lload_n 1, 1) := by decide +kernel
theorem d7_9 : decode prog_54_method_5_code 9 = .ok (.invokestatic 41, 3) := by decide +kernel
theorem d7_12 : decode prog_54_method_5_code 12 = .ok (.iload_n 3, 1) := by decide +kernel
theorem d7_13 : decode prog_54_method_5_code 13 = .ok (.iand, 1) := by decide +kernel
theorem d7_14 : decode prog_54_method_5_code 14 = .ok (.istore 4, 2) := by decide +kernel
theorem d7_16 : decode prog_54_method_5_code 16 = .ok (.aload_n 0, 1) := by decide +kernel
theorem d7_17 : decode prog_54_method_5_code 17 = .ok (.getfield 17, 3) := by decide +kernel
theorem d7_20 : decode prog_54_method_5_code 20 = .ok (.iload 4, 2) := by decide +kernel
theorem d7_22 : decode prog_54_method_5_code 22 = .ok (.iaload, 1) := by decide +kernel
theorem d7_23 : decode prog_54_method_5_code 23 = .ok (.iconst (-1), 1) := by decide +kernel
theorem d7_24 : decode prog_54_method_5_code 24 = .ok (.if_icmp .eq 26, 3) := by decide +kernel
theorem d7_27 : decode prog_54_method_5_code 27 = .ok (.aload_n 0, 1) := by decide +kernel
theorem d7_28 : decode prog_54_method_5_code 28 = .ok (.getfield 9, 3) := by decide +kernel
theorem d7_31 : decode prog_54_method_5_code 31 = .ok (.iload 4, 2) := by decide +kernel
theorem d7_33 : decode prog_54_method_5_code 33 = .ok (.laload, 1) := by decide +kernel
theorem d7_34 : decode prog_54_method_5_code 34 = .ok (.lload_n 1, 1) := by decide +kernel
theorem d7_35 : decode prog_54_method_5_code 35 = .ok (.lcmp, 1) := by decide +kernel
theorem d7_36 : decode prog_54_method_5_code 36 = .ok (.ifCond .eq 14, 3) := by decide +kernel
theorem d7_39 : decode prog_54_method_5_code 39 = .ok (.iload 4, 2) := by decide +kernel
theorem d7_41 : decode prog_54_method_5_code 41 = .ok (.iconst 1, 1) := by decide +kernel
theorem d7_42 : decode prog_54_method_5_code 42 = .ok (.iadd, 1) := by decide +kernel
theorem d7_43 : decode prog_54_method_5_code 43 = .ok (.iload_n 3, 1) := by decide +kernel
theorem d7_44 : decode prog_54_method_5_code 44 = .ok (.iand, 1) := by decide +kernel
theorem d7_45 : decode prog_54_method_5_code 45 = .ok (.istore 4, 2) := by decide +kernel
theorem d7_47 : decode prog_54_method_5_code 47 = .ok (.goto (-31), 3) := by decide +kernel
theorem d7_50 : decode prog_54_method_5_code 50 = .ok (.iload 4, 2) := by decide +kernel
theorem d7_52 : decode prog_54_method_5_code 52 = .ok (.ireturn, 1) := by decide +kernel
theorem pd_2 : parseMethodDescriptor "(J)I" = some ⟨[.long], some .int⟩ := by decide +kernel
theorem d6_0 : decode prog_54_method_3_code 0 = .ok (.iload_n 3, 1) := by decide +kernel
theorem d6_1 : decode prog_54_method_3_code 1 = .ok (.ifCond .ge 17, 3) := by decide +kernel
theorem d6_4 : decode prog_54_method_3_code 4 = .ok (.new 25, 3) := by decide +kernel
theorem d6_7 : decode prog_54_method_3_code 7 = .ok (.dup, 1) := by decide +kernel
theorem d6_8 : decode prog_54_method_3_code 8 = .ok (.iload_n 3, 1) := by decide +kernel
theorem d6_14 : decode prog_54_method_3_code 14 = .ok (.invokespecial 31, 3) := by decide +kernel
theorem d6_17 : decode prog_54_method_3_code 17 = .ok (.athrow, 1) := by decide +kernel
theorem d6_18 : decode prog_54_method_3_code 18 = .ok (.aload_n 0, 1) := by decide +kernel
theorem d6_19 : decode prog_54_method_3_code 19 = .ok (.lload_n 1, 1) := by decide +kernel
theorem d6_20 : decode prog_54_method_3_code 20 = .ok (.invokevirtual 21, 3) := by decide +kernel
theorem d6_23 : decode prog_54_method_3_code 23 = .ok (.istore 4, 2) := by decide +kernel
theorem d6_25 : decode prog_54_method_3_code 25 = .ok (.aload_n 0, 1) := by decide +kernel
theorem d6_26 : decode prog_54_method_3_code 26 = .ok (.getfield 17, 3) := by decide +kernel
theorem d6_29 : decode prog_54_method_3_code 29 = .ok (.iload 4, 2) := by decide +kernel
theorem d6_31 : decode prog_54_method_3_code 31 = .ok (.iaload, 1) := by decide +kernel
theorem d6_32 : decode prog_54_method_3_code 32 = .ok (.istore 5, 2) := by decide +kernel
theorem d6_34 : decode prog_54_method_3_code 34 = .ok (.iload 5, 2) := by decide +kernel
theorem d6_36 : decode prog_54_method_3_code 36 = .ok (.iconst (-1), 1) := by decide +kernel
theorem d6_37 : decode prog_54_method_3_code 37 = .ok (.if_icmp .ne 49, 3) := by decide +kernel
theorem d6_40 : decode prog_54_method_3_code 40 = .ok (.aload_n 0, 1) := by decide +kernel
theorem d6_41 : decode prog_54_method_3_code 41 = .ok (.getfield 9, 3) := by decide +kernel
theorem d6_44 : decode prog_54_method_3_code 44 = .ok (.iload 4, 2) := by decide +kernel
theorem d6_46 : decode prog_54_method_3_code 46 = .ok (.lload_n 1, 1) := by decide +kernel
theorem d6_47 : decode prog_54_method_3_code 47 = .ok (.lastore, 1) := by decide +kernel
theorem d6_48 : decode prog_54_method_3_code 48 = .ok (.aload_n 0, 1) := by decide +kernel
theorem d6_49 : decode prog_54_method_3_code 49 = .ok (.getfield 17, 3) := by decide +kernel
theorem d6_52 : decode prog_54_method_3_code 52 = .ok (.iload 4, 2) := by decide +kernel
theorem d6_54 : decode prog_54_method_3_code 54 = .ok (.iload_n 3, 1) := by decide +kernel
theorem d6_55 : decode prog_54_method_3_code 55 = .ok (.iastore, 1) := by decide +kernel
theorem d6_56 : decode prog_54_method_3_code 56 = .ok (.aload_n 0, 1) := by decide +kernel
theorem d6_57 : decode prog_54_method_3_code 57 = .ok (.dup, 1) := by decide +kernel
theorem d6_58 : decode prog_54_method_3_code 58 = .ok (.getfield 34, 3) := by decide +kernel
theorem d6_61 : decode prog_54_method_3_code 61 = .ok (.iconst 1, 1) := by decide +kernel
theorem d6_62 : decode prog_54_method_3_code 62 = .ok (.iadd, 1) := by decide +kernel
theorem d6_63 : decode prog_54_method_3_code 63 = .ok (.putfield 34, 3) := by decide +kernel
theorem d6_66 : decode prog_54_method_3_code 66 = .ok (.aload_n 0, 1) := by decide +kernel
theorem d6_67 : decode prog_54_method_3_code 67 = .ok (.getfield 34, 3) := by decide +kernel
theorem d6_70 : decode prog_54_method_3_code 70 = .ok (.aload_n 0, 1) := by decide +kernel
theorem d6_71 : decode prog_54_method_3_code 71 = .ok (.getfield 9, 3) := by decide +kernel
theorem d6_74 : decode prog_54_method_3_code 74 = .ok (.arraylength, 1) := by decide +kernel
theorem d6_75 : decode prog_54_method_3_code 75 = .ok (.iconst 4, 1) := by decide +kernel
theorem d6_76 : decode prog_54_method_3_code 76 = .ok (.idiv, 1) := by decide +kernel
theorem d6_77 : decode prog_54_method_3_code 77 = .ok (.iconst 3, 1) := by decide +kernel
theorem d6_78 : decode prog_54_method_3_code 78 = .ok (.imul, 1) := by decide +kernel
theorem d6_79 : decode prog_54_method_3_code 79 = .ok (.if_icmp .le 7, 3) := by decide +kernel
theorem d6_82 : decode prog_54_method_3_code 82 = .ok (.aload_n 0, 1) := by decide +kernel
theorem d6_83 : decode prog_54_method_3_code 83 = .ok (.invokevirtual 38, 3) := by decide +kernel
theorem d6_86 : decode prog_54_method_3_code 86 = .ok (.iload 5, 2) := by decide +kernel
theorem d6_88 : decode prog_54_method_3_code 88 = .ok (.ireturn, 1) := by decide +kernel
theorem d9_0 : decode prog_54_method_2_code 0 = .ok (.aload_n 0, 1) := by decide +kernel
theorem d9_1 : decode prog_54_method_2_code 1 = .ok (.getfield 17, 3) := by decide +kernel
theorem d9_4 : decode prog_54_method_2_code 4 = .ok (.aload_n 0, 1) := by decide +kernel
theorem d9_5 : decode prog_54_method_2_code 5 = .ok (.lload_n 1, 1) := by decide +kernel
theorem d9_6 : decode prog_54_method_2_code 6 = .ok (.invokevirtual 21, 3) := by decide +kernel
theorem d9_9 : decode prog_54_method_2_code 9 = .ok (.iaload, 1) := by decide +kernel
theorem d9_10 : decode prog_54_method_2_code 10 = .ok (.ireturn, 1) := by decide +kernel
theorem d10_0 : decode prog_54_method_4_code 0 = .ok (.aload_n 0, 1) := by decide +kernel
theorem d10_1 : decode prog_54_method_4_code 1 = .ok (.getfield 34, 3) := by decide +kernel
theorem d10_4 : decode prog_54_method_4_code 4 = .ok (.ireturn, 1) := by decide +kernel
theorem pd_3 : parseMethodDescriptor "(JJIJIJI)I" = some ⟨[.long, .long, .int, .long, .int, .long, .int], some .int⟩ := by decide +kernel
theorem pd_4 : parseMethodDescriptor "()V" = some ⟨[], none⟩ := by decide +kernel
theorem pd_5 : parseMethodDescriptor "(JI)I" = some ⟨[.long, .int], some .int⟩ := by decide +kernel
theorem pd_6 : parseMethodDescriptor "()I" = some ⟨[], some .int⟩ := by decide +kernel
/-! numbers -/
theorem own_ofNat {n : Nat} (hn : n < 2147483648) : (Int32.ofNat n).toInt = (n : Int) := Int32.toInt_ofNat_of_lt hn
theorem own_and_nat (x : Int32) (m : Nat) (hm : m < 2147483648) : ∃ k : Nat, k ≤ m ∧ (x &&& Int32.ofNat m) = Int32.ofNat k := by
  refine ⟨(x &&& Int32.ofNat m).toBitVec.toNat, ?_, ?_⟩
  · simp only [Int32.toBitVec_and, BitVec.toNat_and]
    refine Nat.le_trans Nat.and_le_right ?_
    show (BitVec.ofNat 32 m).toNat ≤ m
    rw [BitVec.toNat_ofNat]
    exact Nat.mod_le _ _
  · apply Int32.toBitVec_inj.mp
    show _ = BitVec.ofNat 32 _
    rw [BitVec.ofNat_toNat]; simp
theorem own_rem (x : Int32) (n : Nat) (h1 : 0 < n) (h2 : n < 2147483648) : ∃ k : Nat, k < n ∧ ((x &&& (2147483647 : Int32)) % Int32.ofNat n).toInt = (k : Int) := by
  obtain ⟨j, hj, e⟩ := own_and_nat x 2147483647 (by decide)
  refine ⟨j % n, Nat.mod_lt _ h1, ?_⟩
  have e' : (x &&& (2147483647 : Int32)) = Int32.ofNat j := e
  rw [e', Int32.toInt_mod, own_ofNat (by omega), own_ofNat h2]
  exact (Int.ofNat_tmod j n).symm

theorem own_one (i : Nat) : Int32.ofNat i + (1 : Int32) = Int32.ofNat (i + 1) := (Int32.ofNat_add i 1).symm
theorem own_lt {i n : Nat} (hi : i < 2147483648) (hn : n < 2147483648) : Int32.ofNat i < Int32.ofNat n ↔ i < n := by
  rw [Int32.lt_iff_toInt_lt, own_ofNat hi, own_ofNat hn]; omega
theorem own_next {t : Nat} (ht : t < 16) : (Int32.ofNat t + (1 : Int32)) &&& (15 : Int32) = Int32.ofNat ((t + 1) % 16) := by
  have q : ∀ n : Fin 16, (Int32.ofNat n.val + (1 : Int32)) &&& (15 : Int32) = Int32.ofNat ((n.val + 1) % 16) := by decide +kernel
  exact q ⟨t, ht⟩
theorem own_nonneg (x : Int32) : ¬ (x &&& 2147483647) < 0 := by
  obtain ⟨k, hk, e⟩ := own_and_nat x 2147483647 (by decide)
  rw [show (x &&& 2147483647) = Int32.ofNat k from e, Int32.lt_iff_toInt_lt, own_ofNat (by omega), show (0 : Int32).toInt = 0 from rfl]
  omega
theorem own_shr3 (x : Int32) : ¬ (x.toUInt32 >>> ((3 : Int32) &&& 31).toUInt32).toInt32 < 0 := by
  rw [Int32.lt_iff_toInt_lt, show (0 : Int32).toInt = 0 from rfl]
  have e : ((x.toUInt32 >>> ((3 : Int32) &&& 31).toUInt32).toInt32).toBitVec = x.toBitVec >>> 3 := by
    have r : ((3 : Int32) &&& 31).toUInt32.toNat % 32 = 3 := by decide
    apply BitVec.eq_of_toNat_eq
    show (x.toUInt32 >>> ((3 : Int32) &&& 31).toUInt32).toNat = _
    rw [UInt32.toNat_shiftRight, r, BitVec.toNat_ushiftRight]
    rfl
  show ¬ ((x.toUInt32 >>> ((3 : Int32) &&& 31).toUInt32).toInt32).toBitVec.toInt < 0
  have b : (x.toBitVec >>> 3).toNat < 536870912 := by
    rw [BitVec.toNat_ushiftRight, Nat.shiftRight_eq_div_pow]
    have := x.toBitVec.isLt
    omega
  rw [e, BitVec.toInt_eq_toNat_of_lt (by omega)]
  omega
theorem own_nm1 {x : Int32} (q : ¬ x < 0) : x ≠ -1 := fun e => q (by rw [e]; decide)
/-- the bits of a key, mixed -/
def own_sp (key : Int64) : Int32 := ((key * (-7046029254386353131 : Int64)) ^^^ (((key * (-7046029254386353131 : Int64)).toUInt64 >>> ((32 : Int32) &&& 0x3f).toInt64.toUInt64).toInt64)).toInt32
def own_h (key : Int64) : Nat := (own_sp key &&& 15).toBitVec.toNat
theorem own_h_lt (key : Int64) : own_h key < 16 := by
  unfold own_h
  simp only [Int32.toBitVec_and, BitVec.toNat_and]
  exact Nat.lt_succ_of_le (Nat.le_trans Nat.and_le_right (by decide))
theorem own_h_eq (key : Int64) : own_sp key &&& 15 = Int32.ofNat (own_h key) := by
  apply Int32.toBitVec_inj.mp
  show _ = BitVec.ofNat 32 _
  unfold own_h
  rw [BitVec.ofNat_toNat]; simp
/-- the slot at which the search for a key ends -/
def Fnd (K : Nat → Int64) (V : Nat → Int32) (key : Int64) (t : Nat) : Prop := ∃ d, d < 16 ∧ t = (own_h key + d) % 16 ∧ (∀ e, e < d → V ((own_h key + e) % 16) ≠ -1 ∧ K ((own_h key + e) % 16) ≠ key) ∧ (V t = -1 ∨ K t = key)
theorem Fnd.lt {K : Nat → Int64} {V : Nat → Int32} {key : Int64} {t : Nat} (F : Fnd K V key t) : t < 16 := by
  obtain ⟨d, _, rfl, _⟩ := F
  exact Nat.mod_lt _ (by decide)
theorem Fnd.uniq {K : Nat → Int64} {V : Nat → Int32} {key : Int64} {t t' : Nat} (F : Fnd K V key t) (G : Fnd K V key t') : t = t' := by
  obtain ⟨d, _, e1, h1, r1⟩ := F
  obtain ⟨d', _, e2, h2, r2⟩ := G
  rcases Nat.lt_trichotomy d d' with q | q | q
  · have z := h2 d q
    rw [← e1] at z
    exact absurd r1 (fun y => y.elim z.1 z.2)
  · rw [e1, e2, q]
  · have z := h1 d' q
    rw [← e2] at z
    exact absurd r2 (fun y => y.elim z.1 z.2)
theorem own_least {P : Nat → Prop} : ∀ n, P n → ∃ m, m ≤ n ∧ P m ∧ ∀ e, e < m → ¬ P e := by
  intro n
  induction n using Nat.strongRecOn with
  | ind n ih =>
    intro hn
    by_cases q : ∃ e, e < n ∧ P e
    · obtain ⟨e, h1, h2⟩ := q
      obtain ⟨m, g1, g2, g3⟩ := ih e h1 h2
      exact ⟨m, by omega, g2, g3⟩
    · exact ⟨n, Nat.le_refl _, hn, fun e he hp => q ⟨e, he, hp⟩⟩
theorem own_off {h q : Nat} (hh : h < 16) (hq : q < 16) : ∃ e, e < 16 ∧ (h + e) % 16 = q := ⟨(q + 16 - h) % 16, by omega, by omega⟩
theorem Fnd.ex (K : Nat → Int64) (V : Nat → Int32) (key : Int64) {q : Nat} (hq : q < 16) (hf : V q = -1) : ∃ t, Fnd K V key t := by
  obtain ⟨e, he, hh⟩ := own_off (own_h_lt key) hq
  obtain ⟨m, g1, g2, g3⟩ := own_least (P := fun e => V ((own_h key + e) % 16) = -1 ∨ K ((own_h key + e) % 16) = key) e (by rw [hh]; exact Or.inl hf)
  exact ⟨_, m, by omega, rfl, fun e he => ⟨fun y => g3 e he (Or.inl y), fun y => g3 e he (Or.inr y)⟩, g2⟩
/-- the two arrays hold the map M (-1: no value) -/
def Rep (K : Nat → Int64) (V : Nat → Int32) (M : Int64 → Int32) : Prop := (∀ q, q < 16 → V q ≠ -1 → Fnd K V (K q) q) ∧ ∀ key t, Fnd K V key t → V t = M key
def updM (M : Int64 → Int32) (key : Int64) (w : Int32) : Int64 → Int32 := fun k => if k = key then w else M k
theorem Rep.put {K : Nat → Int64} {V : Nat → Int32} {M : Int64 → Int32} (R : Rep K V M) {key : Int64} {t : Nat} (F : Fnd K V key t) (hf : V t = -1) (w : Int32) : Rep (upd K t key) (upd V t w) (updM M key w) := by
  have keepF : ∀ {k2 : Int64} {q : Nat}, Fnd K V k2 q → q ≠ t → Fnd (upd K t key) (upd V t w) k2 q := by
    intro k2 q G hq
    obtain ⟨d, g1, g2, g3, g4⟩ := G
    refine ⟨d, g1, g2, fun e he => ?_, ?_⟩
    · have z := g3 e he
      have hne : (own_h k2 + e) % 16 ≠ t := fun y => z.1 (by rw [y]; exact hf)
      rw [upd_ne _ _ hne, upd_ne _ _ hne]; exact z
    · rw [upd_ne _ _ hq, upd_ne _ _ hq]; exact g4
  have newF : Fnd (upd K t key) (upd V t w) key t := by
    obtain ⟨d, g1, g2, g3, g4⟩ := F
    refine ⟨d, g1, g2, fun e he => ?_, Or.inr (upd_same _ _ _)⟩
    have z := g3 e he
    have hne : (own_h key + e) % 16 ≠ t := fun y => z.1 (by rw [y]; exact hf)
    rw [upd_ne _ _ hne, upd_ne _ _ hne]; exact z
  refine ⟨fun q hq hv => ?_, fun k2 t2 G => ?_⟩
  · by_cases e : q = t
    · subst e; rw [upd_same]; exact newF
    · rw [upd_ne _ _ e] at hv ⊢
      exact keepF (R.1 q hq hv) e
  · unfold updM
    by_cases ek : k2 = key
    · subst ek
      rw [if_pos rfl, G.uniq newF, upd_same]
    · rw [if_neg ek]
      obtain ⟨t0, F0⟩ := Fnd.ex K V k2 F.lt hf
      have r0 := R.2 k2 t0 F0
      by_cases e0 : t0 = t
      · subst e0
        rw [← r0, hf]
        obtain ⟨d, g1, g2, g3, g4⟩ := G
        have hlt : t2 < 16 := by rw [g2]; exact Nat.mod_lt _ (by decide)
        rcases g4 with g4 | g4
        · exact g4
        · have hne : t2 ≠ t0 := fun y => by rw [y, upd_same] at g4; exact ek g4.symm
          rw [upd_ne _ _ hne] at g4 ⊢
          by_cases hv : V t2 = -1
          · exact hv
          · have z := R.1 t2 hlt hv
            rw [g4] at z
            exact absurd (z.uniq F0) hne
      · rw [G.uniq (keepF F0 e0), upd_ne _ _ e0, r0]
def Used (V : Nat → Int32) (l : List Nat) : Prop := ∀ q, q < 16 → V q ≠ -1 → q ∈ l
theorem Used.put {V : Nat → Int32} {l : List Nat} (U : Used V l) (t : Nat) (w : Int32) : Used (upd V t w) (t :: l) := fun q hq hv => by
  by_cases e : q = t
  · subst e; exact List.mem_cons_self ..
  · rw [upd_ne _ _ e] at hv
    exact List.mem_cons_of_mem _ (U q hq hv)
theorem Used.free {V : Nat → Int32} {l : List Nat} (U : Used V l) (hl : l.length ≤ 3) : ∃ q, q < 16 ∧ V q = -1 := by
  apply Classical.byContradiction
  intro hn
  have a : ∀ q, q < 16 → q ∈ l := fun q hq => U q hq (fun y => hn ⟨q, hq, y⟩)
  have a0 := a 0 (by decide); have a1 := a 1 (by decide); have a2 := a 2 (by decide); have a3 := a 3 (by decide)
  match l, hl with
  | [], _ => simp at a0
  | [x], _ => simp at a0 a1; omega
  | [x, y], _ => simp at a0 a1 a2; omega
  | [x, y, z], _ => simp at a0 a1 a2 a3; omega
def own_put (M : Int64 → Int32) (key : Int64) (w : Int32) : Int64 → Int32 := if M key = -1 then updM M key w else M
def own_n (M : Int64 → Int32) (key : Int64) (n : Nat) : Nat := if M key = -1 then n + 1 else n
def own_M0 : Int64 → Int32 := fun _ => -1
theorem own_M1 (k1 : Int64) (w1 : Int32) : own_put own_M0 k1 w1 = updM own_M0 k1 w1 := if_pos rfl
theorem Rep.none {K : Nat → Int64} {V : Nat → Int32} (hv : ∀ q, q < 16 → V q = -1) : Rep K V own_M0 := ⟨fun q hq y => absurd (hv q hq) y, fun key t F => hv t F.lt⟩
section Fin
variable {k1 k2 k3 : Int64} {w1 w2 w3 val2 val3 exp2 exp3 s1 s2 : Int32} (h1 : w1 ≠ -1) (h2 : w2 ≠ -1) (h3 : w3 ≠ -1)
  (e2 : val2 = if k2 = k1 then w1 else w2) (e3 : val3 = if k3 = k1 then w1 else if k3 = k2 then val2 else w3)
theorem own_r2 (h1 : w1 ≠ -1) (x2 : exp2 = if k2 = k1 then w1 else -1) : own_put own_M0 k1 w1 k2 = exp2 := by
  rw [own_M1, x2]; rfl
theorem own_M2 (h1 : w1 ≠ -1) : own_put (own_put own_M0 k1 w1) k2 w2 = fun k => if k2 = k1 then (if k = k1 then w1 else -1) else if k = k2 then w2 else if k = k1 then w1 else -1 := by
  funext k
  rw [own_M1]
  unfold own_put updM own_M0
  by_cases q : k2 = k1
  · rw [if_pos q, if_pos q, if_neg h1]
  · rw [if_neg q, if_neg q, if_pos rfl]
theorem own_r3 (h1 : w1 ≠ -1) (e2 : val2 = if k2 = k1 then w1 else w2) (e3 : val3 = if k3 = k1 then w1 else if k3 = k2 then val2 else w3) (x3 : exp3 = if k3 = k1 ∨ k3 = k2 then val3 else -1) : own_put (own_put own_M0 k1 w1) k2 w2 k3 = exp3 := by
  rw [own_M2 h1]
  subst e2 e3 x3
  by_cases q : k2 = k1 <;> by_cases r : k3 = k1 <;> by_cases t : k3 = k2 <;> simp_all
theorem own_M3 (h1 : w1 ≠ -1) (h2 : w2 ≠ -1) : own_put (own_put (own_put own_M0 k1 w1) k2 w2) k3 w3 = fun k => if k = k1 then w1 else if k = k2 then w2 else if k = k3 then w3 else -1 := by
  funext k
  rw [own_M2 h1]
  unfold own_put updM
  by_cases q : k2 = k1 <;> by_cases r : k3 = k1 <;> by_cases t : k3 = k2 <;> by_cases u : k = k1 <;> by_cases v : k = k2 <;> by_cases y : k = k3 <;> simp_all
theorem own_g1 (h1 : w1 ≠ -1) (h2 : w2 ≠ -1) : own_put (own_put (own_put own_M0 k1 w1) k2 w2) k3 w3 k1 = w1 := by
  rw [own_M3 h1 h2]; simp
theorem own_g2 (h1 : w1 ≠ -1) (h2 : w2 ≠ -1) (e2 : val2 = if k2 = k1 then w1 else w2) : own_put (own_put (own_put own_M0 k1 w1) k2 w2) k3 w3 k2 = val2 := by
  rw [own_M3 h1 h2, e2]; simp
theorem own_g3 (h1 : w1 ≠ -1) (h2 : w2 ≠ -1) (e2 : val2 = if k2 = k1 then w1 else w2) (e3 : val3 = if k3 = k1 then w1 else if k3 = k2 then val2 else w3) : own_put (own_put (own_put own_M0 k1 w1) k2 w2) k3 w3 k3 = val3 := by
  rw [own_M3 h1 h2, e3, e2]
  by_cases r : k3 = k1 <;> by_cases t : k3 = k2 <;> simp_all
theorem own_gp (h1 : w1 ≠ -1) (h2 : w2 ≠ -1) (e2 : val2 = if k2 = k1 then w1 else w2) (e3 : val3 = if k3 = k1 then w1 else if k3 = k2 then val2 else w3) (p : Int64) : own_put (own_put (own_put own_M0 k1 w1) k2 w2) k3 w3 p = if p = k1 then w1 else if p = k2 then val2 else if p = k3 then val3 else -1 := by
  rw [own_M3 h1 h2, e3, e2]
  by_cases r : p = k1 <;> by_cases t : p = k2 <;> by_cases u : p = k3 <;> simp_all
theorem own_sz (h1 : w1 ≠ -1) (h2 : w2 ≠ -1) (z1 : s1 = if k2 = k1 then 0 else 1) (z2 : s2 = if k3 = k1 ∨ k3 = k2 then 0 else 1) : Int32.ofNat (own_n (own_put (own_put own_M0 k1 w1) k2 w2) k3 (own_n (own_put own_M0 k1 w1) k2 (own_n own_M0 k1 0))) = (1 : Int32) + s1 + s2 := by
  rw [own_M2 h1, own_M1]
  unfold own_n
  rw [show own_M0 k1 = -1 from rfl, if_pos rfl]
  unfold updM own_M0
  subst z1 z2
  by_cases q : k2 = k1 <;> by_cases r : k3 = k1 <;> by_cases t : k3 = k2 <;> simp_all <;> decide
theorem own_nle (M : Int64 → Int32) (key : Int64) (n : Nat) : own_n M key n ≤ n + 1 := by
  unfold own_n; split <;> omega
end Fin

/-- a LongIntMap that holds the map M in n entries -/
def MapP (Z : State) (n0 : Nat) (h : Heap) (o : Addr) (M : Int64 → Int32) (n : Nat) : Prop := Exa Z h o "com/example/bowerbird/bowerbird/formats/LongIntMap" ∧ n0 ≤ o ∧ ∃ (ka va : Addr) (Kf : Nat → Int64) (Vf : Nat → Int32), n0 ≤ ka ∧ n0 ≤ va ∧ o ≠ ka ∧ o ≠ va ∧ ka ≠ va ∧ Fld Z h o "com/example/bowerbird/bowerbird/formats/LongIntMap" "keys" "[J" (.ref ka) ∧ Fld Z h o "com/example/bowerbird/bowerbird/formats/LongIntMap" "values" "[I" (.ref va) ∧ Fld Z h o "com/example/bowerbird/bowerbird/formats/LongIntMap" "size" "I" (.int (Int32.ofNat n)) ∧ AyJ Z h ka 16 Kf ∧ AyI Z h va .int 16 Vf ∧ Rep Kf Vf M ∧ ∃ l : List Nat, l.length = n ∧ Used Vf l
def Q_c1 (Z : State) (n0 : Nat) (h0 : Heap) (pk : Int64) (k1 : Int64) (v1 : Int32) (k2 : Int64) (v2 : Int32) (k3 : Int64) (v3 : Int32) : Option Value → Heap → Prop := fun v h => v = some (.int (if pk = k1 then v1 else if pk = k2 then v2 else if pk = k3 then v3 else -1)) ∧ h0 = h
abbrev rm_c1 : Room := { frames := 0, cells := 0, slots := 0, locals := 0 }
set_option maxHeartbeats 40000000 in
theorem c1 (l : Launch) (Z : State) (a0 : Array Value) (hw : ∀ d ∈ tables_1, d.before a0 Z = true) (n0 : Nat) (h0 : Heap) (hn : n0 ≤ h0.size) (pk : Int64) (k1 : Int64) (v1 : Int32) (k2 : Int64) (v2 : Int32) (k3 : Int64) (v3 : Int32) :
    Mt l Z (⟨"com/example/bowerbird/bowerbird/formats/LongIntMapPutIfAbsentPinLaw", "lookup", "(JJIJIJI)I"⟩ : MethodName) method_2_code 11 (some .int) rm_c1 n0 #[(.long pk), (.long k1), (.int v1), (.long k2), (.int v2), (.long k3), (.int v3)] h0 (Q_c1 Z n0 h0 pk k1 v1 k2 v2 k3 v3) := by
  refine met_of (plainFor_of_name pn_0) (Ls := #[.val (.long pk), .second, .val (.long k1), .second, .val (.int v1), .val (.long k2), .second, .val (.int v2), .val (.long k3), .second, .val (.int v3)]) (fun m => by first | (simp [entryFrame, mkF, argsToLocals, Value.category]; done) | rfl) hn ?_
  intro p e s m below meth c T K W
  replace K : Cx p s m meth c Z "com/example/bowerbird/bowerbird/formats/LongIntMapPutIfAbsentPinLaw" "lookup" method_2_code 11 (some .int) := K
  generalize eA : (#[(.long pk), (.long k1), (.int v1), (.long k2), (.int v2), (.long k3), (.int v3)] : Array Value) = args at W
  show Go p e below s n0 (Q_c1 Z n0 h0 pk k1 v1 k2 v2 k3 v3) 0 0 T (mkF m 0 #[.val (.long pk), .second, .val (.long k1), .second, .val (.int v1), .val (.long k2), .second, .val (.int v2), .val (.long k3), .second, .val (.int v3)] [])
  refine g_lloadN K W d1_0 rfl (pc' := 1) rfl ?_
  refine g_lloadN K W d1_1 rfl (pc' := 2) rfl ?_
  refine g_lcmp_ne K W d1_2 (pc1 := 3) rfl d1_3 (pt := 9) rfl (pf := 6) rfl (fun hc2 => ?_) (fun hc2 => ?_)
  · refine g_iload K W d1_6 rfl (pc' := 8) rfl ?_
    exact g_retI K W d1_8 (by decide) (by decide) ⟨by rw [if_pos hc2], rfl⟩
  · refine g_lloadN K W d1_9 rfl (pc' := 10) rfl ?_
    refine g_lload K W d1_10 rfl (pc' := 12) rfl ?_
    refine g_lcmp_ne K W d1_12 (pc1 := 13) rfl d1_13 (pt := 19) rfl (pf := 16) rfl (fun hc12 => ?_) (fun hc12 => ?_)
    · refine g_iload K W d1_16 rfl (pc' := 18) rfl ?_
      exact g_retI K W d1_18 (by decide) (by decide) ⟨by rw [if_neg hc2, if_pos hc12], rfl⟩
    · refine g_lloadN K W d1_19 rfl (pc' := 20) rfl ?_
      refine g_lload K W d1_20 rfl (pc' := 22) rfl ?_
      refine g_lcmp_ne K W d1_22 (pc1 := 23) rfl d1_23 (pt := 29) rfl (pf := 26) rfl (fun hc22 => ?_) (fun hc22 => ?_)
      · refine g_iload K W d1_26 rfl (pc' := 28) rfl ?_
        exact g_retI K W d1_28 (by decide) (by decide) ⟨by rw [if_neg hc2, if_neg hc12, if_pos hc22], rfl⟩
      · refine g_iconst K W (v := (-1 : Int32)) d1_29 rfl (pc' := 30) rfl ?_
        exact g_retI K W d1_30 (by decide) (by decide) ⟨by rw [if_neg hc2, if_neg hc12, if_neg hc22], rfl⟩
def Q_c5 (Z : State) (n0 : Nat) (h0 : Heap) (o0 : Addr) (x1 : Int32) (f : Nat → Int32) : Option Value → Heap → Prop := fun v h => v = none ∧ Keep h0 h [o0] ∧ ∃ g : Nat → Int32, AyI Z h o0 .int 16 g ∧ ∀ j, j < 16 → g j = x1
abbrev rm_c5 : Room := { frames := 0, cells := 0, slots := 0, locals := 0 }
set_option maxHeartbeats 40000000 in
theorem c5 (l : Launch) (Z : State) (a0 : Array Value) (hw : ∀ d ∈ tables_1, d.before a0 Z = true) (n0 : Nat) (h0 : Heap) (hn : n0 ≤ h0.size) (o0 : Addr) (x1 : Int32) (f : Nat → Int32) (A_o0 : AyI Z h0 o0 .int 16 f) (ge_o0 : n0 ≤ o0) :
    Mt l Z (⟨"java/util/Arrays", "fill", "([II)V"⟩ : MethodName) jdk_65_method_103_code 4 none rm_c5 n0 #[(.ref o0), (.int x1)] h0 (Q_c5 Z n0 h0 o0 x1 f) := by
  refine met_of (plainFor_of_name pn_1) (Ls := #[.val (.ref o0), .val (.int x1), .unset, .unset]) (fun m => by first | (simp [entryFrame, mkF, argsToLocals, Value.category]; done) | rfl) hn ?_
  intro p e s m below meth c T K W
  replace K : Cx p s m meth c Z "java/util/Arrays" "fill" jdk_65_method_103_code 4 none := K
  generalize eA : (#[(.ref o0), (.int x1)] : Array Value) = args at W
  show Go p e below s n0 (Q_c5 Z n0 h0 o0 x1 f) 0 0 T (mkF m 0 #[.val (.ref o0), .val (.int x1), .unset, .unset] [])
  have kp := Keep.refl h0 [o0]
  refine g_iconst K W (v := (0 : Int32)) d5_0 rfl (pc' := 1) rfl ?_
  refine g_istoreN K W d5_1 (Ls' := #[.val (.ref o0), .val (.int x1), .val (.int (0 : Int32)), .unset]) rfl (pc' := 2) rfl ?_
  refine g_aloadN K W d5_2 rfl rfl (pc' := 3) rfl ?_
  refine g_alenI K W A_o0 (v := (16 : Int32)) rfl d5_3 (pc' := 4) rfl ?_
  refine g_istoreN K W d5_4 (Ls' := #[.val (.ref o0), .val (.int x1), .val (.int (0 : Int32)), .val (.int (16 : Int32))]) rfl (pc' := 5) rfl ?_
  have loop : ∀ (k : Nat) (i : Nat) (f : Nat → Int32) (T : State) (h : Heap), 16 - i = k → i ≤ 16 → (∀ j, j < i → f j = x1) → AyI Z h o0 .int 16 f → Keep h0 h [o0] → Wd p l e rm_c5 s m args below meth c n0 T h 0 0 → Go p e below s n0 (Q_c5 Z n0 h0 o0 x1 f) 0 0 T (mkF m 5 #[.val (.ref o0), .val (.int x1), .val (.int (Int32.ofNat i)), .val (.int (16 : Int32))] []) := by
    intro k
    induction k using Nat.strongRecOn with
    | ind k ih =>
      intro i f T h hk hi hf A_o0 kp W
      refine g_iloadN K W d5_5 rfl (pc' := 6) rfl ?_
      refine g_iloadN K W d5_6 rfl (pc' := 7) rfl ?_
      refine g_icmp_ge K W d5_7 (pt := 20) rfl (pf := 10) rfl (fun hc7 => ?_) (fun hc7 => ?_)
      · refine g_aloadN K W d5_10 rfl rfl (pc' := 11) rfl ?_
        refine g_iloadN K W d5_11 rfl (pc' := 12) rfl ?_
        refine g_iloadN K W d5_12 rfl (pc' := 13) rfl ?_
        refine g_iastore K W A_o0 (k := i) (own_ofNat (by omega)) ((own_lt (i := i) (n := 16) (by omega) (by decide)).mp hc7) ge_o0 d5_13 (pc' := 14) rfl (fun T h W w A_o0 => ?_)
        have kp := kp.wr w (Or.inl (List.mem_of_getElem? (i := 0) rfl))
        refine g_iinc K W d5_14 rfl (Ls' := #[.val (.ref o0), .val (.int x1), .val (.int ((Int32.ofNat i) + (1 : Int32))), .val (.int (16 : Int32))]) rfl (pc' := 17) rfl ?_
        refine g_goto K W d5_17 (pt := 5) rfl ?_
        rw [own_one]
        exact ih (16 - (i + 1)) (by have := ((own_lt (i := i) (n := 16) (by omega) (by decide)).mp hc7); omega) (i + 1) (upd f i x1) T h rfl (by have := ((own_lt (i := i) (n := 16) (by omega) (by decide)).mp hc7); omega) (fun j hj => if q : j = i then by rw [q, upd_same] else by rw [upd_ne _ _ q]; exact hf j (by omega)) A_o0 kp W
      · exact g_ret0 K W d5_20 (by decide) (by decide) ⟨rfl, kp, f, A_o0, fun j hj => hf j (by have := (not_congr (own_lt (i := i) (n := 16) (by omega) (by decide))).mp hc7; omega)⟩
  exact loop 16 0 _ T h0 rfl (Nat.zero_le _) (fun j hj => absurd hj (Nat.not_lt_zero _)) A_o0 kp W
def Q_c4 (Z : State) (n0 : Nat) (h0 : Heap) (x0 : Int32) : Option Value → Heap → Prop := fun v h => ∃ (a : Addr) (g : Nat → Int32), v = some (.ref a) ∧ n0 ≤ a ∧ h0.size ≤ a ∧ Keep h0 h [] ∧ AyI Z h a .int 16 g ∧ ∀ j, j < 16 → g j = -1
abbrev rm_c4 : Room := { frames := 1, cells := 1, slots := 16, locals := 15 }
set_option maxHeartbeats 40000000 in
theorem c4 (l : Launch) (Z : State) (a0 : Array Value) (hw : ∀ d ∈ tables_1, d.before a0 Z = true) (n0 : Nat) (h0 : Heap) (hn : n0 ≤ h0.size) (x0 : Int32) (ex0 : x0 = 16) :
    Mt l Z (⟨"com/example/bowerbird/bowerbird/formats/LongIntMap", "free", "(I)[I"⟩ : MethodName) prog_54_method_8_code 2 (some (.array .int)) rm_c4 n0 #[(.int x0)] h0 (Q_c4 Z n0 h0 x0) := by
  refine met_of (plainFor_of_name pn_2) (Ls := #[.val (.int x0), .unset]) (fun m => by first | (simp [entryFrame, mkF, argsToLocals, Value.category]; done) | rfl) hn ?_
  intro p e s m below meth c T K W
  replace K : Cx p s m meth c Z "com/example/bowerbird/bowerbird/formats/LongIntMap" "free" prog_54_method_8_code 2 (some (.array .int)) := K
  generalize eA : (#[(.int x0)] : Array Value) = args at W
  show Go p e below s n0 (Q_c4 Z n0 h0 x0) 1 16 T (mkF m 0 #[.val (.int x0), .unset] [])
  have kp := Keep.refl h0 []
  subst ex0
  show Go p e below s n0 (Q_c4 Z n0 h0 (16 : Int32)) 1 16 T (mkF m 0 #[.val (.int (16 : Int32)), .unset] [])
  refine g_iloadN K W d4_0 rfl (pc' := 1) rfl ?_
  refine g_newI K W (ty := .int) (n := 16) (cap := 16) (hw _ (List.mem_of_getElem? (i := 20) rfl)) rfl rfl rfl (Nat.le_refl _) d4_1 (pc' := 3) rfl (by decide) (by decide) (by decide) (fun T h a1 W E ha_a1 ge_a1 A_a1 => ?_)
  have sz_a1 : h0.size ≤ a1 := by rw [ha_a1]; exact kp.1
  have kp := kp.ext E
  refine g_astoreN K W d4_3 rfl (Ls' := #[.val (.int (16 : Int32)), .val (.ref a1)]) rfl (pc' := 4) rfl ?_
  refine g_aloadN K W d4_4 rfl rfl (pc' := 5) rfl ?_
  refine g_iconst K W (v := (-1 : Int32)) d4_5 rfl (pc' := 6) rfl ?_
  refine g_callS (c5 l Z a0 hw n0 _ W.sz a1 (-1 : Int32) _ A_a1 ge_a1) K W (hw _ (List.mem_of_getElem? (i := 21) rfl)) (hw _ (List.mem_of_getElem? (i := 22) rfl)) (hw _ (List.mem_of_getElem? (i := 23) rfl)) (hw _ (List.mem_of_getElem? (i := 24) rfl)) (by decide) (lenOf pd_0 rfl) d4_6 (pc' := 9) rfl (argsL := [(.ref a1), (.int (-1 : Int32))]) (rest := []) rfl rfl (by decide) (wt := 0) rfl (by decide) (by decide) (by decide) ?_
  rintro T h _ W ⟨rfl, kq, g, A_a1, hg⟩
  show Go p e below s n0 (Q_c4 Z n0 h0 (16 : Int32)) 1 16 T (mkF m 9 #[.val (.int (16 : Int32)), .val (.ref a1)] [])
  have kp := kp.trans kq (allS (Or.inr sz_a1) all0)
  refine g_aloadN K W d4_9 rfl rfl (pc' := 10) rfl ?_
  exact g_retA K W rfl rfl rfl d4_10 (by decide) (by decide) ⟨a1, g, rfl, ge_a1, sz_a1, kp, A_a1, hg⟩
def Q_c2 (Z : State) (n0 : Nat) (h0 : Heap) (o0 : Addr) : Option Value → Heap → Prop := fun v h => v = none ∧ MapP Z n0 h o0 own_M0 0
abbrev rm_c2 : Room := { frames := 2, cells := 2, slots := 32, locals := 29 }
set_option maxHeartbeats 40000000 in
theorem c2 (l : Launch) (Z : State) (a0 : Array Value) (hw : ∀ d ∈ tables_1, d.before a0 Z = true) (n0 : Nat) (h0 : Heap) (hn : n0 ≤ h0.size) (o0 : Addr) (X_o0 : Exa Z h0 o0 "com/example/bowerbird/bowerbird/formats/LongIntMap") (F_o0_keys : Fld Z h0 o0 "com/example/bowerbird/bowerbird/formats/LongIntMap" "keys" "[J" .null) (F_o0_values : Fld Z h0 o0 "com/example/bowerbird/bowerbird/formats/LongIntMap" "values" "[I" .null) (F_o0_size : Fld Z h0 o0 "com/example/bowerbird/bowerbird/formats/LongIntMap" "size" "I" (.int (0 : Int32))) (ge_o0 : n0 ≤ o0) :
    Mt l Z (⟨"com/example/bowerbird/bowerbird/formats/LongIntMap", "<init>", "()V"⟩ : MethodName) prog_54_method_1_code 1 none rm_c2 n0 #[(.ref o0)] h0 (Q_c2 Z n0 h0 o0) := by
  refine met_of (plainFor_of_name pn_2) (Ls := #[.val (.ref o0)]) (fun m => by first | (simp [entryFrame, mkF, argsToLocals, Value.category]; done) | rfl) hn ?_
  intro p e s m below meth c T K W
  replace K : Cx p s m meth c Z "com/example/bowerbird/bowerbird/formats/LongIntMap" "<init>" prog_54_method_1_code 1 none := K
  generalize eA : (#[(.ref o0)] : Array Value) = args at W
  show Go p e below s n0 (Q_c2 Z n0 h0 o0) 2 32 T (mkF m 0 #[.val (.ref o0)] [])
  refine g_aloadN K W d2_0 rfl rfl (pc' := 1) rfl ?_
  refine g_initO K W (hw _ (List.mem_of_getElem? (i := 11) rfl)) (hw _ (List.mem_of_getElem? (i := 12) rfl)) (hw _ (List.mem_of_getElem? (i := 13) rfl)) rfl d2_1 (pc' := 4) rfl (by decide) (wt := 0) rfl (by decide) (fun T W => ?_)
  refine g_aloadN K W d2_4 rfl rfl (pc' := 5) rfl ?_
  refine g_bipush K W (v := (16 : Int32)) d2_5 rfl (pc' := 7) rfl ?_
  refine g_newJ K W (n := 16) (cap := 16) (hw _ (List.mem_of_getElem? (i := 14) rfl)) rfl (Nat.le_refl _) d2_7 (pc' := 9) rfl (by decide) (by decide) (by decide) (fun T h a7 W E ha_a7 ge_a7 A_a7 => ?_)
  have ne_o0_a7 : o0 ≠ a7 := fun q => by have r := X_o0.lt; rw [q, ha_a7] at r; exact Nat.lt_irrefl _ r
  have ne_a7_o0 : a7 ≠ o0 := Ne.symm ne_o0_a7
  have X_o0 := X_o0.ext E
  have F_o0_keys := F_o0_keys.ext E
  have F_o0_values := F_o0_values.ext E
  have F_o0_size := F_o0_size.ext E
  refine g_putF K W (host := "") (Or.inl (hw _ (List.mem_of_getElem? (i := 15) rfl))) Via.refl F_o0_keys X_o0 (Or.inl (hw _ (List.mem_of_getElem? (i := 16) rfl))) (hw _ (List.mem_of_getElem? (i := 6) rfl)) (ty := (.array .long)) (by decide) rfl rfl ge_o0 d2_9 (pc' := 12) rfl (fun T h W w => ?_)
  have X_o0 := X_o0.wr w
  have F_o0_values := F_o0_values.other w (Or.inr (slot_ne (a0 := a0) (C := "com/example/bowerbird/bowerbird/formats/LongIntMap") (Or.inl (hw _ (List.mem_of_getElem? (i := 26) rfl))) (Or.inl (hw _ (List.mem_of_getElem? (i := 16) rfl))) (by decide) (t := (.array .int)) (t' := (.array .long)) (by decide) (by decide)))
  have F_o0_size := F_o0_size.other w (Or.inr (slot_ne (a0 := a0) (C := "com/example/bowerbird/bowerbird/formats/LongIntMap") (Or.inl (hw _ (List.mem_of_getElem? (i := 41) rfl))) (Or.inl (hw _ (List.mem_of_getElem? (i := 16) rfl))) (by decide) (t := .int) (t' := (.array .long)) (by decide) (by decide)))
  have A_a7 := A_a7.other w ne_a7_o0
  have F_o0_keys := F_o0_keys.same w
  refine g_aloadN K W d2_12 rfl rfl (pc' := 13) rfl ?_
  refine g_bipush K W (v := (16 : Int32)) d2_13 rfl (pc' := 15) rfl ?_
  have lt_o0 := X_o0.lt
  have lt_a7 := A_a7.lt
  refine g_callS (c4 l Z a0 hw n0 _ W.sz (16 : Int32) rfl) K W (hw _ (List.mem_of_getElem? (i := 17) rfl)) (hw _ (List.mem_of_getElem? (i := 18) rfl)) (hw _ (List.mem_of_getElem? (i := 7) rfl)) (hw _ (List.mem_of_getElem? (i := 19) rfl)) (by decide) (lenOf pd_1 rfl) d2_15 (pc' := 18) rfl (argsL := [(.int (16 : Int32))]) (rest := [(.ref o0)]) rfl rfl (by decide) (wt := 1) rfl (by decide) (by decide) (by decide) ?_
  rintro T h _ W ⟨va, g, rfl, ge_va, sz_va, kq, A_va, hg⟩
  show Go p e below s n0 (Q_c2 Z n0 h0 o0) 2 32 T (mkF m 18 #[.val (.ref o0)] [(.ref va), (.ref o0)])
  have X_o0 := X_o0.keep kq
  have F_o0_keys := F_o0_keys.keep kq nin0
  have F_o0_values := F_o0_values.keep kq nin0
  have F_o0_size := F_o0_size.keep kq nin0
  have A_a7 := A_a7.keep kq nin0
  have ne_o0_va : o0 ≠ va := Nat.ne_of_lt (Nat.lt_of_lt_of_le lt_o0 sz_va)
  have ne_va_o0 := Ne.symm ne_o0_va
  have ne_a7_va : a7 ≠ va := Nat.ne_of_lt (Nat.lt_of_lt_of_le lt_a7 sz_va)
  have ne_va_a7 := Ne.symm ne_a7_va
  refine g_putF K W (host := "") (Or.inl (hw _ (List.mem_of_getElem? (i := 25) rfl))) Via.refl F_o0_values X_o0 (Or.inl (hw _ (List.mem_of_getElem? (i := 26) rfl))) (hw _ (List.mem_of_getElem? (i := 6) rfl)) (ty := (.array .int)) (by decide) rfl rfl ge_o0 d2_18 (pc' := 21) rfl (fun T h W w => ?_)
  have X_o0 := X_o0.wr w
  have F_o0_keys := F_o0_keys.other w (Or.inr (slot_ne (a0 := a0) (C := "com/example/bowerbird/bowerbird/formats/LongIntMap") (Or.inl (hw _ (List.mem_of_getElem? (i := 16) rfl))) (Or.inl (hw _ (List.mem_of_getElem? (i := 26) rfl))) (by decide) (t := (.array .long)) (t' := (.array .int)) (by decide) (by decide)))
  have F_o0_size := F_o0_size.other w (Or.inr (slot_ne (a0 := a0) (C := "com/example/bowerbird/bowerbird/formats/LongIntMap") (Or.inl (hw _ (List.mem_of_getElem? (i := 41) rfl))) (Or.inl (hw _ (List.mem_of_getElem? (i := 26) rfl))) (by decide) (t := .int) (t' := (.array .int)) (by decide) (by decide)))
  have A_a7 := A_a7.other w ne_a7_o0
  have A_va := A_va.other w ne_va_o0
  have F_o0_values := F_o0_values.same w
  exact g_ret0 K W d2_21 (by decide) (by decide) ⟨rfl, X_o0, ge_o0, a7, va, _, g, ge_a7, ge_va, ne_o0_a7, ne_o0_va, ne_a7_va, F_o0_keys, F_o0_values, F_o0_size, A_a7, A_va, Rep.none hg, [], rfl, fun q hq hv => absurd (hg q hq) hv⟩
def Q_c8 (Z : State) (n0 : Nat) (h0 : Heap) (y0 : Int64) : Option Value → Heap → Prop := fun v h => v = some (.int (own_sp y0)) ∧ h0 = h
abbrev rm_c8 : Room := { frames := 0, cells := 0, slots := 0, locals := 0 }
set_option maxHeartbeats 40000000 in
theorem c8 (l : Launch) (Z : State) (a0 : Array Value) (hw : ∀ d ∈ tables_1, d.before a0 Z = true) (n0 : Nat) (h0 : Heap) (hn : n0 ≤ h0.size) (y0 : Int64) :
    Mt l Z (⟨"com/example/bowerbird/bowerbird/formats/LongIntMap", "spread", "(J)I"⟩ : MethodName) prog_54_method_7_code 4 (some .int) rm_c8 n0 #[(.long y0)] h0 (Q_c8 Z n0 h0 y0) := by
  refine met_of (plainFor_of_name pn_2) (Ls := #[.val (.long y0), .second, .unset, .unset]) (fun m => by first | (simp [entryFrame, mkF, argsToLocals, Value.category]; done) | rfl) hn ?_
  intro p e s m below meth c T K W
  replace K : Cx p s m meth c Z "com/example/bowerbird/bowerbird/formats/LongIntMap" "spread" prog_54_method_7_code 4 (some .int) := K
  generalize eA : (#[(.long y0)] : Array Value) = args at W
  show Go p e below s n0 (Q_c8 Z n0 h0 y0) 0 0 T (mkF m 0 #[.val (.long y0), .second, .unset, .unset] [])
  refine g_lloadN K W d8_0 rfl (pc' := 1) rfl ?_
  refine g_ldc2 K W (v := (-7046029254386353131 : Int64)) (hw _ (List.mem_of_getElem? (i := 39) rfl)) d8_1 (pc' := 4) rfl ?_
  refine g_lmul K W d8_4 (pc' := 5) rfl ?_
  refine g_lstoreN K W d8_5 (Ls' := #[.val (.long y0), .second, .val (.long (y0 * (-7046029254386353131 : Int64))), .second]) rfl (pc' := 6) rfl ?_
  refine g_lloadN K W d8_6 rfl (pc' := 7) rfl ?_
  refine g_lloadN K W d8_7 rfl (pc' := 8) rfl ?_
  refine g_bipush K W (v := (32 : Int32)) d8_8 rfl (pc' := 10) rfl ?_
  refine g_lushr K W d8_10 (pc' := 11) rfl ?_
  refine g_lxor K W d8_11 (pc' := 12) rfl ?_
  refine g_l2i K W d8_12 (pc' := 13) rfl ?_
  exact g_retI K W d8_13 (by decide) (by decide) ⟨rfl, rfl⟩
def Q_c7 (Z : State) (n0 : Nat) (h0 : Heap) (o0 : Addr) (y1 : Int64) (ka : Addr) (va : Addr) (Kf : Nat → Int64) (Vf : Nat → Int32) : Option Value → Heap → Prop := fun v h => ∃ t : Nat, v = some (.int (Int32.ofNat t)) ∧ h0 = h ∧ Fnd Kf Vf y1 t
abbrev rm_c7 : Room := { frames := 1, cells := 0, slots := 0, locals := 15 }
set_option maxHeartbeats 40000000 in
theorem c7 (l : Launch) (Z : State) (a0 : Array Value) (hw : ∀ d ∈ tables_1, d.before a0 Z = true) (n0 : Nat) (h0 : Heap) (hn : n0 ≤ h0.size) (o0 : Addr) (y1 : Int64) (ka : Addr) (va : Addr) (Kf : Nat → Int64) (Vf : Nat → Int32) (X_o0 : Exa Z h0 o0 "com/example/bowerbird/bowerbird/formats/LongIntMap") (F_o0_keys : Fld Z h0 o0 "com/example/bowerbird/bowerbird/formats/LongIntMap" "keys" "[J" (.ref ka)) (F_o0_values : Fld Z h0 o0 "com/example/bowerbird/bowerbird/formats/LongIntMap" "values" "[I" (.ref va)) (A_ka : AyJ Z h0 ka 16 Kf) (A_va : AyI Z h0 va .int 16 Vf) (hfree : ∃ q, q < 16 ∧ Vf q = -1) :
    Mt l Z (⟨"com/example/bowerbird/bowerbird/formats/LongIntMap", "slotOf", "(J)I"⟩ : MethodName) prog_54_method_5_code 5 (some .int) rm_c7 n0 #[(.ref o0), (.long y1)] h0 (Q_c7 Z n0 h0 o0 y1 ka va Kf Vf) := by
  refine met_of (plainFor_of_name pn_2) (Ls := #[.val (.ref o0), .val (.long y1), .second, .unset, .unset]) (fun m => by first | (simp [entryFrame, mkF, argsToLocals, Value.category]; done) | rfl) hn ?_
  intro p e s m below meth c T K W
  replace K : Cx p s m meth c Z "com/example/bowerbird/bowerbird/formats/LongIntMap" "slotOf" prog_54_method_5_code 5 (some .int) := K
  generalize eA : (#[(.ref o0), (.long y1)] : Array Value) = args at W
  show Go p e below s n0 (Q_c7 Z n0 h0 o0 y1 ka va Kf Vf) 0 0 T (mkF m 0 #[.val (.ref o0), .val (.long y1), .second, .unset, .unset] [])
  refine g_aloadN K W d7_0 rfl rfl (pc' := 1) rfl ?_
  refine g_getF K W (host := "") (Or.inl (hw _ (List.mem_of_getElem? (i := 15) rfl))) Via.refl F_o0_keys d7_1 (pc' := 4) rfl (fun T W => ?_)
  refine g_alenJ K W A_ka (v := (16 : Int32)) rfl d7_4 (pc' := 5) rfl ?_
  refine g_iconst K W (v := (1 : Int32)) d7_5 rfl (pc' := 6) rfl ?_
  refine g_isub K W d7_6 (pc' := 7) rfl ?_
  rw [show (16 : Int32) - (1 : Int32) = 15 from rfl]
  refine g_istoreN K W d7_7 (Ls' := #[.val (.ref o0), .val (.long y1), .second, .val (.int (15 : Int32)), .unset]) rfl (pc' := 8) rfl ?_
  refine g_lloadN K W d7_8 rfl (pc' := 9) rfl ?_
  refine g_callS (c8 l Z a0 hw n0 _ W.sz y1) K W (hw _ (List.mem_of_getElem? (i := 36) rfl)) (hw _ (List.mem_of_getElem? (i := 37) rfl)) (hw _ (List.mem_of_getElem? (i := 7) rfl)) (hw _ (List.mem_of_getElem? (i := 38) rfl)) (by decide) (lenOf pd_2 rfl) d7_9 (pc' := 12) rfl (argsL := [(.long y1)]) (rest := []) rfl rfl (by decide) (wt := 0) rfl (by decide) (by decide) (by decide) ?_
  rintro T _ _ W ⟨rfl, rfl⟩
  show Go p e below s n0 (Q_c7 Z n0 h0 o0 y1 ka va Kf Vf) 0 0 T (mkF m 12 #[.val (.ref o0), .val (.long y1), .second, .val (.int (15 : Int32)), .unset] [(.int (own_sp y1))])
  refine g_iloadN K W d7_12 rfl (pc' := 13) rfl ?_
  refine g_iand K W d7_13 (pc' := 14) rfl ?_
  rw [own_h_eq]
  refine g_istore K W d7_14 (Ls' := #[.val (.ref o0), .val (.long y1), .second, .val (.int (15 : Int32)), .val (.int (Int32.ofNat (own_h y1)))]) rfl (pc' := 16) rfl ?_
  have loop : ∀ (k : Nat) (d : Nat) (T : State), 16 - d = k → d < 16 → (∀ e, e < d → Vf ((own_h y1 + e) % 16) ≠ -1 ∧ Kf ((own_h y1 + e) % 16) ≠ y1) → Wd p l e rm_c7 s m args below meth c n0 T h0 0 0 → Go p e below s n0 (Q_c7 Z n0 h0 o0 y1 ka va Kf Vf) 0 0 T (mkF m 16 #[.val (.ref o0), .val (.long y1), .second, .val (.int (15 : Int32)), .val (.int (Int32.ofNat ((own_h y1 + d) % 16)))] []) := by
    intro k
    induction k using Nat.strongRecOn with
    | ind k ih =>
      intro d T hk hd hpath  W
      refine g_aloadN K W d7_16 rfl rfl (pc' := 17) rfl ?_
      refine g_getF K W (host := "") (Or.inl (hw _ (List.mem_of_getElem? (i := 25) rfl))) Via.refl F_o0_values d7_17 (pc' := 20) rfl (fun T W => ?_)
      refine g_iload K W d7_20 rfl (pc' := 22) rfl ?_
      refine g_iaload K W A_va (k := ((own_h y1 + d) % 16)) (own_ofNat (by omega)) (Nat.mod_lt _ (by decide)) (v := (Vf ((own_h y1 + d) % 16))) rfl d7_22 (pc' := 23) rfl ?_
      refine g_iconst K W (v := (-1 : Int32)) d7_23 rfl (pc' := 24) rfl ?_
      refine g_icmp_eq K W d7_24 (pt := 50) rfl (pf := 27) rfl (fun hc24 => ?_) (fun hc24 => ?_)
      · refine g_iload K W d7_50 rfl (pc' := 52) rfl ?_
        exact g_retI K W d7_52 (by decide) (by decide) ⟨_, rfl, rfl, d, hd, rfl, hpath, Or.inl hc24⟩
      · refine g_aloadN K W d7_27 rfl rfl (pc' := 28) rfl ?_
        refine g_getF K W (host := "") (Or.inl (hw _ (List.mem_of_getElem? (i := 15) rfl))) Via.refl F_o0_keys d7_28 (pc' := 31) rfl (fun T W => ?_)
        refine g_iload K W d7_31 rfl (pc' := 33) rfl ?_
        refine g_laload K W A_ka (k := ((own_h y1 + d) % 16)) (own_ofNat (by omega)) (Nat.mod_lt _ (by decide)) (v := (Kf ((own_h y1 + d) % 16))) rfl d7_33 (pc' := 34) rfl ?_
        refine g_lloadN K W d7_34 rfl (pc' := 35) rfl ?_
        refine g_lcmp_eq K W d7_35 (pc1 := 36) rfl d7_36 (pt := 50) rfl (pf := 39) rfl (fun hc35 => ?_) (fun hc35 => ?_)
        · refine g_iload K W d7_50 rfl (pc' := 52) rfl ?_
          exact g_retI K W d7_52 (by decide) (by decide) ⟨_, rfl, rfl, d, hd, rfl, hpath, Or.inr hc35⟩
        · refine g_iload K W d7_39 rfl (pc' := 41) rfl ?_
          refine g_iconst K W (v := (1 : Int32)) d7_41 rfl (pc' := 42) rfl ?_
          refine g_iadd K W d7_42 (pc' := 43) rfl ?_
          refine g_iloadN K W d7_43 rfl (pc' := 44) rfl ?_
          refine g_iand K W d7_44 (pc' := 45) rfl ?_
          refine g_istore K W d7_45 (Ls' := #[.val (.ref o0), .val (.long y1), .second, .val (.int (15 : Int32)), .val (.int (((Int32.ofNat ((own_h y1 + d) % 16)) + (1 : Int32)) &&& (15 : Int32)))]) rfl (pc' := 47) rfl ?_
          refine g_goto K W d7_47 (pt := 16) rfl ?_
          rw [own_next (Nat.mod_lt _ (by decide)), show ((own_h y1 + d) % 16 + 1) % 16 = (own_h y1 + (d + 1)) % 16 by omega]
          have hpath' : ∀ e, e < d + 1 → Vf ((own_h y1 + e) % 16) ≠ -1 ∧ Kf ((own_h y1 + e) % 16) ≠ y1 := fun e he => if q : e = d then q ▸ ⟨hc24, hc35⟩ else hpath e (by omega)
          have hd15 : d + 1 < 16 := by
            obtain ⟨q, hq, hfq⟩ := hfree
            obtain ⟨e, he, hh⟩ := own_off (own_h_lt y1) hq
            rcases Nat.lt_or_ge (d + 1) 16 with z | z
            · exact z
            · exact absurd hfq (hh ▸ (hpath' e (by omega)).1)
          exact ih (16 - (d + 1)) (by omega) (d + 1) T rfl hd15 hpath' W
  have fin := loop 16 0 T rfl (by decide) (fun e he => absurd he (Nat.not_lt_zero _)) W
  rw [show (own_h y1 + 0) % 16 = own_h y1 by have := own_h_lt y1; omega] at fin
  exact fin
def Q_c6 (Z : State) (n0 : Nat) (h0 : Heap) (o0 : Addr) (y1 : Int64) (wv : Int32) (M : Int64 → Int32) (n : Nat) : Option Value → Heap → Prop := fun v h => v = some (.int (M y1)) ∧ MapP Z n0 h o0 (own_put M y1 wv) (own_n M y1 n)
abbrev rm_c6 : Room := { frames := 2, cells := 0, slots := 0, locals := 31 }
set_option maxHeartbeats 40000000 in
theorem c6 (l : Launch) (Z : State) (a0 : Array Value) (hw : ∀ d ∈ tables_1, d.before a0 Z = true) (n0 : Nat) (h0 : Heap) (hn : n0 ≤ h0.size) (o0 : Addr) (y1 : Int64) (wv : Int32) (M : Int64 → Int32) (n : Nat) (P : MapP Z n0 h0 o0 M n) (hn2 : n ≤ 2) (hwv : ¬ wv < 0) :
    Mt l Z (⟨"com/example/bowerbird/bowerbird/formats/LongIntMap", "putIfAbsent", "(JI)I"⟩ : MethodName) prog_54_method_3_code 6 (some .int) rm_c6 n0 #[(.ref o0), (.long y1), (.int wv)] h0 (Q_c6 Z n0 h0 o0 y1 wv M n) := by
  refine met_of (plainFor_of_name pn_2) (Ls := #[.val (.ref o0), .val (.long y1), .second, .val (.int wv), .unset, .unset]) (fun m => by first | (simp [entryFrame, mkF, argsToLocals, Value.category]; done) | rfl) hn ?_
  intro p e s m below meth c T K W
  replace K : Cx p s m meth c Z "com/example/bowerbird/bowerbird/formats/LongIntMap" "putIfAbsent" prog_54_method_3_code 6 (some .int) := K
  generalize eA : (#[(.ref o0), (.long y1), (.int wv)] : Array Value) = args at W
  show Go p e below s n0 (Q_c6 Z n0 h0 o0 y1 wv M n) 0 0 T (mkF m 0 #[.val (.ref o0), .val (.long y1), .second, .val (.int wv), .unset, .unset] [])
  obtain ⟨X_o0, ge_o0, ka, va, Kf, Vf, ge_ka, ge_va, ne_o0_ka, ne_o0_va, ne_ka_va, F_o0_keys, F_o0_values, F_o0_size, A_ka, A_va, hR, l0, hl0, hU⟩ := P
  have ne_ka_o0 := Ne.symm ne_o0_ka
  have ne_va_o0 := Ne.symm ne_o0_va
  have ne_va_ka := Ne.symm ne_ka_va
  refine g_iloadN K W d6_0 rfl (pc' := 1) rfl ?_
  refine g_if_ge K W d6_1 (pt := 18) rfl (pf := 4) rfl (fun hc1 => absurd hc1 hwv) (fun hc1 => ?_)
  refine g_aloadN K W d6_18 rfl rfl (pc' := 19) rfl ?_
  refine g_lloadN K W d6_19 rfl (pc' := 20) rfl ?_
  refine g_callP (c7 l Z a0 hw n0 _ W.sz o0 y1 ka va Kf Vf X_o0 F_o0_keys F_o0_values A_ka A_va (hU.free (by omega))) K W X_o0.cell (hw _ (List.mem_of_getElem? (i := 32) rfl)) (hw _ (List.mem_of_getElem? (i := 33) rfl)) (hw _ (List.mem_of_getElem? (i := 6) rfl)) (hw _ (List.mem_of_getElem? (i := 34) rfl)) (hw _ (List.mem_of_getElem? (i := 7) rfl)) (hw _ (List.mem_of_getElem? (i := 35) rfl)) (by decide) (lenOf pd_2 rfl) d6_20 (pc' := 23) rfl (argsL := [(.long y1)]) (rest := []) rfl rfl (by decide) (wt := 0) rfl (by decide) (by decide) (by decide) ?_
  rintro T _ _ W ⟨t, rfl, rfl, hF⟩
  show Go p e below s n0 (Q_c6 Z n0 h0 o0 y1 wv M n) 0 0 T (mkF m 23 #[.val (.ref o0), .val (.long y1), .second, .val (.int wv), .unset, .unset] [(.int (Int32.ofNat t))])
  refine g_istore K W d6_23 (Ls' := #[.val (.ref o0), .val (.long y1), .second, .val (.int wv), .val (.int (Int32.ofNat t)), .unset]) rfl (pc' := 25) rfl ?_
  refine g_aloadN K W d6_25 rfl rfl (pc' := 26) rfl ?_
  refine g_getF K W (host := "") (Or.inl (hw _ (List.mem_of_getElem? (i := 25) rfl))) Via.refl F_o0_values d6_26 (pc' := 29) rfl (fun T W => ?_)
  refine g_iload K W d6_29 rfl (pc' := 31) rfl ?_
  refine g_iaload K W A_va (k := t) (own_ofNat (by have := hF.lt; omega)) hF.lt (v := (Vf t)) rfl d6_31 (pc' := 32) rfl ?_
  refine g_istore K W d6_32 (Ls' := #[.val (.ref o0), .val (.long y1), .second, .val (.int wv), .val (.int (Int32.ofNat t)), .val (.int (Vf t))]) rfl (pc' := 34) rfl ?_
  refine g_iload K W d6_34 rfl (pc' := 36) rfl ?_
  refine g_iconst K W (v := (-1 : Int32)) d6_36 rfl (pc' := 37) rfl ?_
  refine g_icmp_ne K W d6_37 (pt := 86) rfl (pf := 40) rfl (fun hc37 => ?_) (fun hc37 => ?_)
  · refine g_aloadN K W d6_40 rfl rfl (pc' := 41) rfl ?_
    refine g_getF K W (host := "") (Or.inl (hw _ (List.mem_of_getElem? (i := 15) rfl))) Via.refl F_o0_keys d6_41 (pc' := 44) rfl (fun T W => ?_)
    refine g_iload K W d6_44 rfl (pc' := 46) rfl ?_
    refine g_lloadN K W d6_46 rfl (pc' := 47) rfl ?_
    refine g_lastore K W A_ka (k := t) (own_ofNat (by have := hF.lt; omega)) hF.lt ge_ka d6_47 (pc' := 48) rfl (fun T h W w A_ka => ?_)
    have X_o0 := X_o0.wr w
    have F_o0_keys := F_o0_keys.other w (Or.inl ne_o0_ka)
    have F_o0_values := F_o0_values.other w (Or.inl ne_o0_ka)
    have F_o0_size := F_o0_size.other w (Or.inl ne_o0_ka)
    have A_va := A_va.other w ne_va_ka
    refine g_aloadN K W d6_48 rfl rfl (pc' := 49) rfl ?_
    refine g_getF K W (host := "") (Or.inl (hw _ (List.mem_of_getElem? (i := 25) rfl))) Via.refl F_o0_values d6_49 (pc' := 52) rfl (fun T W => ?_)
    refine g_iload K W d6_52 rfl (pc' := 54) rfl ?_
    refine g_iloadN K W d6_54 rfl (pc' := 55) rfl ?_
    refine g_iastore K W A_va (k := t) (own_ofNat (by have := hF.lt; omega)) hF.lt ge_va d6_55 (pc' := 56) rfl (fun T h W w A_va => ?_)
    have X_o0 := X_o0.wr w
    have F_o0_keys := F_o0_keys.other w (Or.inl ne_o0_va)
    have F_o0_values := F_o0_values.other w (Or.inl ne_o0_va)
    have F_o0_size := F_o0_size.other w (Or.inl ne_o0_va)
    have A_ka := A_ka.other w ne_ka_va
    refine g_aloadN K W d6_56 rfl rfl (pc' := 57) rfl ?_
    refine g_dup K W d6_57 rfl (pc' := 58) rfl ?_
    refine g_getF K W (host := "") (Or.inl (hw _ (List.mem_of_getElem? (i := 40) rfl))) Via.refl F_o0_size d6_58 (pc' := 61) rfl (fun T W => ?_)
    refine g_iconst K W (v := (1 : Int32)) d6_61 rfl (pc' := 62) rfl ?_
    refine g_iadd K W d6_62 (pc' := 63) rfl ?_
    rw [own_one]
    refine g_putF K W (host := "") (Or.inl (hw _ (List.mem_of_getElem? (i := 40) rfl))) Via.refl F_o0_size X_o0 (Or.inl (hw _ (List.mem_of_getElem? (i := 41) rfl))) (hw _ (List.mem_of_getElem? (i := 6) rfl)) (ty := .int) (by decide) rfl rfl ge_o0 d6_63 (pc' := 66) rfl (fun T h W w => ?_)
    have X_o0 := X_o0.wr w
    have F_o0_keys := F_o0_keys.other w (Or.inr (slot_ne (a0 := a0) (C := "com/example/bowerbird/bowerbird/formats/LongIntMap") (Or.inl (hw _ (List.mem_of_getElem? (i := 16) rfl))) (Or.inl (hw _ (List.mem_of_getElem? (i := 41) rfl))) (by decide) (t := (.array .long)) (t' := .int) (by decide) (by decide)))
    have F_o0_values := F_o0_values.other w (Or.inr (slot_ne (a0 := a0) (C := "com/example/bowerbird/bowerbird/formats/LongIntMap") (Or.inl (hw _ (List.mem_of_getElem? (i := 26) rfl))) (Or.inl (hw _ (List.mem_of_getElem? (i := 41) rfl))) (by decide) (t := (.array .int)) (t' := .int) (by decide) (by decide)))
    have A_ka := A_ka.other w ne_ka_o0
    have A_va := A_va.other w ne_va_o0
    have F_o0_size := F_o0_size.same w
    refine g_aloadN K W d6_66 rfl rfl (pc' := 67) rfl ?_
    refine g_getF K W (host := "") (Or.inl (hw _ (List.mem_of_getElem? (i := 40) rfl))) Via.refl F_o0_size d6_67 (pc' := 70) rfl (fun T W => ?_)
    refine g_aloadN K W d6_70 rfl rfl (pc' := 71) rfl ?_
    refine g_getF K W (host := "") (Or.inl (hw _ (List.mem_of_getElem? (i := 15) rfl))) Via.refl F_o0_keys d6_71 (pc' := 74) rfl (fun T W => ?_)
    refine g_alenJ K W A_ka (v := (16 : Int32)) rfl d6_74 (pc' := 75) rfl ?_
    refine g_iconst K W (v := (4 : Int32)) d6_75 rfl (pc' := 76) rfl ?_
    refine g_idiv K W (by decide) d6_76 (pc' := 77) rfl ?_
    refine g_iconst K W (v := (3 : Int32)) d6_77 rfl (pc' := 78) rfl ?_
    refine g_imul K W d6_78 (pc' := 79) rfl ?_
    refine g_icmp_le K W d6_79 (pt := 86) rfl (pf := 82) rfl (fun hc79 => absurd hc79 (by rw [show (16 : Int32) / 4 * 3 = Int32.ofNat 12 from rfl, own_lt (by decide) (by omega)]; omega)) (fun hc79 => ?_)
    refine g_iload K W d6_86 rfl (pc' := 88) rfl ?_
    have hM := hR.2 _ _ hF
    have hM1 : M y1 = -1 := hM.symm.trans hc37
    have hP : own_put M y1 wv = updM M y1 wv := if_pos hM1
    have hN : own_n M y1 n = n + 1 := if_pos hM1
    exact g_retI K W d6_88 (by decide) (by decide) ⟨by rw [hM], by rw [hP, hN]; exact ⟨X_o0, ge_o0, ka, va, _, _, ge_ka, ge_va, ne_o0_ka, ne_o0_va, ne_ka_va, F_o0_keys, F_o0_values, F_o0_size, A_ka, A_va, hR.put hF hc37 wv, t :: l0, by rw [List.length_cons, hl0], hU.put t wv⟩⟩
  · refine g_iload K W d6_86 rfl (pc' := 88) rfl ?_
    have hM := hR.2 _ _ hF
    have hM1 : ¬ M y1 = -1 := fun z => hc37 (hM.trans z)
    have hP : own_put M y1 wv = M := if_neg hM1
    have hN : own_n M y1 n = n := if_neg hM1
    exact g_retI K W d6_88 (by decide) (by decide) ⟨by rw [hM], by rw [hP, hN]; exact ⟨X_o0, ge_o0, ka, va, _, _, ge_ka, ge_va, ne_o0_ka, ne_o0_va, ne_ka_va, F_o0_keys, F_o0_values, F_o0_size, A_ka, A_va, hR, l0, hl0, hU⟩⟩
def Q_c9 (Z : State) (n0 : Nat) (h0 : Heap) (o0 : Addr) (y1 : Int64) (M : Int64 → Int32) (n : Nat) : Option Value → Heap → Prop := fun v h => v = some (.int (M y1)) ∧ h0 = h
abbrev rm_c9 : Room := { frames := 2, cells := 0, slots := 0, locals := 32 }
set_option maxHeartbeats 40000000 in
theorem c9 (l : Launch) (Z : State) (a0 : Array Value) (hw : ∀ d ∈ tables_1, d.before a0 Z = true) (n0 : Nat) (h0 : Heap) (hn : n0 ≤ h0.size) (o0 : Addr) (y1 : Int64) (M : Int64 → Int32) (n : Nat) (P : MapP Z n0 h0 o0 M n) (hn3 : n ≤ 3) :
    Mt l Z (⟨"com/example/bowerbird/bowerbird/formats/LongIntMap", "get", "(J)I"⟩ : MethodName) prog_54_method_2_code 3 (some .int) rm_c9 n0 #[(.ref o0), (.long y1)] h0 (Q_c9 Z n0 h0 o0 y1 M n) := by
  refine met_of (plainFor_of_name pn_2) (Ls := #[.val (.ref o0), .val (.long y1), .second]) (fun m => by first | (simp [entryFrame, mkF, argsToLocals, Value.category]; done) | rfl) hn ?_
  intro p e s m below meth c T K W
  replace K : Cx p s m meth c Z "com/example/bowerbird/bowerbird/formats/LongIntMap" "get" prog_54_method_2_code 3 (some .int) := K
  generalize eA : (#[(.ref o0), (.long y1)] : Array Value) = args at W
  show Go p e below s n0 (Q_c9 Z n0 h0 o0 y1 M n) 0 0 T (mkF m 0 #[.val (.ref o0), .val (.long y1), .second] [])
  obtain ⟨X_o0, ge_o0, ka, va, Kf, Vf, ge_ka, ge_va, ne_o0_ka, ne_o0_va, ne_ka_va, F_o0_keys, F_o0_values, F_o0_size, A_ka, A_va, hR, l0, hl0, hU⟩ := P
  have ne_ka_o0 := Ne.symm ne_o0_ka
  have ne_va_o0 := Ne.symm ne_o0_va
  have ne_va_ka := Ne.symm ne_ka_va
  refine g_aloadN K W d9_0 rfl rfl (pc' := 1) rfl ?_
  refine g_getF K W (host := "") (Or.inl (hw _ (List.mem_of_getElem? (i := 25) rfl))) Via.refl F_o0_values d9_1 (pc' := 4) rfl (fun T W => ?_)
  refine g_aloadN K W d9_4 rfl rfl (pc' := 5) rfl ?_
  refine g_lloadN K W d9_5 rfl (pc' := 6) rfl ?_
  refine g_callP (c7 l Z a0 hw n0 _ W.sz o0 y1 ka va Kf Vf X_o0 F_o0_keys F_o0_values A_ka A_va (hU.free (by omega))) K W X_o0.cell (hw _ (List.mem_of_getElem? (i := 32) rfl)) (hw _ (List.mem_of_getElem? (i := 33) rfl)) (hw _ (List.mem_of_getElem? (i := 6) rfl)) (hw _ (List.mem_of_getElem? (i := 34) rfl)) (hw _ (List.mem_of_getElem? (i := 7) rfl)) (hw _ (List.mem_of_getElem? (i := 35) rfl)) (by decide) (lenOf pd_2 rfl) d9_6 (pc' := 9) rfl (argsL := [(.long y1)]) (rest := [(.ref va)]) rfl rfl (by decide) (wt := 1) rfl (by decide) (by decide) (by decide) ?_
  rintro T _ _ W ⟨t, rfl, rfl, hF⟩
  show Go p e below s n0 (Q_c9 Z n0 h0 o0 y1 M n) 0 0 T (mkF m 9 #[.val (.ref o0), .val (.long y1), .second] [(.int (Int32.ofNat t)), (.ref va)])
  refine g_iaload K W A_va (k := t) (own_ofNat (by have := hF.lt; omega)) hF.lt (v := (Vf t)) rfl d9_9 (pc' := 10) rfl ?_
  exact g_retI K W d9_10 (by decide) (by decide) ⟨by rw [hR.2 _ _ hF], rfl⟩
def Q_c10 (Z : State) (n0 : Nat) (h0 : Heap) (o0 : Addr) (M : Int64 → Int32) (n : Nat) : Option Value → Heap → Prop := fun v h => v = some (.int (Int32.ofNat n)) ∧ h0 = h
abbrev rm_c10 : Room := { frames := 0, cells := 0, slots := 0, locals := 0 }
set_option maxHeartbeats 40000000 in
theorem c10 (l : Launch) (Z : State) (a0 : Array Value) (hw : ∀ d ∈ tables_1, d.before a0 Z = true) (n0 : Nat) (h0 : Heap) (hn : n0 ≤ h0.size) (o0 : Addr) (M : Int64 → Int32) (n : Nat) (P : MapP Z n0 h0 o0 M n) :
    Mt l Z (⟨"com/example/bowerbird/bowerbird/formats/LongIntMap", "size", "()I"⟩ : MethodName) prog_54_method_4_code 1 (some .int) rm_c10 n0 #[(.ref o0)] h0 (Q_c10 Z n0 h0 o0 M n) := by
  refine met_of (plainFor_of_name pn_2) (Ls := #[.val (.ref o0)]) (fun m => by first | (simp [entryFrame, mkF, argsToLocals, Value.category]; done) | rfl) hn ?_
  intro p e s m below meth c T K W
  replace K : Cx p s m meth c Z "com/example/bowerbird/bowerbird/formats/LongIntMap" "size" prog_54_method_4_code 1 (some .int) := K
  generalize eA : (#[(.ref o0)] : Array Value) = args at W
  show Go p e below s n0 (Q_c10 Z n0 h0 o0 M n) 0 0 T (mkF m 0 #[.val (.ref o0)] [])
  obtain ⟨X_o0, ge_o0, ka, va, Kf, Vf, ge_ka, ge_va, ne_o0_ka, ne_o0_va, ne_ka_va, F_o0_keys, F_o0_values, F_o0_size, A_ka, A_va, hR, l0, hl0, hU⟩ := P
  have ne_ka_o0 := Ne.symm ne_o0_ka
  have ne_va_o0 := Ne.symm ne_o0_va
  have ne_va_ka := Ne.symm ne_ka_va
  refine g_aloadN K W d10_0 rfl rfl (pc' := 1) rfl ?_
  refine g_getF K W (host := "") (Or.inl (hw _ (List.mem_of_getElem? (i := 40) rfl))) Via.refl F_o0_size d10_1 (pc' := 4) rfl (fun T W => ?_)
  exact g_retI K W d10_4 (by decide) (by decide) ⟨rfl, rfl⟩
def Q_c0 (Z : State) (n0 : Nat) (h0 : Heap) (k1 : Int64) (kb : Int64) (kc : Int64) (vv1 : Int32) (vv2 : Int32) (sel : Int32) : Option Value → Heap → Prop := fun v h => v = some (.int 1)
set_option maxHeartbeats 40000000 in
theorem c0 (l : Launch) (Z : State) (a0 : Array Value) (hw : ∀ d ∈ tables_1, d.before a0 Z = true) (n0 : Nat) (h0 : Heap) (hn : n0 ≤ h0.size) (k1 : Int64) (kb : Int64) (kc : Int64) (vv1 : Int32) (vv2 : Int32) (sel : Int32) :
    Mt l Z x code maxLocals ret room_1 n0 #[(.long k1), (.long kb), (.long kc), (.int vv1), (.int vv2), (.int sel)] h0 (Q_c0 Z n0 h0 k1 kb kc vv1 vv2 sel) := by
  refine met_of (plainFor_of_name pn_0) (Ls := #[.val (.long k1), .second, .val (.long kb), .second, .val (.long kc), .second, .val (.int vv1), .val (.int vv2), .val (.int sel), .unset, .unset, .unset, .unset, .unset, .unset, .unset, .unset, .unset, .unset, .unset, .unset, .unset, .unset, .unset, .unset, .unset, .unset, .unset, .unset, .unset, .unset, .unset, .unset, .unset, .unset, .unset, .unset]) (fun m => by first | (simp [entryFrame, mkF, argsToLocals, Value.category, maxLocals]; done) | rfl) hn ?_
  intro p e s m below meth c T K W
  replace K : Cx p s m meth c Z "com/example/bowerbird/bowerbird/formats/LongIntMapPutIfAbsentPinLaw" "law" code 37 (some .boolean) := K
  generalize eA : (#[(.long k1), (.long kb), (.long kc), (.int vv1), (.int vv2), (.int sel)] : Array Value) = args at W
  show Go p e below s n0 (Q_c0 Z n0 h0 k1 kb kc vv1 vv2 sel) 16 192 T (mkF m 0 #[.val (.long k1), .second, .val (.long kb), .second, .val (.long kc), .second, .val (.int vv1), .val (.int vv2), .val (.int sel), .unset, .unset, .unset, .unset, .unset, .unset, .unset, .unset, .unset, .unset, .unset, .unset, .unset, .unset, .unset, .unset, .unset, .unset, .unset, .unset, .unset, .unset, .unset, .unset, .unset, .unset, .unset, .unset] [])
  refine g_lloadN K W at_0 rfl (pc' := 1) rfl ?_
  refine g_lstore K W at_1 (Ls' := #[.val (.long k1), .second, .val (.long kb), .second, .val (.long kc), .second, .val (.int vv1), .val (.int vv2), .val (.int sel), .val (.long k1), .second, .unset, .unset, .unset, .unset, .unset, .unset, .unset, .unset, .unset, .unset, .unset, .unset, .unset, .unset, .unset, .unset, .unset, .unset, .unset, .unset, .unset, .unset, .unset, .unset, .unset, .unset]) rfl (pc' := 3) rfl ?_
  refine g_iload K W at_3 rfl (pc' := 5) rfl ?_
  refine g_iconst K W (v := (1 : Int32)) at_5 rfl (pc' := 6) rfl ?_
  refine g_iand K W at_6 (pc' := 7) rfl ?_
  have hJa : ∀ k2 : Int64, True → Go p e below s n0 (Q_c0 Z n0 h0 k1 kb kc vv1 vv2 sel) 16 192 T (mkF m 15 #[.val (.long k1), .second, .val (.long kb), .second, .val (.long kc), .second, .val (.int vv1), .val (.int vv2), .val (.int sel), .val (.long k1), .second, .unset, .unset, .unset, .unset, .unset, .unset, .unset, .unset, .unset, .unset, .unset, .unset, .unset, .unset, .unset, .unset, .unset, .unset, .unset, .unset, .unset, .unset, .unset, .unset, .unset, .unset] [(.long k2)]) := by
    intro k2 hJa_k2
    refine g_lstore K W at_15 (Ls' := #[.val (.long k1), .second, .val (.long kb), .second, .val (.long kc), .second, .val (.int vv1), .val (.int vv2), .val (.int sel), .val (.long k1), .second, .val (.long k2), .second, .unset, .unset, .unset, .unset, .unset, .unset, .unset, .unset, .unset, .unset, .unset, .unset, .unset, .unset, .unset, .unset, .unset, .unset, .unset, .unset, .unset, .unset, .unset, .unset]) rfl (pc' := 17) rfl ?_
    refine g_iload K W at_17 rfl (pc' := 19) rfl ?_
    refine g_iconst K W (v := (1 : Int32)) at_19 rfl (pc' := 20) rfl ?_
    refine g_iushr K W at_20 (pc' := 21) rfl ?_
    refine g_iconst K W (v := (3 : Int32)) at_21 rfl (pc' := 22) rfl ?_
    refine g_iand K W at_22 (pc' := 23) rfl ?_
    generalize e_v23 : (((sel.toUInt32 >>> ((1 : Int32) &&& 31).toUInt32).toInt32) &&& (3 : Int32)) = v23
    refine g_istore K W at_23 (Ls' := #[.val (.long k1), .second, .val (.long kb), .second, .val (.long kc), .second, .val (.int vv1), .val (.int vv2), .val (.int sel), .val (.long k1), .second, .val (.long k2), .second, .val (.int v23), .unset, .unset, .unset, .unset, .unset, .unset, .unset, .unset, .unset, .unset, .unset, .unset, .unset, .unset, .unset, .unset, .unset, .unset, .unset, .unset, .unset, .unset, .unset]) rfl (pc' := 25) rfl ?_
    have hJb : ∀ (k3 : Int64) (T : State), Wd p l e room_1 s m args below meth c n0 T h0 0 0 → Go p e below s n0 (Q_c0 Z n0 h0 k1 kb kc vv1 vv2 sel) 16 192 T (mkF m 53 #[.val (.long k1), .second, .val (.long kb), .second, .val (.long kc), .second, .val (.int vv1), .val (.int vv2), .val (.int sel), .val (.long k1), .second, .val (.long k2), .second, .val (.int v23), .val (.long k3), .second, .unset, .unset, .unset, .unset, .unset, .unset, .unset, .unset, .unset, .unset, .unset, .unset, .unset, .unset, .unset, .unset, .unset, .unset, .unset, .unset, .unset] []) := by
      intro k3 T W
      refine g_iload K W at_53 rfl (pc' := 55) rfl ?_
      refine g_ldc K W (v := (2147483647 : Int32)) (hw _ (List.mem_of_getElem? (i := 0) rfl)) at_55 (pc' := 57) rfl ?_
      refine g_iand K W at_57 (pc' := 58) rfl ?_
      generalize e_v58 : (vv1 &&& (2147483647 : Int32)) = v58
      refine g_istore K W at_58 (Ls' := #[.val (.long k1), .second, .val (.long kb), .second, .val (.long kc), .second, .val (.int vv1), .val (.int vv2), .val (.int sel), .val (.long k1), .second, .val (.long k2), .second, .val (.int v23), .val (.long k3), .second, .val (.int v58), .unset, .unset, .unset, .unset, .unset, .unset, .unset, .unset, .unset, .unset, .unset, .unset, .unset, .unset, .unset, .unset, .unset, .unset, .unset, .unset]) rfl (pc' := 60) rfl ?_
      refine g_iload K W at_60 rfl (pc' := 62) rfl ?_
      refine g_ldc K W (v := (2147483647 : Int32)) (hw _ (List.mem_of_getElem? (i := 0) rfl)) at_62 (pc' := 64) rfl ?_
      refine g_iand K W at_64 (pc' := 65) rfl ?_
      generalize e_v65 : (vv2 &&& (2147483647 : Int32)) = v65
      refine g_istore K W at_65 (Ls' := #[.val (.long k1), .second, .val (.long kb), .second, .val (.long kc), .second, .val (.int vv1), .val (.int vv2), .val (.int sel), .val (.long k1), .second, .val (.long k2), .second, .val (.int v23), .val (.long k3), .second, .val (.int v58), .val (.int v65), .unset, .unset, .unset, .unset, .unset, .unset, .unset, .unset, .unset, .unset, .unset, .unset, .unset, .unset, .unset, .unset, .unset, .unset, .unset]) rfl (pc' := 67) rfl ?_
      refine g_iload K W at_67 rfl (pc' := 69) rfl ?_
      refine g_iconst K W (v := (3 : Int32)) at_69 rfl (pc' := 70) rfl ?_
      refine g_iushr K W at_70 (pc' := 71) rfl ?_
      generalize e_v71 : ((sel.toUInt32 >>> ((3 : Int32) &&& 31).toUInt32).toInt32) = v71
      refine g_istore K W at_71 (Ls' := #[.val (.long k1), .second, .val (.long kb), .second, .val (.long kc), .second, .val (.int vv1), .val (.int vv2), .val (.int sel), .val (.long k1), .second, .val (.long k2), .second, .val (.int v23), .val (.long k3), .second, .val (.int v58), .val (.int v65), .val (.int v71), .unset, .unset, .unset, .unset, .unset, .unset, .unset, .unset, .unset, .unset, .unset, .unset, .unset, .unset, .unset, .unset, .unset, .unset]) rfl (pc' := 73) rfl ?_
      have nn1 : ¬ v58 < 0 := by rw [← e_v58]; exact own_nonneg _
      have nn2 : ¬ v65 < 0 := by rw [← e_v65]; exact own_nonneg _
      have nn3 : ¬ v71 < 0 := by rw [← e_v71]; exact own_shr3 _
      have hw1 := own_nm1 nn1
      have hw2 := own_nm1 nn2
      have hw3 := own_nm1 nn3
      refine g_iload K W at_73 rfl (pc' := 75) rfl ?_
      refine g_istore K W at_75 (Ls' := #[.val (.long k1), .second, .val (.long kb), .second, .val (.long kc), .second, .val (.int vv1), .val (.int vv2), .val (.int sel), .val (.long k1), .second, .val (.long k2), .second, .val (.int v23), .val (.long k3), .second, .val (.int v58), .val (.int v65), .val (.int v71), .val (.int v58), .unset, .unset, .unset, .unset, .unset, .unset, .unset, .unset, .unset, .unset, .unset, .unset, .unset, .unset, .unset, .unset, .unset]) rfl (pc' := 77) rfl ?_
      refine g_lload K W at_77 rfl (pc' := 79) rfl ?_
      refine g_lload K W at_79 rfl (pc' := 81) rfl ?_
      have hJc : ∀ val2 : Int32, val2 = (if k2 = k1 then v58 else v65) → Go p e below s n0 (Q_c0 Z n0 h0 k1 kb kc vv1 vv2 sel) 16 192 T (mkF m 92 #[.val (.long k1), .second, .val (.long kb), .second, .val (.long kc), .second, .val (.int vv1), .val (.int vv2), .val (.int sel), .val (.long k1), .second, .val (.long k2), .second, .val (.int v23), .val (.long k3), .second, .val (.int v58), .val (.int v65), .val (.int v71), .val (.int v58), .unset, .unset, .unset, .unset, .unset, .unset, .unset, .unset, .unset, .unset, .unset, .unset, .unset, .unset, .unset, .unset, .unset] [(.int val2)]) := by
        intro val2 hJc_val2
        refine g_istore K W at_92 (Ls' := #[.val (.long k1), .second, .val (.long kb), .second, .val (.long kc), .second, .val (.int vv1), .val (.int vv2), .val (.int sel), .val (.long k1), .second, .val (.long k2), .second, .val (.int v23), .val (.long k3), .second, .val (.int v58), .val (.int v65), .val (.int v71), .val (.int v58), .val (.int val2), .unset, .unset, .unset, .unset, .unset, .unset, .unset, .unset, .unset, .unset, .unset, .unset, .unset, .unset, .unset, .unset]) rfl (pc' := 94) rfl ?_
        have hJd : ∀ (val3 : Int32) (T : State), val3 = (if k3 = k1 then v58 else if k3 = k2 then val2 else v71) → Wd p l e room_1 s m args below meth c n0 T h0 0 0 → Go p e below s n0 (Q_c0 Z n0 h0 k1 kb kc vv1 vv2 sel) 16 192 T (mkF m 128 #[.val (.long k1), .second, .val (.long kb), .second, .val (.long kc), .second, .val (.int vv1), .val (.int vv2), .val (.int sel), .val (.long k1), .second, .val (.long k2), .second, .val (.int v23), .val (.long k3), .second, .val (.int v58), .val (.int v65), .val (.int v71), .val (.int v58), .val (.int val2), .val (.int val3), .unset, .unset, .unset, .unset, .unset, .unset, .unset, .unset, .unset, .unset, .unset, .unset, .unset, .unset, .unset] []) := by
          intro val3 T e3 W
          refine g_lload K W at_128 rfl (pc' := 130) rfl ?_
          refine g_lload K W at_130 rfl (pc' := 132) rfl ?_
          have hJe : ∀ exp2 : Int32, exp2 = (if k2 = k1 then v58 else -1) → Go p e below s n0 (Q_c0 Z n0 h0 k1 kb kc vv1 vv2 sel) 16 192 T (mkF m 142 #[.val (.long k1), .second, .val (.long kb), .second, .val (.long kc), .second, .val (.int vv1), .val (.int vv2), .val (.int sel), .val (.long k1), .second, .val (.long k2), .second, .val (.int v23), .val (.long k3), .second, .val (.int v58), .val (.int v65), .val (.int v71), .val (.int v58), .val (.int val2), .val (.int val3), .unset, .unset, .unset, .unset, .unset, .unset, .unset, .unset, .unset, .unset, .unset, .unset, .unset, .unset, .unset] [(.int exp2)]) := by
            intro exp2 hJe_exp2
            refine g_istore K W at_142 (Ls' := #[.val (.long k1), .second, .val (.long kb), .second, .val (.long kc), .second, .val (.int vv1), .val (.int vv2), .val (.int sel), .val (.long k1), .second, .val (.long k2), .second, .val (.int v23), .val (.long k3), .second, .val (.int v58), .val (.int v65), .val (.int v71), .val (.int v58), .val (.int val2), .val (.int val3), .val (.int exp2), .unset, .unset, .unset, .unset, .unset, .unset, .unset, .unset, .unset, .unset, .unset, .unset, .unset, .unset]) rfl (pc' := 144) rfl ?_
            refine g_lload K W at_144 rfl (pc' := 146) rfl ?_
            refine g_lload K W at_146 rfl (pc' := 148) rfl ?_
            have hJf : ∀ exp3 : Int32, exp3 = (if k3 = k1 ∨ k3 = k2 then val3 else -1) → Go p e below s n0 (Q_c0 Z n0 h0 k1 kb kc vv1 vv2 sel) 16 192 T (mkF m 166 #[.val (.long k1), .second, .val (.long kb), .second, .val (.long kc), .second, .val (.int vv1), .val (.int vv2), .val (.int sel), .val (.long k1), .second, .val (.long k2), .second, .val (.int v23), .val (.long k3), .second, .val (.int v58), .val (.int v65), .val (.int v71), .val (.int v58), .val (.int val2), .val (.int val3), .val (.int exp2), .unset, .unset, .unset, .unset, .unset, .unset, .unset, .unset, .unset, .unset, .unset, .unset, .unset, .unset] [(.int exp3)]) := by
              intro exp3 hJf_exp3
              refine g_istore K W at_166 (Ls' := #[.val (.long k1), .second, .val (.long kb), .second, .val (.long kc), .second, .val (.int vv1), .val (.int vv2), .val (.int sel), .val (.long k1), .second, .val (.long k2), .second, .val (.int v23), .val (.long k3), .second, .val (.int v58), .val (.int v65), .val (.int v71), .val (.int v58), .val (.int val2), .val (.int val3), .val (.int exp2), .val (.int exp3), .unset, .unset, .unset, .unset, .unset, .unset, .unset, .unset, .unset, .unset, .unset, .unset, .unset]) rfl (pc' := 168) rfl ?_
              refine g_iconst K W (v := (1 : Int32)) at_168 rfl (pc' := 169) rfl ?_
              refine g_lload K W at_169 rfl (pc' := 171) rfl ?_
              refine g_lload K W at_171 rfl (pc' := 173) rfl ?_
              have hJg : ∀ s1 : Int32, s1 = (if k2 = k1 then 0 else 1) → Go p e below s n0 (Q_c0 Z n0 h0 k1 kb kc vv1 vv2 sel) 16 192 T (mkF m 182 #[.val (.long k1), .second, .val (.long kb), .second, .val (.long kc), .second, .val (.int vv1), .val (.int vv2), .val (.int sel), .val (.long k1), .second, .val (.long k2), .second, .val (.int v23), .val (.long k3), .second, .val (.int v58), .val (.int v65), .val (.int v71), .val (.int v58), .val (.int val2), .val (.int val3), .val (.int exp2), .val (.int exp3), .unset, .unset, .unset, .unset, .unset, .unset, .unset, .unset, .unset, .unset, .unset, .unset, .unset] [(.int s1), (.int (1 : Int32))]) := by
                intro s1 hJg_s1
                refine g_iadd K W at_182 (pc' := 183) rfl ?_
                refine g_lload K W at_183 rfl (pc' := 185) rfl ?_
                refine g_lload K W at_185 rfl (pc' := 187) rfl ?_
                have hJh : ∀ s2 : Int32, s2 = (if k3 = k1 ∨ k3 = k2 then 0 else 1) → Go p e below s n0 (Q_c0 Z n0 h0 k1 kb kc vv1 vv2 sel) 16 192 T (mkF m 204 #[.val (.long k1), .second, .val (.long kb), .second, .val (.long kc), .second, .val (.int vv1), .val (.int vv2), .val (.int sel), .val (.long k1), .second, .val (.long k2), .second, .val (.int v23), .val (.long k3), .second, .val (.int v58), .val (.int v65), .val (.int v71), .val (.int v58), .val (.int val2), .val (.int val3), .val (.int exp2), .val (.int exp3), .unset, .unset, .unset, .unset, .unset, .unset, .unset, .unset, .unset, .unset, .unset, .unset, .unset] [(.int s2), (.int ((1 : Int32) + s1))]) := by
                  intro s2 hJh_s2
                  refine g_iadd K W at_204 (pc' := 205) rfl ?_
                  refine g_istore K W at_205 (Ls' := #[.val (.long k1), .second, .val (.long kb), .second, .val (.long kc), .second, .val (.int vv1), .val (.int vv2), .val (.int sel), .val (.long k1), .second, .val (.long k2), .second, .val (.int v23), .val (.long k3), .second, .val (.int v58), .val (.int v65), .val (.int v71), .val (.int v58), .val (.int val2), .val (.int val3), .val (.int exp2), .val (.int exp3), .val (.int (((1 : Int32) + s1) + s2)), .unset, .unset, .unset, .unset, .unset, .unset, .unset, .unset, .unset, .unset, .unset, .unset]) rfl (pc' := 207) rfl ?_
                  refine g_lloadN K W at_207 rfl (pc' := 208) rfl ?_
                  refine g_lconst K W (v := (1 : Int64)) at_208 rfl (pc' := 209) rfl ?_
                  refine g_ladd K W at_209 (pc' := 210) rfl ?_
                  generalize e_v210 : (k1 + (1 : Int64)) = v210
                  refine g_lstore K W at_210 (Ls' := #[.val (.long k1), .second, .val (.long kb), .second, .val (.long kc), .second, .val (.int vv1), .val (.int vv2), .val (.int sel), .val (.long k1), .second, .val (.long k2), .second, .val (.int v23), .val (.long k3), .second, .val (.int v58), .val (.int v65), .val (.int v71), .val (.int v58), .val (.int val2), .val (.int val3), .val (.int exp2), .val (.int exp3), .val (.int (((1 : Int32) + s1) + s2)), .val (.long v210), .second, .unset, .unset, .unset, .unset, .unset, .unset, .unset, .unset, .unset, .unset]) rfl (pc' := 212) rfl ?_
                  refine g_lload K W at_212 rfl (pc' := 214) rfl ?_
                  refine g_lload K W at_214 rfl (pc' := 216) rfl ?_
                  refine g_iload K W at_216 rfl (pc' := 218) rfl ?_
                  refine g_lload K W at_218 rfl (pc' := 220) rfl ?_
                  refine g_iload K W at_220 rfl (pc' := 222) rfl ?_
                  refine g_lload K W at_222 rfl (pc' := 224) rfl ?_
                  refine g_iload K W at_224 rfl (pc' := 226) rfl ?_
                  refine g_callS (c1 l Z a0 hw n0 _ W.sz v210 k1 v58 k2 val2 k3 val3) K W (hw _ (List.mem_of_getElem? (i := 1) rfl)) (hw _ (List.mem_of_getElem? (i := 2) rfl)) (hw _ (List.mem_of_getElem? (i := 3) rfl)) (hw _ (List.mem_of_getElem? (i := 4) rfl)) (by decide) (lenOf pd_3 rfl) at_226 (pc' := 229) rfl (argsL := [(.long v210), (.long k1), (.int v58), (.long k2), (.int val2), (.long k3), (.int val3)]) (rest := []) rfl rfl (by decide) (wt := 0) rfl (by decide) (by decide) (by decide) ?_
                  rintro T _ _ W ⟨rfl, rfl⟩
                  show Go p e below s n0 (Q_c0 Z n0 h0 k1 kb kc vv1 vv2 sel) 16 192 T (mkF m 229 #[.val (.long k1), .second, .val (.long kb), .second, .val (.long kc), .second, .val (.int vv1), .val (.int vv2), .val (.int sel), .val (.long k1), .second, .val (.long k2), .second, .val (.int v23), .val (.long k3), .second, .val (.int v58), .val (.int v65), .val (.int v71), .val (.int v58), .val (.int val2), .val (.int val3), .val (.int exp2), .val (.int exp3), .val (.int (((1 : Int32) + s1) + s2)), .val (.long v210), .second, .unset, .unset, .unset, .unset, .unset, .unset, .unset, .unset, .unset, .unset] [(.int (if v210 = k1 then v58 else if v210 = k2 then val2 else if v210 = k3 then val3 else (-1 : Int32)))])
                  refine g_istore K W at_229 (Ls' := #[.val (.long k1), .second, .val (.long kb), .second, .val (.long kc), .second, .val (.int vv1), .val (.int vv2), .val (.int sel), .val (.long k1), .second, .val (.long k2), .second, .val (.int v23), .val (.long k3), .second, .val (.int v58), .val (.int v65), .val (.int v71), .val (.int v58), .val (.int val2), .val (.int val3), .val (.int exp2), .val (.int exp3), .val (.int (((1 : Int32) + s1) + s2)), .val (.long v210), .second, .val (.int (if v210 = k1 then v58 else if v210 = k2 then val2 else if v210 = k3 then val3 else (-1 : Int32))), .unset, .unset, .unset, .unset, .unset, .unset, .unset, .unset, .unset]) rfl (pc' := 231) rfl ?_
                  refine g_new K W (hw _ (List.mem_of_getElem? (i := 5) rfl)) (hw _ (List.mem_of_getElem? (i := 6) rfl)) (hw _ (List.mem_of_getElem? (i := 7) rfl)) at_231 (pc' := 234) rfl (by decide) (by decide) (fun T h a231 W E ha_a231 ge_a231 X_a231 Dn => ?_)
                  have F_a231_keys : Fld Z h a231 "com/example/bowerbird/bowerbird/formats/LongIntMap" "keys" "[J" .null := Dn (Or.inl (hw _ (List.mem_of_getElem? (i := 16) rfl))) (ty := (.array .long)) (by decide)
                  have F_a231_values : Fld Z h a231 "com/example/bowerbird/bowerbird/formats/LongIntMap" "values" "[I" .null := Dn (Or.inl (hw _ (List.mem_of_getElem? (i := 26) rfl))) (ty := (.array .int)) (by decide)
                  have F_a231_size : Fld Z h a231 "com/example/bowerbird/bowerbird/formats/LongIntMap" "size" "I" (.int (0 : Int32)) := Dn (Or.inl (hw _ (List.mem_of_getElem? (i := 41) rfl))) (ty := .int) (by decide)
                  refine g_dup K W at_234 rfl (pc' := 235) rfl ?_
                  refine g_callN (c2 l Z a0 hw n0 _ W.sz a231 X_a231 F_a231_keys F_a231_values F_a231_size ge_a231) K W rfl (hw _ (List.mem_of_getElem? (i := 8) rfl)) (hw _ (List.mem_of_getElem? (i := 9) rfl)) (hw _ (List.mem_of_getElem? (i := 7) rfl)) (hw _ (List.mem_of_getElem? (i := 10) rfl)) (by decide) (lenOf pd_4 rfl) at_235 (pc' := 238) rfl (argsL := []) (rest := [(.ref a231)]) rfl rfl (by decide) (wt := 1) rfl (by decide) (by decide) (by decide) ?_
                  rintro T h _ W ⟨rfl, P⟩
                  show Go p e below s n0 (Q_c0 Z n0 h0 k1 kb kc vv1 vv2 sel) 16 192 T (mkF m 238 #[.val (.long k1), .second, .val (.long kb), .second, .val (.long kc), .second, .val (.int vv1), .val (.int vv2), .val (.int sel), .val (.long k1), .second, .val (.long k2), .second, .val (.int v23), .val (.long k3), .second, .val (.int v58), .val (.int v65), .val (.int v71), .val (.int v58), .val (.int val2), .val (.int val3), .val (.int exp2), .val (.int exp3), .val (.int (((1 : Int32) + s1) + s2)), .val (.long v210), .second, .val (.int (if v210 = k1 then v58 else if v210 = k2 then val2 else if v210 = k3 then val3 else (-1 : Int32))), .unset, .unset, .unset, .unset, .unset, .unset, .unset, .unset, .unset] [(.ref a231)])
                  have X_a231 := P.1
                  refine g_astore K W at_238 rfl (Ls' := #[.val (.long k1), .second, .val (.long kb), .second, .val (.long kc), .second, .val (.int vv1), .val (.int vv2), .val (.int sel), .val (.long k1), .second, .val (.long k2), .second, .val (.int v23), .val (.long k3), .second, .val (.int v58), .val (.int v65), .val (.int v71), .val (.int v58), .val (.int val2), .val (.int val3), .val (.int exp2), .val (.int exp3), .val (.int (((1 : Int32) + s1) + s2)), .val (.long v210), .second, .val (.int (if v210 = k1 then v58 else if v210 = k2 then val2 else if v210 = k3 then val3 else (-1 : Int32))), .val (.ref a231), .unset, .unset, .unset, .unset, .unset, .unset, .unset, .unset]) rfl (pc' := 240) rfl ?_
                  refine g_aload K W at_240 rfl rfl (pc' := 242) rfl ?_
                  refine g_lload K W at_242 rfl (pc' := 244) rfl ?_
                  refine g_iload K W at_244 rfl (pc' := 246) rfl ?_
                  refine g_callV (c6 l Z a0 hw n0 _ W.sz a231 k1 v58 own_M0 0 P (by decide) nn1) K W X_a231 (hw _ (List.mem_of_getElem? (i := 27) rfl)) (hw _ (List.mem_of_getElem? (i := 28) rfl)) (hw _ (List.mem_of_getElem? (i := 30) rfl)) (hw _ (List.mem_of_getElem? (i := 30) rfl)) (hw _ (List.mem_of_getElem? (i := 29) rfl)) (hw _ (List.mem_of_getElem? (i := 7) rfl)) (hw _ (List.mem_of_getElem? (i := 31) rfl)) (by decide) (lenOf pd_5 rfl) at_246 (pc' := 249) rfl (argsL := [(.long k1), (.int v58)]) (rest := []) rfl rfl (by decide) (wt := 0) rfl (by decide) (by decide) (by decide) ?_
                  rintro T h _ W ⟨rfl, P⟩
                  show Go p e below s n0 (Q_c0 Z n0 h0 k1 kb kc vv1 vv2 sel) 16 192 T (mkF m 249 #[.val (.long k1), .second, .val (.long kb), .second, .val (.long kc), .second, .val (.int vv1), .val (.int vv2), .val (.int sel), .val (.long k1), .second, .val (.long k2), .second, .val (.int v23), .val (.long k3), .second, .val (.int v58), .val (.int v65), .val (.int v71), .val (.int v58), .val (.int val2), .val (.int val3), .val (.int exp2), .val (.int exp3), .val (.int (((1 : Int32) + s1) + s2)), .val (.long v210), .second, .val (.int (if v210 = k1 then v58 else if v210 = k2 then val2 else if v210 = k3 then val3 else (-1 : Int32))), .val (.ref a231), .unset, .unset, .unset, .unset, .unset, .unset, .unset, .unset] [(.int (own_M0 k1))])
                  have X_a231 := P.1
                  refine g_istore K W at_249 (Ls' := #[.val (.long k1), .second, .val (.long kb), .second, .val (.long kc), .second, .val (.int vv1), .val (.int vv2), .val (.int sel), .val (.long k1), .second, .val (.long k2), .second, .val (.int v23), .val (.long k3), .second, .val (.int v58), .val (.int v65), .val (.int v71), .val (.int v58), .val (.int val2), .val (.int val3), .val (.int exp2), .val (.int exp3), .val (.int (((1 : Int32) + s1) + s2)), .val (.long v210), .second, .val (.int (if v210 = k1 then v58 else if v210 = k2 then val2 else if v210 = k3 then val3 else (-1 : Int32))), .val (.ref a231), .val (.int (own_M0 k1)), .unset, .unset, .unset, .unset, .unset, .unset, .unset]) rfl (pc' := 251) rfl ?_
                  refine g_aload K W at_251 rfl rfl (pc' := 253) rfl ?_
                  refine g_lload K W at_253 rfl (pc' := 255) rfl ?_
                  refine g_iload K W at_255 rfl (pc' := 257) rfl ?_
                  refine g_callV (c6 l Z a0 hw n0 _ W.sz a231 k2 v65 (own_put own_M0 k1 v58) (own_n own_M0 k1 0) P (Nat.le_trans (own_nle _ _ _) (by decide)) nn2) K W X_a231 (hw _ (List.mem_of_getElem? (i := 27) rfl)) (hw _ (List.mem_of_getElem? (i := 28) rfl)) (hw _ (List.mem_of_getElem? (i := 30) rfl)) (hw _ (List.mem_of_getElem? (i := 30) rfl)) (hw _ (List.mem_of_getElem? (i := 29) rfl)) (hw _ (List.mem_of_getElem? (i := 7) rfl)) (hw _ (List.mem_of_getElem? (i := 31) rfl)) (by decide) (lenOf pd_5 rfl) at_257 (pc' := 260) rfl (argsL := [(.long k2), (.int v65)]) (rest := []) rfl rfl (by decide) (wt := 0) rfl (by decide) (by decide) (by decide) ?_
                  rintro T h _ W ⟨rfl, P⟩
                  show Go p e below s n0 (Q_c0 Z n0 h0 k1 kb kc vv1 vv2 sel) 16 192 T (mkF m 260 #[.val (.long k1), .second, .val (.long kb), .second, .val (.long kc), .second, .val (.int vv1), .val (.int vv2), .val (.int sel), .val (.long k1), .second, .val (.long k2), .second, .val (.int v23), .val (.long k3), .second, .val (.int v58), .val (.int v65), .val (.int v71), .val (.int v58), .val (.int val2), .val (.int val3), .val (.int exp2), .val (.int exp3), .val (.int (((1 : Int32) + s1) + s2)), .val (.long v210), .second, .val (.int (if v210 = k1 then v58 else if v210 = k2 then val2 else if v210 = k3 then val3 else (-1 : Int32))), .val (.ref a231), .val (.int (own_M0 k1)), .unset, .unset, .unset, .unset, .unset, .unset, .unset] [(.int ((own_put own_M0 k1 v58) k2))])
                  have X_a231 := P.1
                  refine g_istore K W at_260 (Ls' := #[.val (.long k1), .second, .val (.long kb), .second, .val (.long kc), .second, .val (.int vv1), .val (.int vv2), .val (.int sel), .val (.long k1), .second, .val (.long k2), .second, .val (.int v23), .val (.long k3), .second, .val (.int v58), .val (.int v65), .val (.int v71), .val (.int v58), .val (.int val2), .val (.int val3), .val (.int exp2), .val (.int exp3), .val (.int (((1 : Int32) + s1) + s2)), .val (.long v210), .second, .val (.int (if v210 = k1 then v58 else if v210 = k2 then val2 else if v210 = k3 then val3 else (-1 : Int32))), .val (.ref a231), .val (.int (own_M0 k1)), .val (.int ((own_put own_M0 k1 v58) k2)), .unset, .unset, .unset, .unset, .unset, .unset]) rfl (pc' := 262) rfl ?_
                  refine g_aload K W at_262 rfl rfl (pc' := 264) rfl ?_
                  refine g_lload K W at_264 rfl (pc' := 266) rfl ?_
                  refine g_iload K W at_266 rfl (pc' := 268) rfl ?_
                  refine g_callV (c6 l Z a0 hw n0 _ W.sz a231 k3 v71 (own_put (own_put own_M0 k1 v58) k2 v65) (own_n (own_put own_M0 k1 v58) k2 (own_n own_M0 k1 0)) P (Nat.le_trans (own_nle _ _ _) (Nat.succ_le_succ (own_nle _ _ _))) nn3) K W X_a231 (hw _ (List.mem_of_getElem? (i := 27) rfl)) (hw _ (List.mem_of_getElem? (i := 28) rfl)) (hw _ (List.mem_of_getElem? (i := 30) rfl)) (hw _ (List.mem_of_getElem? (i := 30) rfl)) (hw _ (List.mem_of_getElem? (i := 29) rfl)) (hw _ (List.mem_of_getElem? (i := 7) rfl)) (hw _ (List.mem_of_getElem? (i := 31) rfl)) (by decide) (lenOf pd_5 rfl) at_268 (pc' := 271) rfl (argsL := [(.long k3), (.int v71)]) (rest := []) rfl rfl (by decide) (wt := 0) rfl (by decide) (by decide) (by decide) ?_
                  rintro T h _ W ⟨rfl, P⟩
                  show Go p e below s n0 (Q_c0 Z n0 h0 k1 kb kc vv1 vv2 sel) 16 192 T (mkF m 271 #[.val (.long k1), .second, .val (.long kb), .second, .val (.long kc), .second, .val (.int vv1), .val (.int vv2), .val (.int sel), .val (.long k1), .second, .val (.long k2), .second, .val (.int v23), .val (.long k3), .second, .val (.int v58), .val (.int v65), .val (.int v71), .val (.int v58), .val (.int val2), .val (.int val3), .val (.int exp2), .val (.int exp3), .val (.int (((1 : Int32) + s1) + s2)), .val (.long v210), .second, .val (.int (if v210 = k1 then v58 else if v210 = k2 then val2 else if v210 = k3 then val3 else (-1 : Int32))), .val (.ref a231), .val (.int (own_M0 k1)), .val (.int ((own_put own_M0 k1 v58) k2)), .unset, .unset, .unset, .unset, .unset, .unset] [(.int ((own_put (own_put own_M0 k1 v58) k2 v65) k3))])
                  have X_a231 := P.1
                  refine g_istore K W at_271 (Ls' := #[.val (.long k1), .second, .val (.long kb), .second, .val (.long kc), .second, .val (.int vv1), .val (.int vv2), .val (.int sel), .val (.long k1), .second, .val (.long k2), .second, .val (.int v23), .val (.long k3), .second, .val (.int v58), .val (.int v65), .val (.int v71), .val (.int v58), .val (.int val2), .val (.int val3), .val (.int exp2), .val (.int exp3), .val (.int (((1 : Int32) + s1) + s2)), .val (.long v210), .second, .val (.int (if v210 = k1 then v58 else if v210 = k2 then val2 else if v210 = k3 then val3 else (-1 : Int32))), .val (.ref a231), .val (.int (own_M0 k1)), .val (.int ((own_put own_M0 k1 v58) k2)), .val (.int ((own_put (own_put own_M0 k1 v58) k2 v65) k3)), .unset, .unset, .unset, .unset, .unset]) rfl (pc' := 273) rfl ?_
                  have hN3 : (own_n (own_put (own_put own_M0 k1 v58) k2 v65) k3 (own_n (own_put own_M0 k1 v58) k2 (own_n own_M0 k1 0))) ≤ 3 := Nat.le_trans (own_nle _ _ _) (Nat.succ_le_succ (Nat.le_trans (own_nle _ _ _) (Nat.succ_le_succ (own_nle _ _ _))))
                  refine g_aload K W at_273 rfl rfl (pc' := 275) rfl ?_
                  refine g_lload K W at_275 rfl (pc' := 277) rfl ?_
                  refine g_callV (c9 l Z a0 hw n0 _ W.sz a231 k1 (own_put (own_put (own_put own_M0 k1 v58) k2 v65) k3 v71) (own_n (own_put (own_put own_M0 k1 v58) k2 v65) k3 (own_n (own_put own_M0 k1 v58) k2 (own_n own_M0 k1 0))) P hN3) K W X_a231 (hw _ (List.mem_of_getElem? (i := 42) rfl)) (hw _ (List.mem_of_getElem? (i := 43) rfl)) (hw _ (List.mem_of_getElem? (i := 45) rfl)) (hw _ (List.mem_of_getElem? (i := 45) rfl)) (hw _ (List.mem_of_getElem? (i := 44) rfl)) (hw _ (List.mem_of_getElem? (i := 7) rfl)) (hw _ (List.mem_of_getElem? (i := 46) rfl)) (by decide) (lenOf pd_2 rfl) at_277 (pc' := 280) rfl (argsL := [(.long k1)]) (rest := []) rfl rfl (by decide) (wt := 0) rfl (by decide) (by decide) (by decide) ?_
                  rintro T _ _ W ⟨rfl, rfl⟩
                  show Go p e below s n0 (Q_c0 Z n0 h0 k1 kb kc vv1 vv2 sel) 16 192 T (mkF m 280 #[.val (.long k1), .second, .val (.long kb), .second, .val (.long kc), .second, .val (.int vv1), .val (.int vv2), .val (.int sel), .val (.long k1), .second, .val (.long k2), .second, .val (.int v23), .val (.long k3), .second, .val (.int v58), .val (.int v65), .val (.int v71), .val (.int v58), .val (.int val2), .val (.int val3), .val (.int exp2), .val (.int exp3), .val (.int (((1 : Int32) + s1) + s2)), .val (.long v210), .second, .val (.int (if v210 = k1 then v58 else if v210 = k2 then val2 else if v210 = k3 then val3 else (-1 : Int32))), .val (.ref a231), .val (.int (own_M0 k1)), .val (.int ((own_put own_M0 k1 v58) k2)), .val (.int ((own_put (own_put own_M0 k1 v58) k2 v65) k3)), .unset, .unset, .unset, .unset, .unset] [(.int ((own_put (own_put (own_put own_M0 k1 v58) k2 v65) k3 v71) k1))])
                  refine g_istore K W at_280 (Ls' := #[.val (.long k1), .second, .val (.long kb), .second, .val (.long kc), .second, .val (.int vv1), .val (.int vv2), .val (.int sel), .val (.long k1), .second, .val (.long k2), .second, .val (.int v23), .val (.long k3), .second, .val (.int v58), .val (.int v65), .val (.int v71), .val (.int v58), .val (.int val2), .val (.int val3), .val (.int exp2), .val (.int exp3), .val (.int (((1 : Int32) + s1) + s2)), .val (.long v210), .second, .val (.int (if v210 = k1 then v58 else if v210 = k2 then val2 else if v210 = k3 then val3 else (-1 : Int32))), .val (.ref a231), .val (.int (own_M0 k1)), .val (.int ((own_put own_M0 k1 v58) k2)), .val (.int ((own_put (own_put own_M0 k1 v58) k2 v65) k3)), .val (.int ((own_put (own_put (own_put own_M0 k1 v58) k2 v65) k3 v71) k1)), .unset, .unset, .unset, .unset]) rfl (pc' := 282) rfl ?_
                  refine g_aload K W at_282 rfl rfl (pc' := 284) rfl ?_
                  refine g_lload K W at_284 rfl (pc' := 286) rfl ?_
                  refine g_callV (c9 l Z a0 hw n0 _ W.sz a231 k2 (own_put (own_put (own_put own_M0 k1 v58) k2 v65) k3 v71) (own_n (own_put (own_put own_M0 k1 v58) k2 v65) k3 (own_n (own_put own_M0 k1 v58) k2 (own_n own_M0 k1 0))) P hN3) K W X_a231 (hw _ (List.mem_of_getElem? (i := 42) rfl)) (hw _ (List.mem_of_getElem? (i := 43) rfl)) (hw _ (List.mem_of_getElem? (i := 45) rfl)) (hw _ (List.mem_of_getElem? (i := 45) rfl)) (hw _ (List.mem_of_getElem? (i := 44) rfl)) (hw _ (List.mem_of_getElem? (i := 7) rfl)) (hw _ (List.mem_of_getElem? (i := 46) rfl)) (by decide) (lenOf pd_2 rfl) at_286 (pc' := 289) rfl (argsL := [(.long k2)]) (rest := []) rfl rfl (by decide) (wt := 0) rfl (by decide) (by decide) (by decide) ?_
                  rintro T _ _ W ⟨rfl, rfl⟩
                  show Go p e below s n0 (Q_c0 Z n0 h0 k1 kb kc vv1 vv2 sel) 16 192 T (mkF m 289 #[.val (.long k1), .second, .val (.long kb), .second, .val (.long kc), .second, .val (.int vv1), .val (.int vv2), .val (.int sel), .val (.long k1), .second, .val (.long k2), .second, .val (.int v23), .val (.long k3), .second, .val (.int v58), .val (.int v65), .val (.int v71), .val (.int v58), .val (.int val2), .val (.int val3), .val (.int exp2), .val (.int exp3), .val (.int (((1 : Int32) + s1) + s2)), .val (.long v210), .second, .val (.int (if v210 = k1 then v58 else if v210 = k2 then val2 else if v210 = k3 then val3 else (-1 : Int32))), .val (.ref a231), .val (.int (own_M0 k1)), .val (.int ((own_put own_M0 k1 v58) k2)), .val (.int ((own_put (own_put own_M0 k1 v58) k2 v65) k3)), .val (.int ((own_put (own_put (own_put own_M0 k1 v58) k2 v65) k3 v71) k1)), .unset, .unset, .unset, .unset] [(.int ((own_put (own_put (own_put own_M0 k1 v58) k2 v65) k3 v71) k2))])
                  refine g_istore K W at_289 (Ls' := #[.val (.long k1), .second, .val (.long kb), .second, .val (.long kc), .second, .val (.int vv1), .val (.int vv2), .val (.int sel), .val (.long k1), .second, .val (.long k2), .second, .val (.int v23), .val (.long k3), .second, .val (.int v58), .val (.int v65), .val (.int v71), .val (.int v58), .val (.int val2), .val (.int val3), .val (.int exp2), .val (.int exp3), .val (.int (((1 : Int32) + s1) + s2)), .val (.long v210), .second, .val (.int (if v210 = k1 then v58 else if v210 = k2 then val2 else if v210 = k3 then val3 else (-1 : Int32))), .val (.ref a231), .val (.int (own_M0 k1)), .val (.int ((own_put own_M0 k1 v58) k2)), .val (.int ((own_put (own_put own_M0 k1 v58) k2 v65) k3)), .val (.int ((own_put (own_put (own_put own_M0 k1 v58) k2 v65) k3 v71) k1)), .val (.int ((own_put (own_put (own_put own_M0 k1 v58) k2 v65) k3 v71) k2)), .unset, .unset, .unset]) rfl (pc' := 291) rfl ?_
                  refine g_aload K W at_291 rfl rfl (pc' := 293) rfl ?_
                  refine g_lload K W at_293 rfl (pc' := 295) rfl ?_
                  refine g_callV (c9 l Z a0 hw n0 _ W.sz a231 k3 (own_put (own_put (own_put own_M0 k1 v58) k2 v65) k3 v71) (own_n (own_put (own_put own_M0 k1 v58) k2 v65) k3 (own_n (own_put own_M0 k1 v58) k2 (own_n own_M0 k1 0))) P hN3) K W X_a231 (hw _ (List.mem_of_getElem? (i := 42) rfl)) (hw _ (List.mem_of_getElem? (i := 43) rfl)) (hw _ (List.mem_of_getElem? (i := 45) rfl)) (hw _ (List.mem_of_getElem? (i := 45) rfl)) (hw _ (List.mem_of_getElem? (i := 44) rfl)) (hw _ (List.mem_of_getElem? (i := 7) rfl)) (hw _ (List.mem_of_getElem? (i := 46) rfl)) (by decide) (lenOf pd_2 rfl) at_295 (pc' := 298) rfl (argsL := [(.long k3)]) (rest := []) rfl rfl (by decide) (wt := 0) rfl (by decide) (by decide) (by decide) ?_
                  rintro T _ _ W ⟨rfl, rfl⟩
                  show Go p e below s n0 (Q_c0 Z n0 h0 k1 kb kc vv1 vv2 sel) 16 192 T (mkF m 298 #[.val (.long k1), .second, .val (.long kb), .second, .val (.long kc), .second, .val (.int vv1), .val (.int vv2), .val (.int sel), .val (.long k1), .second, .val (.long k2), .second, .val (.int v23), .val (.long k3), .second, .val (.int v58), .val (.int v65), .val (.int v71), .val (.int v58), .val (.int val2), .val (.int val3), .val (.int exp2), .val (.int exp3), .val (.int (((1 : Int32) + s1) + s2)), .val (.long v210), .second, .val (.int (if v210 = k1 then v58 else if v210 = k2 then val2 else if v210 = k3 then val3 else (-1 : Int32))), .val (.ref a231), .val (.int (own_M0 k1)), .val (.int ((own_put own_M0 k1 v58) k2)), .val (.int ((own_put (own_put own_M0 k1 v58) k2 v65) k3)), .val (.int ((own_put (own_put (own_put own_M0 k1 v58) k2 v65) k3 v71) k1)), .val (.int ((own_put (own_put (own_put own_M0 k1 v58) k2 v65) k3 v71) k2)), .unset, .unset, .unset] [(.int ((own_put (own_put (own_put own_M0 k1 v58) k2 v65) k3 v71) k3))])
                  refine g_istore K W at_298 (Ls' := #[.val (.long k1), .second, .val (.long kb), .second, .val (.long kc), .second, .val (.int vv1), .val (.int vv2), .val (.int sel), .val (.long k1), .second, .val (.long k2), .second, .val (.int v23), .val (.long k3), .second, .val (.int v58), .val (.int v65), .val (.int v71), .val (.int v58), .val (.int val2), .val (.int val3), .val (.int exp2), .val (.int exp3), .val (.int (((1 : Int32) + s1) + s2)), .val (.long v210), .second, .val (.int (if v210 = k1 then v58 else if v210 = k2 then val2 else if v210 = k3 then val3 else (-1 : Int32))), .val (.ref a231), .val (.int (own_M0 k1)), .val (.int ((own_put own_M0 k1 v58) k2)), .val (.int ((own_put (own_put own_M0 k1 v58) k2 v65) k3)), .val (.int ((own_put (own_put (own_put own_M0 k1 v58) k2 v65) k3 v71) k1)), .val (.int ((own_put (own_put (own_put own_M0 k1 v58) k2 v65) k3 v71) k2)), .val (.int ((own_put (own_put (own_put own_M0 k1 v58) k2 v65) k3 v71) k3)), .unset, .unset]) rfl (pc' := 300) rfl ?_
                  refine g_aload K W at_300 rfl rfl (pc' := 302) rfl ?_
                  refine g_lload K W at_302 rfl (pc' := 304) rfl ?_
                  refine g_callV (c9 l Z a0 hw n0 _ W.sz a231 v210 (own_put (own_put (own_put own_M0 k1 v58) k2 v65) k3 v71) (own_n (own_put (own_put own_M0 k1 v58) k2 v65) k3 (own_n (own_put own_M0 k1 v58) k2 (own_n own_M0 k1 0))) P hN3) K W X_a231 (hw _ (List.mem_of_getElem? (i := 42) rfl)) (hw _ (List.mem_of_getElem? (i := 43) rfl)) (hw _ (List.mem_of_getElem? (i := 45) rfl)) (hw _ (List.mem_of_getElem? (i := 45) rfl)) (hw _ (List.mem_of_getElem? (i := 44) rfl)) (hw _ (List.mem_of_getElem? (i := 7) rfl)) (hw _ (List.mem_of_getElem? (i := 46) rfl)) (by decide) (lenOf pd_2 rfl) at_304 (pc' := 307) rfl (argsL := [(.long v210)]) (rest := []) rfl rfl (by decide) (wt := 0) rfl (by decide) (by decide) (by decide) ?_
                  rintro T _ _ W ⟨rfl, rfl⟩
                  show Go p e below s n0 (Q_c0 Z n0 h0 k1 kb kc vv1 vv2 sel) 16 192 T (mkF m 307 #[.val (.long k1), .second, .val (.long kb), .second, .val (.long kc), .second, .val (.int vv1), .val (.int vv2), .val (.int sel), .val (.long k1), .second, .val (.long k2), .second, .val (.int v23), .val (.long k3), .second, .val (.int v58), .val (.int v65), .val (.int v71), .val (.int v58), .val (.int val2), .val (.int val3), .val (.int exp2), .val (.int exp3), .val (.int (((1 : Int32) + s1) + s2)), .val (.long v210), .second, .val (.int (if v210 = k1 then v58 else if v210 = k2 then val2 else if v210 = k3 then val3 else (-1 : Int32))), .val (.ref a231), .val (.int (own_M0 k1)), .val (.int ((own_put own_M0 k1 v58) k2)), .val (.int ((own_put (own_put own_M0 k1 v58) k2 v65) k3)), .val (.int ((own_put (own_put (own_put own_M0 k1 v58) k2 v65) k3 v71) k1)), .val (.int ((own_put (own_put (own_put own_M0 k1 v58) k2 v65) k3 v71) k2)), .val (.int ((own_put (own_put (own_put own_M0 k1 v58) k2 v65) k3 v71) k3)), .unset, .unset] [(.int ((own_put (own_put (own_put own_M0 k1 v58) k2 v65) k3 v71) v210))])
                  refine g_istore K W at_307 (Ls' := #[.val (.long k1), .second, .val (.long kb), .second, .val (.long kc), .second, .val (.int vv1), .val (.int vv2), .val (.int sel), .val (.long k1), .second, .val (.long k2), .second, .val (.int v23), .val (.long k3), .second, .val (.int v58), .val (.int v65), .val (.int v71), .val (.int v58), .val (.int val2), .val (.int val3), .val (.int exp2), .val (.int exp3), .val (.int (((1 : Int32) + s1) + s2)), .val (.long v210), .second, .val (.int (if v210 = k1 then v58 else if v210 = k2 then val2 else if v210 = k3 then val3 else (-1 : Int32))), .val (.ref a231), .val (.int (own_M0 k1)), .val (.int ((own_put own_M0 k1 v58) k2)), .val (.int ((own_put (own_put own_M0 k1 v58) k2 v65) k3)), .val (.int ((own_put (own_put (own_put own_M0 k1 v58) k2 v65) k3 v71) k1)), .val (.int ((own_put (own_put (own_put own_M0 k1 v58) k2 v65) k3 v71) k2)), .val (.int ((own_put (own_put (own_put own_M0 k1 v58) k2 v65) k3 v71) k3)), .val (.int ((own_put (own_put (own_put own_M0 k1 v58) k2 v65) k3 v71) v210)), .unset]) rfl (pc' := 309) rfl ?_
                  refine g_aload K W at_309 rfl rfl (pc' := 311) rfl ?_
                  refine g_callV (c10 l Z a0 hw n0 _ W.sz a231 (own_put (own_put (own_put own_M0 k1 v58) k2 v65) k3 v71) (own_n (own_put (own_put own_M0 k1 v58) k2 v65) k3 (own_n (own_put own_M0 k1 v58) k2 (own_n own_M0 k1 0))) P) K W X_a231 (hw _ (List.mem_of_getElem? (i := 47) rfl)) (hw _ (List.mem_of_getElem? (i := 48) rfl)) (hw _ (List.mem_of_getElem? (i := 50) rfl)) (hw _ (List.mem_of_getElem? (i := 50) rfl)) (hw _ (List.mem_of_getElem? (i := 49) rfl)) (hw _ (List.mem_of_getElem? (i := 7) rfl)) (hw _ (List.mem_of_getElem? (i := 51) rfl)) (by decide) (lenOf pd_6 rfl) at_311 (pc' := 314) rfl (argsL := []) (rest := []) rfl rfl (by decide) (wt := 0) rfl (by decide) (by decide) (by decide) ?_
                  rintro T _ _ W ⟨rfl, rfl⟩
                  show Go p e below s n0 (Q_c0 Z n0 h0 k1 kb kc vv1 vv2 sel) 16 192 T (mkF m 314 #[.val (.long k1), .second, .val (.long kb), .second, .val (.long kc), .second, .val (.int vv1), .val (.int vv2), .val (.int sel), .val (.long k1), .second, .val (.long k2), .second, .val (.int v23), .val (.long k3), .second, .val (.int v58), .val (.int v65), .val (.int v71), .val (.int v58), .val (.int val2), .val (.int val3), .val (.int exp2), .val (.int exp3), .val (.int (((1 : Int32) + s1) + s2)), .val (.long v210), .second, .val (.int (if v210 = k1 then v58 else if v210 = k2 then val2 else if v210 = k3 then val3 else (-1 : Int32))), .val (.ref a231), .val (.int (own_M0 k1)), .val (.int ((own_put own_M0 k1 v58) k2)), .val (.int ((own_put (own_put own_M0 k1 v58) k2 v65) k3)), .val (.int ((own_put (own_put (own_put own_M0 k1 v58) k2 v65) k3 v71) k1)), .val (.int ((own_put (own_put (own_put own_M0 k1 v58) k2 v65) k3 v71) k2)), .val (.int ((own_put (own_put (own_put own_M0 k1 v58) k2 v65) k3 v71) k3)), .val (.int ((own_put (own_put (own_put own_M0 k1 v58) k2 v65) k3 v71) v210)), .unset] [(.int (Int32.ofNat (own_n (own_put (own_put own_M0 k1 v58) k2 v65) k3 (own_n (own_put own_M0 k1 v58) k2 (own_n own_M0 k1 0)))))])
                  refine g_istore K W at_314 (Ls' := #[.val (.long k1), .second, .val (.long kb), .second, .val (.long kc), .second, .val (.int vv1), .val (.int vv2), .val (.int sel), .val (.long k1), .second, .val (.long k2), .second, .val (.int v23), .val (.long k3), .second, .val (.int v58), .val (.int v65), .val (.int v71), .val (.int v58), .val (.int val2), .val (.int val3), .val (.int exp2), .val (.int exp3), .val (.int (((1 : Int32) + s1) + s2)), .val (.long v210), .second, .val (.int (if v210 = k1 then v58 else if v210 = k2 then val2 else if v210 = k3 then val3 else (-1 : Int32))), .val (.ref a231), .val (.int (own_M0 k1)), .val (.int ((own_put own_M0 k1 v58) k2)), .val (.int ((own_put (own_put own_M0 k1 v58) k2 v65) k3)), .val (.int ((own_put (own_put (own_put own_M0 k1 v58) k2 v65) k3 v71) k1)), .val (.int ((own_put (own_put (own_put own_M0 k1 v58) k2 v65) k3 v71) k2)), .val (.int ((own_put (own_put (own_put own_M0 k1 v58) k2 v65) k3 v71) k3)), .val (.int ((own_put (own_put (own_put own_M0 k1 v58) k2 v65) k3 v71) v210)), .val (.int (Int32.ofNat (own_n (own_put (own_put own_M0 k1 v58) k2 v65) k3 (own_n (own_put own_M0 k1 v58) k2 (own_n own_M0 k1 0)))))]) rfl (pc' := 316) rfl ?_
                  refine g_iload K W at_316 rfl (pc' := 318) rfl ?_
                  refine g_iconst K W (v := (-1 : Int32)) at_318 rfl (pc' := 319) rfl ?_
                  refine g_icmp_ne K W at_319 (pt := 375) rfl (pf := 322) rfl (fun hc319 => ?_) (fun hc319 => absurd rfl hc319)
                  refine g_iload K W at_322 rfl (pc' := 324) rfl ?_
                  refine g_iload K W at_324 rfl (pc' := 326) rfl ?_
                  refine g_icmp_ne K W at_326 (pt := 375) rfl (pf := 329) rfl (fun hc326 => ?_) (fun hc326 => absurd (own_r2 hw1 hJe_exp2) hc326)
                  refine g_iload K W at_329 rfl (pc' := 331) rfl ?_
                  refine g_iload K W at_331 rfl (pc' := 333) rfl ?_
                  refine g_icmp_ne K W at_333 (pt := 375) rfl (pf := 336) rfl (fun hc333 => ?_) (fun hc333 => absurd (own_r3 hw1 hJc_val2 e3 hJf_exp3) hc333)
                  refine g_iload K W at_336 rfl (pc' := 338) rfl ?_
                  refine g_iload K W at_338 rfl (pc' := 340) rfl ?_
                  refine g_icmp_ne K W at_340 (pt := 375) rfl (pf := 343) rfl (fun hc340 => ?_) (fun hc340 => absurd (own_g1 hw1 hw2) hc340)
                  refine g_iload K W at_343 rfl (pc' := 345) rfl ?_
                  refine g_iload K W at_345 rfl (pc' := 347) rfl ?_
                  refine g_icmp_ne K W at_347 (pt := 375) rfl (pf := 350) rfl (fun hc347 => ?_) (fun hc347 => absurd (own_g2 hw1 hw2 hJc_val2) hc347)
                  refine g_iload K W at_350 rfl (pc' := 352) rfl ?_
                  refine g_iload K W at_352 rfl (pc' := 354) rfl ?_
                  refine g_icmp_ne K W at_354 (pt := 375) rfl (pf := 357) rfl (fun hc354 => ?_) (fun hc354 => absurd (own_g3 hw1 hw2 hJc_val2 e3) hc354)
                  refine g_iload K W at_357 rfl (pc' := 359) rfl ?_
                  refine g_iload K W at_359 rfl (pc' := 361) rfl ?_
                  refine g_icmp_ne K W at_361 (pt := 375) rfl (pf := 364) rfl (fun hc361 => ?_) (fun hc361 => absurd (own_gp hw1 hw2 hJc_val2 e3 _) hc361)
                  refine g_iload K W at_364 rfl (pc' := 366) rfl ?_
                  refine g_iload K W at_366 rfl (pc' := 368) rfl ?_
                  refine g_icmp_ne K W at_368 (pt := 375) rfl (pf := 371) rfl (fun hc368 => ?_) (fun hc368 => absurd (own_sz hw1 hw2 hJg_s1 hJh_s2) hc368)
                  refine g_iconst K W (v := (1 : Int32)) at_371 rfl (pc' := 372) rfl ?_
                  refine g_goto K W at_372 (pt := 376) rfl ?_
                  exact g_retN K W (by simp) at_376 (by decide) (by decide) (v := (1 : Int32)) rfl rfl
                refine g_lcmp_eq K W at_187 (pc1 := 188) rfl at_188 (pt := 203) rfl (pf := 191) rfl (fun hc187 => ?_) (fun hc187 => ?_)
                · refine g_iconst K W (v := (0 : Int32)) at_203 rfl (pc' := 204) rfl ?_
                  exact hJh _ (by rw [if_pos (Or.inl hc187)])
                · refine g_lload K W at_191 rfl (pc' := 193) rfl ?_
                  refine g_lload K W at_193 rfl (pc' := 195) rfl ?_
                  refine g_lcmp_eq K W at_195 (pc1 := 196) rfl at_196 (pt := 203) rfl (pf := 199) rfl (fun hc195 => ?_) (fun hc195 => ?_)
                  · refine g_iconst K W (v := (0 : Int32)) at_203 rfl (pc' := 204) rfl ?_
                    exact hJh _ (by rw [if_pos (Or.inr hc195)])
                  · refine g_iconst K W (v := (1 : Int32)) at_199 rfl (pc' := 200) rfl ?_
                    refine g_goto K W at_200 (pt := 204) rfl ?_
                    exact hJh _ (by rw [if_neg (fun z => z.elim hc187 hc195)])
              refine g_lcmp_eq K W at_173 (pc1 := 174) rfl at_174 (pt := 181) rfl (pf := 177) rfl (fun hc173 => ?_) (fun hc173 => ?_)
              · refine g_iconst K W (v := (0 : Int32)) at_181 rfl (pc' := 182) rfl ?_
                exact hJg _ (by rw [if_pos hc173])
              · refine g_iconst K W (v := (1 : Int32)) at_177 rfl (pc' := 178) rfl ?_
                refine g_goto K W at_178 (pt := 182) rfl ?_
                exact hJg _ (by rw [if_neg hc173])
            refine g_lcmp_eq K W at_148 (pc1 := 149) rfl at_149 (pt := 160) rfl (pf := 152) rfl (fun hc148 => ?_) (fun hc148 => ?_)
            · refine g_iload K W at_160 rfl (pc' := 162) rfl ?_
              refine g_goto K W at_162 (pt := 166) rfl ?_
              exact hJf _ (by rw [if_pos (Or.inl hc148)])
            · refine g_lload K W at_152 rfl (pc' := 154) rfl ?_
              refine g_lload K W at_154 rfl (pc' := 156) rfl ?_
              refine g_lcmp_ne K W at_156 (pc1 := 157) rfl at_157 (pt := 165) rfl (pf := 160) rfl (fun hc156 => ?_) (fun hc156 => ?_)
              · refine g_iload K W at_160 rfl (pc' := 162) rfl ?_
                refine g_goto K W at_162 (pt := 166) rfl ?_
                exact hJf _ (by rw [if_pos (Or.inr hc156)])
              · refine g_iconst K W (v := (-1 : Int32)) at_165 rfl (pc' := 166) rfl ?_
                exact hJf _ (by rw [if_neg (fun z => z.elim hc148 hc156)])
          refine g_lcmp_ne K W at_132 (pc1 := 133) rfl at_133 (pt := 141) rfl (pf := 136) rfl (fun hc132 => ?_) (fun hc132 => ?_)
          · refine g_iload K W at_136 rfl (pc' := 138) rfl ?_
            refine g_goto K W at_138 (pt := 142) rfl ?_
            exact hJe _ (by rw [if_pos hc132])
          · refine g_iconst K W (v := (-1 : Int32)) at_141 rfl (pc' := 142) rfl ?_
            exact hJe _ (by rw [if_neg hc132])
        refine g_lload K W at_94 rfl (pc' := 96) rfl ?_
        refine g_lload K W at_96 rfl (pc' := 98) rfl ?_
        refine g_lcmp_ne K W at_98 (pc1 := 99) rfl at_99 (pt := 109) rfl (pf := 102) rfl (fun hc98 => ?_) (fun hc98 => ?_)
        · refine g_iload K W at_102 rfl (pc' := 104) rfl ?_
          refine g_istore K W at_104 (Ls' := #[.val (.long k1), .second, .val (.long kb), .second, .val (.long kc), .second, .val (.int vv1), .val (.int vv2), .val (.int sel), .val (.long k1), .second, .val (.long k2), .second, .val (.int v23), .val (.long k3), .second, .val (.int v58), .val (.int v65), .val (.int v71), .val (.int v58), .val (.int val2), .val (.int v58), .unset, .unset, .unset, .unset, .unset, .unset, .unset, .unset, .unset, .unset, .unset, .unset, .unset, .unset, .unset]) rfl (pc' := 106) rfl ?_
          refine g_goto K W at_106 (pt := 128) rfl ?_
          exact hJd v58 _ (by rw [if_pos hc98]) (W.mono (by decide) (by decide))
        · refine g_lload K W at_109 rfl (pc' := 111) rfl ?_
          refine g_lload K W at_111 rfl (pc' := 113) rfl ?_
          refine g_lcmp_ne K W at_113 (pc1 := 114) rfl at_114 (pt := 124) rfl (pf := 117) rfl (fun hc113 => ?_) (fun hc113 => ?_)
          · refine g_iload K W at_117 rfl (pc' := 119) rfl ?_
            refine g_istore K W at_119 (Ls' := #[.val (.long k1), .second, .val (.long kb), .second, .val (.long kc), .second, .val (.int vv1), .val (.int vv2), .val (.int sel), .val (.long k1), .second, .val (.long k2), .second, .val (.int v23), .val (.long k3), .second, .val (.int v58), .val (.int v65), .val (.int v71), .val (.int v58), .val (.int val2), .val (.int val2), .unset, .unset, .unset, .unset, .unset, .unset, .unset, .unset, .unset, .unset, .unset, .unset, .unset, .unset, .unset]) rfl (pc' := 121) rfl ?_
            refine g_goto K W at_121 (pt := 128) rfl ?_
            exact hJd val2 _ (by rw [if_neg hc98, if_pos hc113]) (W.mono (by decide) (by decide))
          · refine g_iload K W at_124 rfl (pc' := 126) rfl ?_
            refine g_istore K W at_126 (Ls' := #[.val (.long k1), .second, .val (.long kb), .second, .val (.long kc), .second, .val (.int vv1), .val (.int vv2), .val (.int sel), .val (.long k1), .second, .val (.long k2), .second, .val (.int v23), .val (.long k3), .second, .val (.int v58), .val (.int v65), .val (.int v71), .val (.int v58), .val (.int val2), .val (.int v71), .unset, .unset, .unset, .unset, .unset, .unset, .unset, .unset, .unset, .unset, .unset, .unset, .unset, .unset, .unset]) rfl (pc' := 128) rfl ?_
            exact hJd v71 _ (by rw [if_neg hc98, if_neg hc113]) (W.mono (by decide) (by decide))
      refine g_lcmp_ne K W at_81 (pc1 := 82) rfl at_82 (pt := 90) rfl (pf := 85) rfl (fun hc81 => ?_) (fun hc81 => ?_)
      · refine g_iload K W at_85 rfl (pc' := 87) rfl ?_
        refine g_goto K W at_87 (pt := 92) rfl ?_
        exact hJc _ (by rw [if_pos hc81])
      · refine g_iload K W at_90 rfl (pc' := 92) rfl ?_
        exact hJc _ (by rw [if_neg hc81])
    refine g_iload K W at_25 rfl (pc' := 27) rfl ?_
    refine g_if_ne K W at_27 (pt := 36) rfl (pf := 30) rfl (fun hc27 => ?_) (fun hc27 => ?_)
    · refine g_lloadN K W at_30 rfl (pc' := 31) rfl ?_
      refine g_lstore K W at_31 (Ls' := #[.val (.long k1), .second, .val (.long kb), .second, .val (.long kc), .second, .val (.int vv1), .val (.int vv2), .val (.int sel), .val (.long k1), .second, .val (.long k2), .second, .val (.int v23), .val (.long k1), .second, .unset, .unset, .unset, .unset, .unset, .unset, .unset, .unset, .unset, .unset, .unset, .unset, .unset, .unset, .unset, .unset, .unset, .unset, .unset, .unset, .unset]) rfl (pc' := 33) rfl ?_
      refine g_goto K W at_33 (pt := 53) rfl ?_
      exact hJb k1 _ (W.mono (by decide) (by decide))
    · refine g_iload K W at_36 rfl (pc' := 38) rfl ?_
      refine g_iconst K W (v := (1 : Int32)) at_38 rfl (pc' := 39) rfl ?_
      refine g_icmp_ne K W at_39 (pt := 49) rfl (pf := 42) rfl (fun hc39 => ?_) (fun hc39 => ?_)
      · refine g_lload K W at_42 rfl (pc' := 44) rfl ?_
        refine g_lstore K W at_44 (Ls' := #[.val (.long k1), .second, .val (.long kb), .second, .val (.long kc), .second, .val (.int vv1), .val (.int vv2), .val (.int sel), .val (.long k1), .second, .val (.long k2), .second, .val (.int v23), .val (.long k2), .second, .unset, .unset, .unset, .unset, .unset, .unset, .unset, .unset, .unset, .unset, .unset, .unset, .unset, .unset, .unset, .unset, .unset, .unset, .unset, .unset, .unset]) rfl (pc' := 46) rfl ?_
        refine g_goto K W at_46 (pt := 53) rfl ?_
        exact hJb k2 _ (W.mono (by decide) (by decide))
      · refine g_lload K W at_49 rfl (pc' := 51) rfl ?_
        refine g_lstore K W at_51 (Ls' := #[.val (.long k1), .second, .val (.long kb), .second, .val (.long kc), .second, .val (.int vv1), .val (.int vv2), .val (.int sel), .val (.long k1), .second, .val (.long k2), .second, .val (.int v23), .val (.long kc), .second, .unset, .unset, .unset, .unset, .unset, .unset, .unset, .unset, .unset, .unset, .unset, .unset, .unset, .unset, .unset, .unset, .unset, .unset, .unset, .unset, .unset]) rfl (pc' := 53) rfl ?_
        exact hJb kc _ (W.mono (by decide) (by decide))
  refine g_if_eq K W at_7 (pt := 14) rfl (pf := 10) rfl (fun hc7 => ?_) (fun hc7 => ?_)
  · refine g_lloadN K W at_14 rfl (pc' := 15) rfl ?_
    exact hJa _ trivial
  · refine g_lloadN K W at_10 rfl (pc' := 11) rfl ?_
    refine g_goto K W at_11 (pt := 15) rfl ?_
    exact hJa _ trivial
set_option maxHeartbeats 40000000 in
theorem comes_1 {Post : Tables → Env → Array Value → State → Outcome → State → Prop} (hpost : ∀ tb e args s v u, (limb_1_1.after args s (.returned v) u = true ∧ limb_1_2.after args s (.returned v) u = true ∧ True) → FrameEnd s (.returned v) u (Jvm.fieldLocs frame_1_writes args s ++ Jvm.arrayLocs frame_1_arrays args s ++ Jvm.staticLocs frame_1_statics s) 16 192 → Post tb e args s (.returned v) u) :
    ArmFor flags0 classFile x code maxLocals ret World_1 tables_1 room_1 Calls_1 rest_1 Pre_1 Post := by
  intro l hfl _ _ p e ha hc hk s m args below hf hA hF happ hP
  obtain ⟨hcalls, hrest, hpre⟩ := hP
  obtain ⟨-, -, -, hnamed, -, -, -, hat⟩ := (Spec.applies_iff hf).mp happ
  obtain ⟨hg, hn⟩ := and_e (Cond.before_iff.mp (show (Jvm.Cond.and given_1 narrow_1).before args s = true from hpre))
  obtain ⟨hcnt, hg⟩ := and_e hg
  obtain ⟨hi0, hg⟩ := and_e hg
  obtain ⟨hi1, hg⟩ := and_e hg
  obtain ⟨hi2, hg⟩ := and_e hg
  obtain ⟨hi3, hg⟩ := and_e hg
  obtain ⟨hi4, hg⟩ := and_e hg
  have hi5 := hg
  obtain ⟨w0, w1, w2, w3, w4, w5, rfl⟩ : ∃ w0 w1 w2 w3 w4 w5 : Value, args = #[w0, w1, w2, w3, w4, w5] := by
    have hs : args.size = 6 := by simpa [Cond.value, given_1] using hcnt
    obtain ⟨L⟩ := args
    match L, hs with
    | [w0, w1, w2, w3, w4, w5], _ => exact ⟨w0, w1, w2, w3, w4, w5, rfl⟩
  have hw := fun d (hd : d ∈ tables_1) => atoms_spec (ws := Jvm.Cond.code x code maxLocals ret :: tables_1) hat d (List.mem_cons_of_mem _ hd)
  obtain ⟨i0, ei0⟩ := isL_v hi0
  obtain rfl : w0 = (.long i0) := Option.some.inj ei0
  obtain ⟨i1, ei1⟩ := isL_v hi1
  obtain rfl : w1 = (.long i1) := Option.some.inj ei1
  obtain ⟨i2, ei2⟩ := isL_v hi2
  obtain rfl : w2 = (.long i2) := Option.some.inj ei2
  obtain ⟨i3, ei3⟩ := is_v hi3
  obtain rfl : w3 = (.int i3) := Option.some.inj ei3
  obtain ⟨i4, ei4⟩ := is_v hi4
  obtain rfl : w4 = (.int i4) := Option.some.inj ei4
  obtain ⟨i5, ei5⟩ := is_v hi5
  obtain rfl : w5 = (.int i5) := Option.some.inj ei5
  obtain ⟨n, o, h1, h2, h3, v, L, rfl, ⟨hv, N⟩, hq⟩ := c0 l s _ hw s.heap.size s.heap (Nat.le_refl _) i0 i1 i2 i3 i4 i5 tables_1 p e ha hc hk s m _ below hf ((Spec.applies_iff_loose hf).mp happ).1 ⟨rfl, State.Warmed39.refl s, rfl⟩ trivial
  obtain rfl : v = some (.int 1) := hv
  refine ⟨n, _, h1, h2, h3, hpost _ _ _ _ _ _ ⟨Cond.after_iff.mpr rfl, Cond.after_iff.mpr (eq_i res_at (Term.int_eval (1)) rfl), trivial⟩ ⟨hq.1, hq.2.1, (hq.2.2.sift fun y hy => Or.inr (N y hy)).mono (by decide) (by decide)⟩⟩
theorem main_1_1 : Claimed_1_1 := comes_1 fun _ _ _ _ _ _ h hF => ⟨h.1, hF⟩
theorem main_1_2 : Claimed_1_2 := comes_1 fun _ _ _ _ _ _ h hF => ⟨h.2.1, hF⟩
end Jvm.Pilot.@@N@@
namespace Jvm.Pilot.@@N@@
open Jvm Jvm.ClassFile Sem Op Lib Jvm.Free Jvm.Stand Jvm.Pilot.@@N@@.Jvm.D
/-! MADE BY PROGRAM (witnessworld.py) out of the Statement's table words and the real class files: 12 classes; the members and pool entries that the words name. The judged class is class 1, her method 2. -/
namespace start1
open Jvm.ClassFile
def u (s : String) : CpInfo := .utf8 (stringToUtf16 s)
/-- a pool by its gaps: so many unusable entries, then the entry; so many at the end -/
def gap : Nat → List CpInfo → List CpInfo
  | 0, r => r
  | n + 1, r => .unusable :: gap n r
def poolList (es : List (Nat × CpInfo)) (last : Nat) : List CpInfo := es.foldr (fun e r => gap e.1 (e.2 :: r)) (gap last [])
def pool (es : List (Nat × CpInfo)) (last : Nat) : Array CpInfo := ⟨poolList es last⟩
def fileOf (pool : Array CpInfo) (this : Nat) (attrs : Array Attribute := #[]) (ms : Array MethodInfo := #[]) (fl : Nat := 33) (sup : Nat := 0) (ifs : Array Nat := #[]) (fds : Array FieldInfo := #[]) : ClassFile where
  minorVersion := 0
  majorVersion := 65
  constantPool := pool
  accessFlags := fl
  thisClass := this
  superClass := sup
  interfaces := ifs
  fields := fds
  methods := ms
  attributes := attrs
def plain (name : String) (sup : Option ClassId) : Class where
  name := name
  kind := .ordinary
  loader := none
  accessFlags := 33
  super := sup
  interfaces := #[]
  cf := none
  fields := #[]
  methods := #[]
  instanceTypes := #[]
  staticTypes := #[]
  resolved := #[]
  callSites := []
  init := .initialized
  statics := none
  mirror := none

def pool0 : Array CpInfo := pool [(5, u "<init>"), (0, u "()V"), (1, .class_ 10), (1, u "java/lang/Object")] 113

def k0c0 : Code := { maxStack := 0, maxLocals := 1, code := object_method_1_code, exceptionTable := #[], attributes := #[] }
def k0m0 : Method := { name := "<init>", desc := "()V", sig := { parameters := [], returnType := none }, accessFlags := 1, code := some k0c0 }
/-- java/lang/Object -/
def k0 : Class := { plain "java/lang/Object" none with
  accessFlags := 33
  interfaces := #[]
  cf := some (fileOf pool0 8 #[] #[{ accessFlags := 1, nameIndex := 5, descriptorIndex := 6, attributes := #[] }] 33 0 #[] #[])
  fields := #[]
  methods := #[k0m0]
  instanceTypes := #[]
  staticTypes := #[]
  resolved := Array.replicate 124 none
  statics := none }

def pool1 : Array CpInfo := pool [(2, .class_ 4), (0, .nameAndType 5 6), (0, u "java/lang/Object"), (0, u "<init>"), (0, u "()V"), (0, .integer 2147483647), (0, .methodref 9 10), (0, .class_ 11), (0, .nameAndType 12 13), (0, u "com/example/bowerbird/bowerbird/formats/LongIntMapPutIfAbsentPinLaw"), (0, u "lookup"), (0, u "(JJIJIJI)I"), (0, .class_ 15), (0, u "com/example/bowerbird/bowerbird/formats/LongIntMap"), (0, .methodref 14 3), (0, .methodref 14 18), (0, .nameAndType 19 20), (0, u "putIfAbsent"), (0, u "(JI)I"), (0, .methodref 14 22), (0, .nameAndType 23 24), (0, u "get"), (0, u "(J)I"), (0, .methodref 14 26), (0, .nameAndType 27 28), (0, u "size"), (0, u "()I"), (3, u "law"), (0, u "(JJJIII)Z")] 2

def k1m0 : Method := { name := "<init>", desc := "()V", sig := { parameters := [], returnType := none }, accessFlags := 1, code := none }
def k1c1 : Code := { maxStack := 4, maxLocals := 11, code := method_2_code, exceptionTable := #[], attributes := #[] }
def k1m1 : Method := { name := "lookup", desc := "(JJIJIJI)I", sig := { parameters := [.long, .long, .int, .long, .int, .long, .int], returnType := some .int }, accessFlags := 10, code := some k1c1 }
def k1c2 : Code := { maxStack := 11, maxLocals := 37, code := code, exceptionTable := #[], attributes := #[] }
def k1m2 : Method := { name := "law", desc := "(JJJIII)Z", sig := { parameters := [.long, .long, .long, .int, .int, .int], returnType := some .boolean }, accessFlags := 9, code := some k1c2 }
/-- com/example/bowerbird/bowerbird/formats/LongIntMapPutIfAbsentPinLaw -/
def k1 : Class := { plain "com/example/bowerbird/bowerbird/formats/LongIntMapPutIfAbsentPinLaw" (some 0) with
  accessFlags := 49
  interfaces := #[]
  cf := some (fileOf pool1 9 #[] #[{ accessFlags := 1, nameIndex := 5, descriptorIndex := 6, attributes := #[] }, { accessFlags := 10, nameIndex := 12, descriptorIndex := 13, attributes := #[] }, { accessFlags := 9, nameIndex := 32, descriptorIndex := 33, attributes := #[] }] 49 2 #[] #[])
  fields := #[]
  methods := #[k1m0, k1m1, k1m2]
  instanceTypes := #[]
  staticTypes := #[]
  resolved := Array.replicate 36 none
  statics := none }

def pool2 : Array CpInfo := pool [(1, .methodref 2 3), (0, .class_ 4), (0, .nameAndType 5 6), (0, u "java/lang/Object"), (0, u "<init>"), (0, u "()V"), (0, .class_ 8), (0, u "com/example/bowerbird/bowerbird/formats/LongIntMap"), (0, .fieldref 7 10), (0, .nameAndType 11 12), (0, u "keys"), (0, u "[J"), (0, .methodref 7 14), (0, .nameAndType 15 16), (0, u "free"), (0, u "(I)[I"), (0, .fieldref 7 18), (0, .nameAndType 19 20), (0, u "values"), (0, u "[I"), (0, .methodref 7 22), (0, .nameAndType 23 24), (0, u "slotOf"), (0, u "(J)I"), (9, .fieldref 7 35), (0, .nameAndType 36 37), (0, u "size"), (0, u "I"), (3, .methodref 7 42), (0, .nameAndType 43 24), (0, u "spread"), (0, .long 11400714819323198485), (1, .methodref 47 48), (0, .class_ 49), (0, .nameAndType 50 51), (0, u "java/util/Arrays"), (0, u "fill"), (0, u "([II)V"), (0, u "FREE"), (2, u "FIRST_SLOTS"), (3, u "get"), (0, u "putIfAbsent"), (0, u "(JI)I"), (1, u "()I")] 19

def k2c0 : Code := { maxStack := 2, maxLocals := 1, code := prog_54_method_1_code, exceptionTable := #[], attributes := #[] }
def k2m0 : Method := { name := "<init>", desc := "()V", sig := { parameters := [], returnType := none }, accessFlags := 0, code := some k2c0 }
def k2c1 : Code := { maxStack := 4, maxLocals := 3, code := prog_54_method_2_code, exceptionTable := #[], attributes := #[] }
def k2m1 : Method := { name := "get", desc := "(J)I", sig := { parameters := [.long], returnType := some .int }, accessFlags := 0, code := some k2c1 }
def k2c2 : Code := { maxStack := 4, maxLocals := 6, code := prog_54_method_3_code, exceptionTable := #[], attributes := #[] }
def k2m2 : Method := { name := "putIfAbsent", desc := "(JI)I", sig := { parameters := [.long, .int], returnType := some .int }, accessFlags := 0, code := some k2c2 }
def k2c3 : Code := { maxStack := 1, maxLocals := 1, code := prog_54_method_4_code, exceptionTable := #[], attributes := #[] }
def k2m3 : Method := { name := "size", desc := "()I", sig := { parameters := [], returnType := some .int }, accessFlags := 0, code := some k2c3 }
def k2c4 : Code := { maxStack := 4, maxLocals := 5, code := prog_54_method_5_code, exceptionTable := #[], attributes := #[] }
def k2m4 : Method := { name := "slotOf", desc := "(J)I", sig := { parameters := [.long], returnType := some .int }, accessFlags := 2, code := some k2c4 }
def k2c5 : Code := { maxStack := 5, maxLocals := 4, code := prog_54_method_7_code, exceptionTable := #[], attributes := #[] }
def k2m5 : Method := { name := "spread", desc := "(J)I", sig := { parameters := [.long], returnType := some .int }, accessFlags := 10, code := some k2c5 }
def k2c6 : Code := { maxStack := 2, maxLocals := 2, code := prog_54_method_8_code, exceptionTable := #[], attributes := #[] }
def k2m6 : Method := { name := "free", desc := "(I)[I", sig := { parameters := [.int], returnType := some (.array .int) }, accessFlags := 10, code := some k2c6 }
/-- com/example/bowerbird/bowerbird/formats/LongIntMap -/
def k2 : Class := { plain "com/example/bowerbird/bowerbird/formats/LongIntMap" (some 0) with
  accessFlags := 32
  interfaces := #[]
  cf := some (fileOf pool2 7 #[] #[{ accessFlags := 0, nameIndex := 5, descriptorIndex := 6, attributes := #[] }, { accessFlags := 0, nameIndex := 59, descriptorIndex := 24, attributes := #[] }, { accessFlags := 0, nameIndex := 60, descriptorIndex := 61, attributes := #[] }, { accessFlags := 0, nameIndex := 36, descriptorIndex := 63, attributes := #[] }, { accessFlags := 2, nameIndex := 23, descriptorIndex := 24, attributes := #[] }, { accessFlags := 10, nameIndex := 43, descriptorIndex := 24, attributes := #[] }, { accessFlags := 10, nameIndex := 15, descriptorIndex := 16, attributes := #[] }] 32 2 #[] #[{ accessFlags := 26, nameIndex := 52, descriptorIndex := 37, attributes := #[] }, { accessFlags := 26, nameIndex := 55, descriptorIndex := 37, attributes := #[] }, { accessFlags := 2, nameIndex := 11, descriptorIndex := 12, attributes := #[] }, { accessFlags := 2, nameIndex := 19, descriptorIndex := 20, attributes := #[] }, { accessFlags := 2, nameIndex := 36, descriptorIndex := 37, attributes := #[] }])
  fields := #[{ name := "FREE", type := .int, accessFlags := 26, slot := 0, constantValue := 0 }, { name := "FIRST_SLOTS", type := .int, accessFlags := 26, slot := 1, constantValue := 0 }, { name := "keys", type := (.array .long), accessFlags := 2, slot := 0, constantValue := 0 }, { name := "values", type := (.array .int), accessFlags := 2, slot := 1, constantValue := 0 }, { name := "size", type := .int, accessFlags := 2, slot := 2, constantValue := 0 }]
  methods := #[k2m0, k2m1, k2m2, k2m3, k2m4, k2m5, k2m6]
  instanceTypes := #[(.array .long), (.array .int), .int]
  staticTypes := #[.int, .int]
  resolved := Array.replicate 83 none
  statics := none }

def pool3 : Array CpInfo := pool [(2, .class_ 4), (1, u "java/lang/Object"), (0, u "<init>"), (0, u "()V"), (7, .class_ 16), (1, u "java/util/Arrays"), (57, .class_ 76), (1, u "java/util/Arrays$NaturalOrder"), (36, .class_ 115), (1, u "java/util/Arrays$LegacyMergeSort"), (1, u "Z"), (257, .class_ 376), (0, u "java/util/Arrays$ArrayList"), (68, u "$assertionsDisabled"), (269, u "MIN_ARRAY_SORT_GRAN"), (0, u "I"), (2, u "INSERTIONSORT_THRESHOLD"), (120, u "fill"), (4, u "([II)V"), (129, .class_ 976), (0, u "java/util/Arrays$ArrayItr")] 52

def k3m0 : Method := { name := "<init>", desc := "()V", sig := { parameters := [], returnType := none }, accessFlags := 2, code := none }
def k3c1 : Code := { maxStack := 3, maxLocals := 4, code := jdk_65_method_103_code, exceptionTable := #[], attributes := #[] }
def k3m1 : Method := { name := "fill", desc := "([II)V", sig := { parameters := [(.array .int), .int], returnType := none }, accessFlags := 9, code := some k3c1 }
/-- java/util/Arrays -/
def k3 : Class := { plain "java/util/Arrays" (some 0) with
  accessFlags := 49
  interfaces := #[]
  cf := some (fileOf pool3 14 #[.nestMembers #[975, 375, 113, 74]] #[{ accessFlags := 2, nameIndex := 5, descriptorIndex := 6, attributes := #[] }, { accessFlags := 9, nameIndex := 840, descriptorIndex := 845, attributes := #[] }] 49 2 #[] #[{ accessFlags := 26, nameIndex := 715, descriptorIndex := 716, attributes := #[] }, { accessFlags := 26, nameIndex := 719, descriptorIndex := 716, attributes := #[] }, { accessFlags := 4120, nameIndex := 445, descriptorIndex := 117, attributes := #[] }])
  fields := #[{ name := "MIN_ARRAY_SORT_GRAN", type := .int, accessFlags := 26, slot := 0, constantValue := 0 }, { name := "INSERTIONSORT_THRESHOLD", type := .int, accessFlags := 26, slot := 1, constantValue := 0 }, { name := "$assertionsDisabled", type := .boolean, accessFlags := 4120, slot := 2, constantValue := 0 }]
  methods := #[k3m0, k3m1]
  instanceTypes := #[]
  staticTypes := #[.int, .int, .boolean]
  resolved := Array.replicate 1029 none
  statics := none }

def pool4 : Array CpInfo := pool [(1, u "java/lang/Cloneable"), (0, .class_ 1), (0, u "java/lang/Object"), (0, .class_ 3)] 3

/-- java/lang/Cloneable -/
def k4 : Class := { plain "java/lang/Cloneable" (some 0) with
  accessFlags := 1537
  interfaces := #[]
  cf := some (fileOf pool4 2 #[] #[] 1537 4 #[] #[])
  fields := #[]
  methods := #[]
  instanceTypes := #[]
  staticTypes := #[]
  resolved := Array.replicate 8 none
  statics := none }

def pool5 : Array CpInfo := pool [(1, u "java/io/Serializable"), (0, .class_ 1), (0, u "java/lang/Object"), (0, .class_ 3)] 3

/-- java/io/Serializable -/
def k5 : Class := { plain "java/io/Serializable" (some 0) with
  accessFlags := 1537
  interfaces := #[]
  cf := some (fileOf pool5 2 #[] #[] 1537 4 #[] #[])
  fields := #[]
  methods := #[]
  instanceTypes := #[]
  staticTypes := #[]
  resolved := Array.replicate 8 none
  statics := none }

/-- the primitive byte -/
def k6 : Class := { plain "byte" none with kind := .primitive 'B', accessFlags := 0x411 }
/-- [B -/
def k7 : Class := { plain "[B" (some 0) with kind := .array 6 .byte, interfaces := #[4, 5], accessFlags := 1041 }

/-- the primitive int -/
def k8 : Class := { plain "int" none with kind := .primitive 'I', accessFlags := 0x411 }
/-- [I -/
def k9 : Class := { plain "[I" (some 0) with kind := .array 8 .int, interfaces := #[4, 5], accessFlags := 1041 }

/-- the primitive long -/
def k10 : Class := { plain "long" none with kind := .primitive 'J', accessFlags := 0x411 }
/-- [J -/
def k11 : Class := { plain "[J" (some 0) with kind := .array 10 .long, interfaces := #[4, 5], accessFlags := 1041 }

def heap : Heap := #[]
def classes : Array Class := #[k0, k1, k2, k3, k4, k5, k6, k7, k8, k9, k10, k11]
def interned : List (Array UInt16 × Addr) := []
def slotsUsed : Nat := 0
def theMethod : MethodId := ⟨1, 2⟩
def args0 : Array Value := #[.long 5, .long 6, .long 7, .int 1, .int 2, .int 3]
def aboutOver (below : List Frame) : State where
  vm := { classes := classes, interned := interned.toArray }
  heap := heap
  slotsUsed := slotsUsed
  threads := #[{ frames := .invoking theMethod args0 :: below }]
def below0 : List Frame := [.native { method := ⟨0, 0⟩, args := #[] }]
def about1 : State := aboutOver below0
def p0 : Program := .bare "" "" ""
def e0 : Env := launch0.env 0 0 0
theorem w_frames : about1.frames = Frame.invoking theMethod args0 :: below0 := rfl
set_option maxRecDepth 65536 in
theorem w_args : argsFit about1.vm theMethod args0 = true := by decide +kernel
set_option maxRecDepth 65536 in
theorem w_heap : heapFits about1 = true := by decide +kernel
set_option maxRecDepth 65536 in
theorem w_runnable : about1.curStatus? = some .runnable := by decide +kernel
set_option maxRecDepth 65536 in
theorem w_alone : about1.alone = true := by decide +kernel
set_option maxRecDepth 65536 in
theorem w_named : about1.methodNamed? x = some theMethod := by decide +kernel
set_option maxRecDepth 65536 in
theorem w_hears : about1.hears theMethod below0 = true := by decide +kernel
set_option maxRecDepth 65536 in
theorem w_ripe : about1.ripe theMethod args0 below0 = true := by decide +kernel
theorem w_running : about1.status = .running := rfl
set_option maxRecDepth 65536 in
theorem w_room : about1.hasRoom e0.platform room_1 = true :=
  launch0.hasRoom_least _ room_1 (by decide +kernel) (by decide +kernel) (by decide +kernel) (by decide +kernel) (by decide +kernel) (by decide +kernel)
theorem allAtoms_all (ts : List Jvm.Cond) (a : Array Jvm.Value) (st : Jvm.State) : (allAtoms ts).before a st = ts.all (fun c => c.before a st) := by
  induction ts with
  | nil => rfl
  | cons c t ih =>
    show (Jvm.Cond.and c (allAtoms t)).before a st = _
    rw [Jvm.Cond.before_and, ih, List.all_cons]
def words1 : List Jvm.Cond := Jvm.Cond.code x code maxLocals ret :: tables_1
/-- a 'code' word, met by the world's own term for the bytes: nothing is compared byte by byte -/
theorem code_word {y : MethodName} {bytes : ByteArray} {mx : Nat} {rt : Option FieldType} {a : Array Value} {s : State} {m : MethodId} {meth : Method} {c : Code} (h1 : s.methodNamed? y = some m) (h2 : s.vm.method? m = some meth) (h3 : meth.code = some c) (h4 : c.code = bytes)
    (h5 : (c.maxLocals == mx && c.exceptionTable.isEmpty && decide (c.maxStack ≤ mostOperands) && decide (meth.sig.returnType = rt) && !meth.locks && decide (parseMethodDescriptor y.desc = some meth.sig)) = true) : (Jvm.Cond.code y bytes mx rt).before a s = true := by
  simp only [Bool.and_eq_true, beq_iff_eq, Bool.not_eq_true', decide_eq_true_eq] at h5
  obtain ⟨⟨⟨⟨⟨g1, g2⟩, g3⟩, g4⟩, g5⟩, g6⟩ := h5
  simp [Cond.before, Cond.holds, Cond.value, h1, h2, h3, h4, g1, g2, g3, g4, g5, g6]
def isCode : Jvm.Cond → Bool
  | .code _ _ _ _ => true
  | _ => false
theorem all_split {L : List Jvm.Cond} {P : Jvm.Cond → Bool} (h1 : L.all (fun c => isCode c || P c) = true) (h2 : ∀ c ∈ L.filter isCode, P c = true) : L.all P = true := by
  refine List.all_eq_true.mpr fun c hc => ?_
  have h := List.all_eq_true.mp h1 c hc
  rcases Bool.eq_false_or_eq_true (isCode c) with hi | hi
  · exact h2 c (List.mem_filter.mpr ⟨hc, hi⟩)
  · simpa [hi] using h
set_option maxRecDepth 65536 in
theorem w_c0 : (Jvm.Cond.code x code maxLocals ret).before args0 about1 = true := code_word (m := ⟨1, 2⟩) (meth := k1m2) (c := k1c2) (by decide +kernel) rfl rfl rfl (by decide +kernel)
set_option maxRecDepth 65536 in
theorem w_c1 : (Jvm.Cond.code ({ cls := "com/example/bowerbird/bowerbird/formats/LongIntMapPutIfAbsentPinLaw", name := "lookup", desc := "(JJIJIJI)I" } : Jvm.MethodName) method_2_code (11 : Nat) (Option.some Jvm.ClassFile.FieldType.int)).before args0 about1 = true := code_word (m := ⟨1, 1⟩) (meth := k1m1) (c := k1c1) (by decide +kernel) rfl rfl rfl (by decide +kernel)
set_option maxRecDepth 65536 in
theorem w_c2 : (Jvm.Cond.code ({ cls := "com/example/bowerbird/bowerbird/formats/LongIntMap", name := "<init>", desc := "()V" } : Jvm.MethodName) prog_54_method_1_code (1 : Nat) (Option.none : Option Jvm.ClassFile.FieldType)).before args0 about1 = true := code_word (m := ⟨2, 0⟩) (meth := k2m0) (c := k2c0) (by decide +kernel) rfl rfl rfl (by decide +kernel)
set_option maxRecDepth 65536 in
theorem w_c3 : (Jvm.Cond.code ({ cls := "java/lang/Object", name := "<init>", desc := "()V" } : Jvm.MethodName) object_method_1_code (1 : Nat) (Option.none : Option Jvm.ClassFile.FieldType)).before args0 about1 = true := code_word (m := ⟨0, 0⟩) (meth := k0m0) (c := k0c0) (by decide +kernel) rfl rfl rfl (by decide +kernel)
set_option maxRecDepth 65536 in
theorem w_c4 : (Jvm.Cond.code ({ cls := "com/example/bowerbird/bowerbird/formats/LongIntMap", name := "free", desc := "(I)[I" } : Jvm.MethodName) prog_54_method_8_code (2 : Nat) (Option.some (Jvm.ClassFile.FieldType.array Jvm.ClassFile.FieldType.int))).before args0 about1 = true := code_word (m := ⟨2, 6⟩) (meth := k2m6) (c := k2c6) (by decide +kernel) rfl rfl rfl (by decide +kernel)
set_option maxRecDepth 65536 in
theorem w_c5 : (Jvm.Cond.code ({ cls := "java/util/Arrays", name := "fill", desc := "([II)V" } : Jvm.MethodName) jdk_65_method_103_code (4 : Nat) (Option.none : Option Jvm.ClassFile.FieldType)).before args0 about1 = true := code_word (m := ⟨3, 1⟩) (meth := k3m1) (c := k3c1) (by decide +kernel) rfl rfl rfl (by decide +kernel)
set_option maxRecDepth 65536 in
theorem w_c6 : (Jvm.Cond.code ({ cls := "com/example/bowerbird/bowerbird/formats/LongIntMap", name := "putIfAbsent", desc := "(JI)I" } : Jvm.MethodName) prog_54_method_3_code (6 : Nat) (Option.some Jvm.ClassFile.FieldType.int)).before args0 about1 = true := code_word (m := ⟨2, 2⟩) (meth := k2m2) (c := k2c2) (by decide +kernel) rfl rfl rfl (by decide +kernel)
set_option maxRecDepth 65536 in
theorem w_c7 : (Jvm.Cond.code ({ cls := "com/example/bowerbird/bowerbird/formats/LongIntMap", name := "slotOf", desc := "(J)I" } : Jvm.MethodName) prog_54_method_5_code (5 : Nat) (Option.some Jvm.ClassFile.FieldType.int)).before args0 about1 = true := code_word (m := ⟨2, 4⟩) (meth := k2m4) (c := k2c4) (by decide +kernel) rfl rfl rfl (by decide +kernel)
set_option maxRecDepth 65536 in
theorem w_c8 : (Jvm.Cond.code ({ cls := "com/example/bowerbird/bowerbird/formats/LongIntMap", name := "spread", desc := "(J)I" } : Jvm.MethodName) prog_54_method_7_code (4 : Nat) (Option.some Jvm.ClassFile.FieldType.int)).before args0 about1 = true := code_word (m := ⟨2, 5⟩) (meth := k2m5) (c := k2c5) (by decide +kernel) rfl rfl rfl (by decide +kernel)
set_option maxRecDepth 65536 in
theorem w_c9 : (Jvm.Cond.code ({ cls := "com/example/bowerbird/bowerbird/formats/LongIntMap", name := "get", desc := "(J)I" } : Jvm.MethodName) prog_54_method_2_code (3 : Nat) (Option.some Jvm.ClassFile.FieldType.int)).before args0 about1 = true := code_word (m := ⟨2, 1⟩) (meth := k2m1) (c := k2c1) (by decide +kernel) rfl rfl rfl (by decide +kernel)
set_option maxRecDepth 65536 in
theorem w_c10 : (Jvm.Cond.code ({ cls := "com/example/bowerbird/bowerbird/formats/LongIntMap", name := "size", desc := "()I" } : Jvm.MethodName) prog_54_method_4_code (1 : Nat) (Option.some Jvm.ClassFile.FieldType.int)).before args0 about1 = true := code_word (m := ⟨2, 3⟩) (meth := k2m3) (c := k2c3) (by decide +kernel) rfl rfl rfl (by decide +kernel)
def codes1 : List Jvm.Cond := [Jvm.Cond.code x code maxLocals ret, Jvm.Cond.code ({ cls := "com/example/bowerbird/bowerbird/formats/LongIntMapPutIfAbsentPinLaw", name := "lookup", desc := "(JJIJIJI)I" } : Jvm.MethodName) method_2_code (11 : Nat) (Option.some Jvm.ClassFile.FieldType.int), Jvm.Cond.code ({ cls := "com/example/bowerbird/bowerbird/formats/LongIntMap", name := "<init>", desc := "()V" } : Jvm.MethodName) prog_54_method_1_code (1 : Nat) (Option.none : Option Jvm.ClassFile.FieldType), Jvm.Cond.code ({ cls := "java/lang/Object", name := "<init>", desc := "()V" } : Jvm.MethodName) object_method_1_code (1 : Nat) (Option.none : Option Jvm.ClassFile.FieldType), Jvm.Cond.code ({ cls := "com/example/bowerbird/bowerbird/formats/LongIntMap", name := "free", desc := "(I)[I" } : Jvm.MethodName) prog_54_method_8_code (2 : Nat) (Option.some (Jvm.ClassFile.FieldType.array Jvm.ClassFile.FieldType.int)), Jvm.Cond.code ({ cls := "java/util/Arrays", name := "fill", desc := "([II)V" } : Jvm.MethodName) jdk_65_method_103_code (4 : Nat) (Option.none : Option Jvm.ClassFile.FieldType), Jvm.Cond.code ({ cls := "com/example/bowerbird/bowerbird/formats/LongIntMap", name := "putIfAbsent", desc := "(JI)I" } : Jvm.MethodName) prog_54_method_3_code (6 : Nat) (Option.some Jvm.ClassFile.FieldType.int), Jvm.Cond.code ({ cls := "com/example/bowerbird/bowerbird/formats/LongIntMap", name := "slotOf", desc := "(J)I" } : Jvm.MethodName) prog_54_method_5_code (5 : Nat) (Option.some Jvm.ClassFile.FieldType.int), Jvm.Cond.code ({ cls := "com/example/bowerbird/bowerbird/formats/LongIntMap", name := "spread", desc := "(J)I" } : Jvm.MethodName) prog_54_method_7_code (4 : Nat) (Option.some Jvm.ClassFile.FieldType.int), Jvm.Cond.code ({ cls := "com/example/bowerbird/bowerbird/formats/LongIntMap", name := "get", desc := "(J)I" } : Jvm.MethodName) prog_54_method_2_code (3 : Nat) (Option.some Jvm.ClassFile.FieldType.int), Jvm.Cond.code ({ cls := "com/example/bowerbird/bowerbird/formats/LongIntMap", name := "size", desc := "()I" } : Jvm.MethodName) prog_54_method_4_code (1 : Nat) (Option.some Jvm.ClassFile.FieldType.int)]
set_option maxRecDepth 65536 in
theorem codes_eq : words1.filter isCode = codes1 := rfl
theorem w_codes : ∀ c ∈ words1.filter isCode, c.before args0 about1 = true := by
  rw [codes_eq]
  intro c hc
  simp only [codes1, List.mem_cons, List.not_mem_nil, or_false] at hc
  rcases hc with rfl | rfl | rfl | rfl | rfl | rfl | rfl | rfl | rfl | rfl | rfl
  · exact w_c0
  · exact w_c1
  · exact w_c2
  · exact w_c3
  · exact w_c4
  · exact w_c5
  · exact w_c6
  · exact w_c7
  · exact w_c8
  · exact w_c9
  · exact w_c10
set_option maxRecDepth 65536 in
theorem w_t1 : (words1.take 24).all (fun c => isCode c || c.before args0 about1) = true := by decide +kernel
set_option maxRecDepth 65536 in
theorem w_t2 : ((words1.drop 24).take 24).all (fun c => isCode c || c.before args0 about1) = true := by decide +kernel
set_option maxRecDepth 65536 in
theorem w_t3 : ((words1.drop 24).drop 24).all (fun c => isCode c || c.before args0 about1) = true := by decide +kernel
theorem w_tables : (allAtoms (Jvm.Cond.code x code maxLocals ret :: tables_1)).before args0 about1 = true := by
  rw [allAtoms_all]
  show words1.all (fun c => c.before args0 about1) = true
  refine all_split ?_ w_codes
  rw [← List.take_append_drop 24 words1, List.all_append, w_t1, ← List.take_append_drop 24 (words1.drop 24), List.all_append, w_t2, w_t3]
  rfl
set_option maxRecDepth 65536 in
theorem w_case : (Jvm.Cond.and given_1 narrow_1).before args0 about1 = true := by decide +kernel
theorem w_applies : (headSpec (Jvm.Cond.code x code maxLocals ret :: tables_1) room_1).applies x e0.platform about1 = true :=
  (Spec.applies_iff w_frames).mpr ⟨w_running, w_runnable, w_alone, w_named, w_hears, w_ripe, w_room, w_tables⟩
theorem atStart : AtStart classFile x code maxLocals ret World_1 tables_1 room_1 Calls_1 rest_1 Pre_1 launch0 p0 e0 about1 theMethod args0 below0 :=
  ⟨lists_1, trivial, launch0.admits_env _ _ _, launch0.least_env, fairChoices_fair.cas, fairChoices_fair.clock, w_frames, w_args, w_heap, w_applies, trivial, trivial, w_case⟩
end start1
theorem witness_1 : WitnessClaimed_1 := ⟨start1.p0, start1.e0, start1.about1, start1.theMethod, start1.args0, start1.below0, start1.atStart⟩
end Jvm.Pilot.@@N@@
