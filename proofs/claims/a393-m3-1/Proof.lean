import JvmDerived
import JvmDerived.Pilot.@@N@@Statement
import JvmDerived.Pilot.@@N@@Code
set_option linter.unusedVariables false
set_option linter.unusedSimpArgs false
set_option maxRecDepth 65536
namespace Jvm.Pilot.@@N@@
open Jvm Jvm.ClassFile Sem Op Lib Jvm.Free Jvm.Stand Jvm.LawKit Jvm.RoadKit Bundle Jvm.Pilot.@@N@@.Jvm.D
section OwnBase
/-- where a walk stands: the Stand, that nothing old was written, the heap -/
def Wd (p : Program) (l : Launch) (e : Env) (R : Room) (s : State) (m : MethodId) (args : Array Value) (below : List Frame) (meth : Method) (c : Code) (n0 : Nat) (T : State) (h : Heap) (cs ss : Nat) : Prop :=
  ∃ locs, Stand p l e R s m args below meth c T locs cs ss ∧ Fr n0 locs ∧ T.heap = h ∧ n0 ≤ s.heap.size
/-- from the frame g on the body comes to its end, and Q holds of what it returns and of the heap -/
def Go (p : Program) (e : Env) (below : List Frame) (s : State) (n0 : Nat) (Q : Option Value → Heap → Prop) (rc rs : Nat) (T : State) (g : JFrame) : Prop :=
  ∃ s₂ o, Steps p.tables e below (T.setTop g) s₂ ∧ s₂.status = .running ∧ Ended s₂ below o ∧ ∃ v L, o = .returned v ∧ (Q v s₂.heap ∧ Fr n0 L) ∧ FrameEnd s o s₂ L rc rs
/-- what a walk knows of the body that it walks -/
def Cx (p : Program) (s : State) (m : MethodId) (meth : Method) (c : Code) (Z : State) (own nm : String) (bytes : ByteArray) (maxL : Nat) (ret : Option FieldType) : Prop :=
  p.tables.exec = Jvm.exec ∧ Z.Warmed39 s.vm ∧ c.code = bytes ∧ c.maxLocals = maxL ∧ s.vm.findClass own = some m.cls ∧ meth.sig.returnType = ret ∧ meth.locks = false ∧ meth.name = nm
/-- a body's contract -/
def Mt (l : Launch) (Z : State) (y : MethodName) (bytes : ByteArray) (maxL : Nat) (ret : Option FieldType) (rm : Room) (n0 : Nat) (as' : Array Value) (h0 : Heap) (Q : Option Value → Heap → Prop) : Prop :=
  ∀ ws : List Jvm.Cond, MetFree l y (head1 (Jvm.Cond.code y bytes maxL ret :: ws) rm) (fun a U => a = as' ∧ Z.Warmed39 U.vm ∧ U.heap = h0) (fun _ _ _ _ _ => True) (fun _ U o U' => ∃ v L, o = .returned v ∧ (Q v U'.heap ∧ Fr n0 L) ∧ FrameEnd U o U' L rm.cells rm.slots)
variable {p : Program} {l : Launch} {e : Env} {R : Room} {s : State} {m : MethodId} {args : Array Value} {below : List Frame} {meth : Method} {c : Code} {Z : State} {own nm : String} {bytes : ByteArray} {maxL : Nat} {ret : Option FieldType} {T : State} {h : Heap} {cs ss n0 : Nat} {Q : Option Value → Heap → Prop} {rc rs : Nat} {pc pc' pf pt : Nat} {Ls Ls' : Array Slot} {st rest : List Value} {a0 : Array Value}
theorem Go.stp {T' : State} {g g' : JFrame} (q : ∀ target, Steps p.tables e below (T'.setTop g') target → Steps p.tables e below (T.setTop g) target) (G : Go p e below s n0 Q rc rs T' g') : Go p e below s n0 Q rc rs T g := by
  obtain ⟨s₂, o, h1, r⟩ := G
  exact ⟨s₂, o, q _ h1, r⟩
theorem Wd.mono {cs' ss' : Nat} (W : Wd p l e R s m args below meth c n0 T h cs ss) (h1 : cs ≤ cs') (h2 : ss ≤ ss') : Wd p l e R s m args below meth c n0 T h cs' ss' := by
  obtain ⟨locs, X, r⟩ := W
  exact ⟨locs, ⟨X.admits, X.cas, X.clock, X.frames, X.room, X.hears, X.method, X.code, X.here, X.tail, X.warmed, X.limits, X.bytes, X.same.mono h1 h2⟩, r⟩
theorem met_of {y : MethodName} {rm : Room} {as' : Array Value} {h0 : Heap} (hpl : plainFor y = true) (hent : ∀ m, entryFrame m as' maxL = mkF m 0 Ls []) (hn : n0 ≤ h0.size)
    (H : ∀ p e s m below meth c T, Cx p s m meth c Z y.cls y.name bytes maxL ret → Wd p l e rm s m as' below meth c n0 T h0 0 0 → Go p e below s n0 Q rm.cells rm.slots T (mkF m 0 Ls [])) :
    Mt l Z y bytes maxL ret rm n0 as' h0 Q := by
  intro ws
  refine MetFree.of_bodySF hpl hisR ?_
  intro p e s m args below meth c s₁ Bd hml0 hP hK
  obtain ⟨rfl, hZ, hh⟩ := hP
  have X0 := Stand.of_body Bd
  have e0 : s₁.heap = h0 := by rw [← hh, Bd.state]; rfl
  have G := H p e s m below meth c s₁ ⟨Bd.exec, hZ, Bd.bytes, hml0, findClass_of_methodNamed Bd.named, Bd.returns, Bd.notSynchronized, (name_of_methodNamed Bd.named Bd.method).1⟩ ⟨[], X0, Fr.nil n0, e0, by rw [hh]; exact hn⟩
  obtain ⟨s₂, o, h1, h2, h3, v, L, h4, h5, h6⟩ := G
  exact ⟨s₂, o, castTop (hent m) h1, h2, h3, v, L, h4, h5, h6⟩
/-! the single steps -/
theorem g_iload (K : Cx p s m meth c Z own nm bytes maxL ret) (W : Wd p l e R s m args below meth c n0 T h cs ss) {k : Nat} {v : Int32} (hd : decode bytes pc = .ok (.iload k, 2)) (hl : Ls[k]? = some (.val (.int v))) (hp : pc + 2 = pc') (G : Go p e below s n0 Q rc rs T (mkF m pc' Ls (.int v :: st))) : Go p e below s n0 Q rc rs T (mkF m pc Ls st) := by
  obtain ⟨_, X, -⟩ := W; subst hp
  exact Go.stp (g' := mkF m (pc + 2) Ls (.int v :: st)) (fun _ hr => XS.iload X.here K.1 rfl (hb K.2.2.1 hd) hl hr) G
theorem g_iloadN (K : Cx p s m meth c Z own nm bytes maxL ret) (W : Wd p l e R s m args below meth c n0 T h cs ss) {k : Fin 4} {v : Int32} (hd : decode bytes pc = .ok (.iload_n k, 1)) (hl : Ls[k.val]? = some (.val (.int v))) (hp : pc + 1 = pc') (G : Go p e below s n0 Q rc rs T (mkF m pc' Ls (.int v :: st))) : Go p e below s n0 Q rc rs T (mkF m pc Ls st) := by
  obtain ⟨_, X, -⟩ := W; subst hp
  exact Go.stp (g' := mkF m (pc + 1) Ls (.int v :: st)) (fun _ hr => XS.iloadN X.here K.1 rfl (hb K.2.2.1 hd) hl hr) G
theorem g_lload (K : Cx p s m meth c Z own nm bytes maxL ret) (W : Wd p l e R s m args below meth c n0 T h cs ss) {k : Nat} {v : Int64} (hd : decode bytes pc = .ok (.lload k, 2)) (hl : Ls[k]? = some (.val (.long v))) (hp : pc + 2 = pc') (G : Go p e below s n0 Q rc rs T (mkF m pc' Ls (.long v :: st))) : Go p e below s n0 Q rc rs T (mkF m pc Ls st) := by
  obtain ⟨_, X, -⟩ := W; subst hp
  exact Go.stp (g' := mkF m (pc + 2) Ls (.long v :: st)) (fun _ hr => XS.lload X.here K.1 rfl (hb K.2.2.1 hd) hl hr) G
theorem g_lloadN (K : Cx p s m meth c Z own nm bytes maxL ret) (W : Wd p l e R s m args below meth c n0 T h cs ss) {k : Fin 4} {v : Int64} (hd : decode bytes pc = .ok (.lload_n k, 1)) (hl : Ls[k.val]? = some (.val (.long v))) (hp : pc + 1 = pc') (G : Go p e below s n0 Q rc rs T (mkF m pc' Ls (.long v :: st))) : Go p e below s n0 Q rc rs T (mkF m pc Ls st) := by
  obtain ⟨_, X, -⟩ := W; subst hp
  exact Go.stp (g' := mkF m (pc + 1) Ls (.long v :: st)) (fun _ hr => XS.lloadN X.here K.1 rfl (hb K.2.2.1 hd) hl hr) G
theorem g_aload (K : Cx p s m meth c Z own nm bytes maxL ret) (W : Wd p l e R s m args below meth c n0 T h cs ss) {k : Nat} {v : Value} (hd : decode bytes pc = .ok (.aload k, 2)) (hl : Ls[k]? = some (.val v)) (hv : v.isRef = true) (hp : pc + 2 = pc') (G : Go p e below s n0 Q rc rs T (mkF m pc' Ls (v :: st))) : Go p e below s n0 Q rc rs T (mkF m pc Ls st) := by
  obtain ⟨_, X, -⟩ := W; subst hp
  exact Go.stp (g' := mkF m (pc + 2) Ls (v :: st)) (fun _ hr => XS.aload X.here K.1 rfl (hb K.2.2.1 hd) hl hv hr) G
theorem g_aloadN (K : Cx p s m meth c Z own nm bytes maxL ret) (W : Wd p l e R s m args below meth c n0 T h cs ss) {k : Fin 4} {v : Value} (hd : decode bytes pc = .ok (.aload_n k, 1)) (hl : Ls[k.val]? = some (.val v)) (hv : v.isRef = true) (hp : pc + 1 = pc') (G : Go p e below s n0 Q rc rs T (mkF m pc' Ls (v :: st))) : Go p e below s n0 Q rc rs T (mkF m pc Ls st) := by
  obtain ⟨_, X, -⟩ := W; subst hp
  exact Go.stp (g' := mkF m (pc + 1) Ls (v :: st)) (fun _ hr => XS.aloadN X.here K.1 rfl (hb K.2.2.1 hd) hl hv hr) G
theorem g_istore (K : Cx p s m meth c Z own nm bytes maxL ret) (W : Wd p l e R s m args below meth c n0 T h cs ss) {k : Nat} {x : Int32} (hd : decode bytes pc = .ok (.istore k, 2)) (hl : storeLocals Ls k (.int x) = some Ls') (hp : pc + 2 = pc') (G : Go p e below s n0 Q rc rs T (mkF m pc' Ls' st)) : Go p e below s n0 Q rc rs T (mkF m pc Ls (.int x :: st)) := by
  obtain ⟨_, X, -⟩ := W; subst hp
  exact Go.stp (g' := mkF m (pc + 2) Ls' st) (fun _ hr => XS.istore X.here K.1 rfl (hb K.2.2.1 hd) rfl hl hr) G
theorem g_istoreN (K : Cx p s m meth c Z own nm bytes maxL ret) (W : Wd p l e R s m args below meth c n0 T h cs ss) {k : Fin 4} {x : Int32} (hd : decode bytes pc = .ok (.istore_n k, 1)) (hl : storeLocals Ls k.val (.int x) = some Ls') (hp : pc + 1 = pc') (G : Go p e below s n0 Q rc rs T (mkF m pc' Ls' st)) : Go p e below s n0 Q rc rs T (mkF m pc Ls (.int x :: st)) := by
  obtain ⟨_, X, -⟩ := W; subst hp
  exact Go.stp (g' := mkF m (pc + 1) Ls' st) (fun _ hr => XS.istoreN X.here K.1 rfl (hb K.2.2.1 hd) rfl hl hr) G
theorem g_lstore (K : Cx p s m meth c Z own nm bytes maxL ret) (W : Wd p l e R s m args below meth c n0 T h cs ss) {k : Nat} {x : Int64} (hd : decode bytes pc = .ok (.lstore k, 2)) (hl : storeLocals Ls k (.long x) = some Ls') (hp : pc + 2 = pc') (G : Go p e below s n0 Q rc rs T (mkF m pc' Ls' st)) : Go p e below s n0 Q rc rs T (mkF m pc Ls (.long x :: st)) := by
  obtain ⟨_, X, -⟩ := W; subst hp
  exact Go.stp (g' := mkF m (pc + 2) Ls' st) (fun _ hr => XS.lstore X.here K.1 rfl (hb K.2.2.1 hd) rfl hl hr) G
theorem g_lstoreN (K : Cx p s m meth c Z own nm bytes maxL ret) (W : Wd p l e R s m args below meth c n0 T h cs ss) {k : Fin 4} {x : Int64} (hd : decode bytes pc = .ok (.lstore_n k, 1)) (hl : storeLocals Ls k.val (.long x) = some Ls') (hp : pc + 1 = pc') (G : Go p e below s n0 Q rc rs T (mkF m pc' Ls' st)) : Go p e below s n0 Q rc rs T (mkF m pc Ls (.long x :: st)) := by
  obtain ⟨_, X, -⟩ := W; subst hp
  exact Go.stp (g' := mkF m (pc + 1) Ls' st) (fun _ hr => XS.lstoreN X.here K.1 rfl (hb K.2.2.1 hd) rfl hl hr) G
theorem g_astore (K : Cx p s m meth c Z own nm bytes maxL ret) (W : Wd p l e R s m args below meth c n0 T h cs ss) {k : Nat} {x : Value} (hd : decode bytes pc = .ok (.astore k, 2)) (hv : x.isRef = true) (hl : storeLocals Ls k x = some Ls') (hp : pc + 2 = pc') (G : Go p e below s n0 Q rc rs T (mkF m pc' Ls' st)) : Go p e below s n0 Q rc rs T (mkF m pc Ls (x :: st)) := by
  obtain ⟨_, X, -⟩ := W; subst hp
  exact Go.stp (g' := mkF m (pc + 2) Ls' st) (fun _ hr => XS.astore X.here K.1 rfl (hb K.2.2.1 hd) rfl hv hl hr) G
theorem g_astoreN (K : Cx p s m meth c Z own nm bytes maxL ret) (W : Wd p l e R s m args below meth c n0 T h cs ss) {k : Fin 4} {x : Value} (hd : decode bytes pc = .ok (.astore_n k, 1)) (hv : x.isRef = true) (hl : storeLocals Ls k.val x = some Ls') (hp : pc + 1 = pc') (G : Go p e below s n0 Q rc rs T (mkF m pc' Ls' st)) : Go p e below s n0 Q rc rs T (mkF m pc Ls (x :: st)) := by
  obtain ⟨_, X, -⟩ := W; subst hp
  exact Go.stp (g' := mkF m (pc + 1) Ls' st) (fun _ hr => XS.astoreN X.here K.1 rfl (hb K.2.2.1 hd) rfl hv hl hr) G
theorem g_iconst (K : Cx p s m meth c Z own nm bytes maxL ret) (W : Wd p l e R s m args below meth c n0 T h cs ss) {i : Int} {v : Int32} (hd : decode bytes pc = .ok (.iconst i, 1)) (hv : Int32.ofInt i = v) (hp : pc + 1 = pc') (G : Go p e below s n0 Q rc rs T (mkF m pc' Ls (.int v :: st))) : Go p e below s n0 Q rc rs T (mkF m pc Ls st) := by
  obtain ⟨_, X, -⟩ := W; subst hp hv
  exact Go.stp (g' := mkF m (pc + 1) Ls (.int (Int32.ofInt i) :: st)) (fun _ hr => XS.iconst X.here K.1 rfl (hb K.2.2.1 hd) hr) G
theorem g_bipush (K : Cx p s m meth c Z own nm bytes maxL ret) (W : Wd p l e R s m args below meth c n0 T h cs ss) {i : Int} {v : Int32} (hd : decode bytes pc = .ok (.bipush i, 2)) (hv : (Int8.ofInt i).toInt32 = v) (hp : pc + 2 = pc') (G : Go p e below s n0 Q rc rs T (mkF m pc' Ls (.int v :: st))) : Go p e below s n0 Q rc rs T (mkF m pc Ls st) := by
  obtain ⟨_, X, -⟩ := W; subst hp hv
  exact Go.stp (g' := mkF m (pc + 2) Ls (.int ((Int8.ofInt i).toInt32) :: st)) (fun _ hr => XS.bipush X.here K.1 rfl (hb K.2.2.1 hd) hr) G
theorem g_sipush (K : Cx p s m meth c Z own nm bytes maxL ret) (W : Wd p l e R s m args below meth c n0 T h cs ss) {i : Int} {v : Int32} (hd : decode bytes pc = .ok (.sipush i, 3)) (hv : (Int16.ofInt i).toInt32 = v) (hp : pc + 3 = pc') (G : Go p e below s n0 Q rc rs T (mkF m pc' Ls (.int v :: st))) : Go p e below s n0 Q rc rs T (mkF m pc Ls st) := by
  obtain ⟨_, X, -⟩ := W; subst hp hv
  exact Go.stp (g' := mkF m (pc + 3) Ls (.int ((Int16.ofInt i).toInt32) :: st)) (fun _ hr => XS.sipush X.here K.1 rfl (hb K.2.2.1 hd) hr) G
theorem g_lconst (K : Cx p s m meth c Z own nm bytes maxL ret) (W : Wd p l e R s m args below meth c n0 T h cs ss) {k : Fin 2} {v : Int64} (hd : decode bytes pc = .ok (.lconst k, 1)) (hv : Int64.ofNat k = v) (hp : pc + 1 = pc') (G : Go p e below s n0 Q rc rs T (mkF m pc' Ls (.long v :: st))) : Go p e below s n0 Q rc rs T (mkF m pc Ls st) := by
  obtain ⟨_, X, -⟩ := W; subst hp hv
  exact Go.stp (g' := mkF m (pc + 1) Ls (.long (Int64.ofNat k) :: st)) (fun _ hr => XS.lconst X.here K.1 rfl (hb K.2.2.1 hd) hr) G
theorem g_null (K : Cx p s m meth c Z own nm bytes maxL ret) (W : Wd p l e R s m args below meth c n0 T h cs ss) (hd : decode bytes pc = .ok (.aconst_null, 1)) (hp : pc + 1 = pc') (G : Go p e below s n0 Q rc rs T (mkF m pc' Ls (.null :: st))) : Go p e below s n0 Q rc rs T (mkF m pc Ls st) := by
  obtain ⟨_, X, -⟩ := W; subst hp
  exact Go.stp (g' := mkF m (pc + 1) Ls (.null :: st)) (fun _ hr => XS.aconstNull X.here K.1 rfl (hb K.2.2.1 hd) hr) G
theorem g_ldc (K : Cx p s m meth c Z own nm bytes maxL ret) (W : Wd p l e R s m args below meth c n0 T h cs ss) {index : Nat} {v : Int32} (w : (Jvm.Cond.constant own index v).before a0 Z = true) (hd : decode bytes pc = .ok (.ldc index, 2)) (hp : pc + 2 = pc') (G : Go p e below s n0 Q rc rs T (mkF m pc' Ls (.int v :: st))) : Go p e below s n0 Q rc rs T (mkF m pc Ls st) := by
  obtain ⟨_, X, -⟩ := W; subst hp
  exact Go.stp (g' := mkF m (pc + 2) Ls (.int v :: st)) (X.ldcInt K.1 K.2.2.2.2.1 (mvT K.2.1 w) (g := mkF m pc Ls st) rfl (hb K.2.2.1 hd)) G
theorem g_ldc2 (K : Cx p s m meth c Z own nm bytes maxL ret) (W : Wd p l e R s m args below meth c n0 T h cs ss) {index : Nat} {v : Int64} (w : (Jvm.Cond.constantLong own index v).before a0 Z = true) (hd : decode bytes pc = .ok (.ldc2_w index, 3)) (hp : pc + 3 = pc') (G : Go p e below s n0 Q rc rs T (mkF m pc' Ls (.long v :: st))) : Go p e below s n0 Q rc rs T (mkF m pc Ls st) := by
  obtain ⟨_, X, -⟩ := W; subst hp
  exact Go.stp (g' := mkF m (pc + 3) Ls (.long v :: st)) (X.ldc2Long K.1 K.2.2.2.2.1 (mvT K.2.1 w) (g := mkF m pc Ls st) rfl (hb K.2.2.1 hd)) G
theorem g_iadd (K : Cx p s m meth c Z own nm bytes maxL ret) (W : Wd p l e R s m args below meth c n0 T h cs ss) {x y : Int32} (hd : decode bytes pc = .ok (.iadd, 1)) (hp : pc + 1 = pc') (G : Go p e below s n0 Q rc rs T (mkF m pc' Ls (.int (x + y) :: st))) : Go p e below s n0 Q rc rs T (mkF m pc Ls (.int y :: .int x :: st)) := by
  obtain ⟨_, X, -⟩ := W; subst hp
  exact Go.stp (g' := mkF m (pc + 1) Ls (.int (x + y) :: st)) (fun _ hr => XS.iadd X.here K.1 rfl (hb K.2.2.1 hd) rfl hr) G
theorem g_isub (K : Cx p s m meth c Z own nm bytes maxL ret) (W : Wd p l e R s m args below meth c n0 T h cs ss) {x y : Int32} (hd : decode bytes pc = .ok (.isub, 1)) (hp : pc + 1 = pc') (G : Go p e below s n0 Q rc rs T (mkF m pc' Ls (.int (x - y) :: st))) : Go p e below s n0 Q rc rs T (mkF m pc Ls (.int y :: .int x :: st)) := by
  obtain ⟨_, X, -⟩ := W; subst hp
  exact Go.stp (g' := mkF m (pc + 1) Ls (.int (x - y) :: st)) (fun _ hr => XS.isub X.here K.1 rfl (hb K.2.2.1 hd) rfl hr) G
theorem g_imul (K : Cx p s m meth c Z own nm bytes maxL ret) (W : Wd p l e R s m args below meth c n0 T h cs ss) {x y : Int32} (hd : decode bytes pc = .ok (.imul, 1)) (hp : pc + 1 = pc') (G : Go p e below s n0 Q rc rs T (mkF m pc' Ls (.int (x * y) :: st))) : Go p e below s n0 Q rc rs T (mkF m pc Ls (.int y :: .int x :: st)) := by
  obtain ⟨_, X, -⟩ := W; subst hp
  exact Go.stp (g' := mkF m (pc + 1) Ls (.int (x * y) :: st)) (fun _ hr => XS.imul X.here K.1 rfl (hb K.2.2.1 hd) rfl hr) G
theorem g_iand (K : Cx p s m meth c Z own nm bytes maxL ret) (W : Wd p l e R s m args below meth c n0 T h cs ss) {x y : Int32} (hd : decode bytes pc = .ok (.iand, 1)) (hp : pc + 1 = pc') (G : Go p e below s n0 Q rc rs T (mkF m pc' Ls (.int (x &&& y) :: st))) : Go p e below s n0 Q rc rs T (mkF m pc Ls (.int y :: .int x :: st)) := by
  obtain ⟨_, X, -⟩ := W; subst hp
  exact Go.stp (g' := mkF m (pc + 1) Ls (.int (x &&& y) :: st)) (fun _ hr => XS.iand X.here K.1 rfl (hb K.2.2.1 hd) rfl hr) G
theorem g_ior (K : Cx p s m meth c Z own nm bytes maxL ret) (W : Wd p l e R s m args below meth c n0 T h cs ss) {x y : Int32} (hd : decode bytes pc = .ok (.ior, 1)) (hp : pc + 1 = pc') (G : Go p e below s n0 Q rc rs T (mkF m pc' Ls (.int (x ||| y) :: st))) : Go p e below s n0 Q rc rs T (mkF m pc Ls (.int y :: .int x :: st)) := by
  obtain ⟨_, X, -⟩ := W; subst hp
  exact Go.stp (g' := mkF m (pc + 1) Ls (.int (x ||| y) :: st)) (fun _ hr => XS.ior X.here K.1 rfl (hb K.2.2.1 hd) rfl hr) G
theorem g_ixor (K : Cx p s m meth c Z own nm bytes maxL ret) (W : Wd p l e R s m args below meth c n0 T h cs ss) {x y : Int32} (hd : decode bytes pc = .ok (.ixor, 1)) (hp : pc + 1 = pc') (G : Go p e below s n0 Q rc rs T (mkF m pc' Ls (.int (x ^^^ y) :: st))) : Go p e below s n0 Q rc rs T (mkF m pc Ls (.int y :: .int x :: st)) := by
  obtain ⟨_, X, -⟩ := W; subst hp
  exact Go.stp (g' := mkF m (pc + 1) Ls (.int (x ^^^ y) :: st)) (fun _ hr => XS.ixor X.here K.1 rfl (hb K.2.2.1 hd) rfl hr) G
theorem g_ishl (K : Cx p s m meth c Z own nm bytes maxL ret) (W : Wd p l e R s m args below meth c n0 T h cs ss) {x y : Int32} (hd : decode bytes pc = .ok (.ishl, 1)) (hp : pc + 1 = pc') (G : Go p e below s n0 Q rc rs T (mkF m pc' Ls (.int (x <<< (y &&& 31)) :: st))) : Go p e below s n0 Q rc rs T (mkF m pc Ls (.int y :: .int x :: st)) := by
  obtain ⟨_, X, -⟩ := W; subst hp
  exact Go.stp (g' := mkF m (pc + 1) Ls (.int (x <<< (y &&& 31)) :: st)) (fun _ hr => XS.ishl X.here K.1 rfl (hb K.2.2.1 hd) rfl hr) G
theorem g_ishr (K : Cx p s m meth c Z own nm bytes maxL ret) (W : Wd p l e R s m args below meth c n0 T h cs ss) {x y : Int32} (hd : decode bytes pc = .ok (.ishr, 1)) (hp : pc + 1 = pc') (G : Go p e below s n0 Q rc rs T (mkF m pc' Ls (.int (x >>> (y &&& 31)) :: st))) : Go p e below s n0 Q rc rs T (mkF m pc Ls (.int y :: .int x :: st)) := by
  obtain ⟨_, X, -⟩ := W; subst hp
  exact Go.stp (g' := mkF m (pc + 1) Ls (.int (x >>> (y &&& 31)) :: st)) (fun _ hr => XS.ishr X.here K.1 rfl (hb K.2.2.1 hd) rfl hr) G
theorem g_iushr (K : Cx p s m meth c Z own nm bytes maxL ret) (W : Wd p l e R s m args below meth c n0 T h cs ss) {x y : Int32} (hd : decode bytes pc = .ok (.iushr, 1)) (hp : pc + 1 = pc') (G : Go p e below s n0 Q rc rs T (mkF m pc' Ls (.int ((x.toUInt32 >>> (y &&& 31).toUInt32).toInt32) :: st))) : Go p e below s n0 Q rc rs T (mkF m pc Ls (.int y :: .int x :: st)) := by
  obtain ⟨_, X, -⟩ := W; subst hp
  exact Go.stp (g' := mkF m (pc + 1) Ls (.int ((x.toUInt32 >>> (y &&& 31).toUInt32).toInt32) :: st)) (fun _ hr => XS.iushr X.here K.1 rfl (hb K.2.2.1 hd) rfl hr) G
theorem g_idiv (K : Cx p s m meth c Z own nm bytes maxL ret) (W : Wd p l e R s m args below meth c n0 T h cs ss) {x y : Int32} (hy : y ≠ 0) (hd : decode bytes pc = .ok (.idiv, 1)) (hp : pc + 1 = pc') (G : Go p e below s n0 Q rc rs T (mkF m pc' Ls (.int (x / y) :: st))) : Go p e below s n0 Q rc rs T (mkF m pc Ls (.int y :: .int x :: st)) := by
  obtain ⟨_, X, -⟩ := W; subst hp
  exact Go.stp (g' := mkF m (pc + 1) Ls (.int (x / y) :: st)) (fun _ hr => XS.idiv X.here K.1 rfl (hb K.2.2.1 hd) rfl hy hr) G
theorem g_irem (K : Cx p s m meth c Z own nm bytes maxL ret) (W : Wd p l e R s m args below meth c n0 T h cs ss) {x y : Int32} (hy : y ≠ 0) (hd : decode bytes pc = .ok (.irem, 1)) (hp : pc + 1 = pc') (G : Go p e below s n0 Q rc rs T (mkF m pc' Ls (.int (x % y) :: st))) : Go p e below s n0 Q rc rs T (mkF m pc Ls (.int y :: .int x :: st)) := by
  obtain ⟨_, X, -⟩ := W; subst hp
  exact Go.stp (g' := mkF m (pc + 1) Ls (.int (x % y) :: st)) (fun _ hr => iremM X K.1 rfl (hb K.2.2.1 hd) rfl hy hr) G
theorem g_ladd (K : Cx p s m meth c Z own nm bytes maxL ret) (W : Wd p l e R s m args below meth c n0 T h cs ss) {x y : Int64} (hd : decode bytes pc = .ok (.ladd, 1)) (hp : pc + 1 = pc') (G : Go p e below s n0 Q rc rs T (mkF m pc' Ls (.long (x + y) :: st))) : Go p e below s n0 Q rc rs T (mkF m pc Ls (.long y :: .long x :: st)) := by
  obtain ⟨_, X, -⟩ := W; subst hp
  exact Go.stp (g' := mkF m (pc + 1) Ls (.long (x + y) :: st)) (fun _ hr => XS.ladd X.here K.1 rfl (hb K.2.2.1 hd) rfl hr) G
theorem g_lsub (K : Cx p s m meth c Z own nm bytes maxL ret) (W : Wd p l e R s m args below meth c n0 T h cs ss) {x y : Int64} (hd : decode bytes pc = .ok (.lsub, 1)) (hp : pc + 1 = pc') (G : Go p e below s n0 Q rc rs T (mkF m pc' Ls (.long (x - y) :: st))) : Go p e below s n0 Q rc rs T (mkF m pc Ls (.long y :: .long x :: st)) := by
  obtain ⟨_, X, -⟩ := W; subst hp
  exact Go.stp (g' := mkF m (pc + 1) Ls (.long (x - y) :: st)) (fun _ hr => XS.lsub X.here K.1 rfl (hb K.2.2.1 hd) rfl hr) G
theorem g_lmul (K : Cx p s m meth c Z own nm bytes maxL ret) (W : Wd p l e R s m args below meth c n0 T h cs ss) {x y : Int64} (hd : decode bytes pc = .ok (.lmul, 1)) (hp : pc + 1 = pc') (G : Go p e below s n0 Q rc rs T (mkF m pc' Ls (.long (x * y) :: st))) : Go p e below s n0 Q rc rs T (mkF m pc Ls (.long y :: .long x :: st)) := by
  obtain ⟨_, X, -⟩ := W; subst hp
  exact Go.stp (g' := mkF m (pc + 1) Ls (.long (x * y) :: st)) (fun _ hr => XS.lmul X.here K.1 rfl (hb K.2.2.1 hd) rfl hr) G
theorem g_land (K : Cx p s m meth c Z own nm bytes maxL ret) (W : Wd p l e R s m args below meth c n0 T h cs ss) {x y : Int64} (hd : decode bytes pc = .ok (.land, 1)) (hp : pc + 1 = pc') (G : Go p e below s n0 Q rc rs T (mkF m pc' Ls (.long (x &&& y) :: st))) : Go p e below s n0 Q rc rs T (mkF m pc Ls (.long y :: .long x :: st)) := by
  obtain ⟨_, X, -⟩ := W; subst hp
  exact Go.stp (g' := mkF m (pc + 1) Ls (.long (x &&& y) :: st)) (fun _ hr => XS.land X.here K.1 rfl (hb K.2.2.1 hd) rfl hr) G
theorem g_lor (K : Cx p s m meth c Z own nm bytes maxL ret) (W : Wd p l e R s m args below meth c n0 T h cs ss) {x y : Int64} (hd : decode bytes pc = .ok (.lor, 1)) (hp : pc + 1 = pc') (G : Go p e below s n0 Q rc rs T (mkF m pc' Ls (.long (x ||| y) :: st))) : Go p e below s n0 Q rc rs T (mkF m pc Ls (.long y :: .long x :: st)) := by
  obtain ⟨_, X, -⟩ := W; subst hp
  exact Go.stp (g' := mkF m (pc + 1) Ls (.long (x ||| y) :: st)) (fun _ hr => XS.lor X.here K.1 rfl (hb K.2.2.1 hd) rfl hr) G
theorem g_lxor (K : Cx p s m meth c Z own nm bytes maxL ret) (W : Wd p l e R s m args below meth c n0 T h cs ss) {x y : Int64} (hd : decode bytes pc = .ok (.lxor, 1)) (hp : pc + 1 = pc') (G : Go p e below s n0 Q rc rs T (mkF m pc' Ls (.long (x ^^^ y) :: st))) : Go p e below s n0 Q rc rs T (mkF m pc Ls (.long y :: .long x :: st)) := by
  obtain ⟨_, X, -⟩ := W; subst hp
  exact Go.stp (g' := mkF m (pc + 1) Ls (.long (x ^^^ y) :: st)) (fun _ hr => XS.lxor X.here K.1 rfl (hb K.2.2.1 hd) rfl hr) G
theorem g_lshl (K : Cx p s m meth c Z own nm bytes maxL ret) (W : Wd p l e R s m args below meth c n0 T h cs ss) {x : Int64} {y : Int32} (hd : decode bytes pc = .ok (.lshl, 1)) (hp : pc + 1 = pc') (G : Go p e below s n0 Q rc rs T (mkF m pc' Ls (.long (x <<< (y &&& 0x3f).toInt64) :: st))) : Go p e below s n0 Q rc rs T (mkF m pc Ls (.int y :: .long x :: st)) := by
  obtain ⟨_, X, -⟩ := W; subst hp
  exact Go.stp (g' := mkF m (pc + 1) Ls (.long (x <<< (y &&& 0x3f).toInt64) :: st)) (fun _ hr => XS.lshl X.here K.1 rfl (hb K.2.2.1 hd) rfl hr) G
theorem g_lshr (K : Cx p s m meth c Z own nm bytes maxL ret) (W : Wd p l e R s m args below meth c n0 T h cs ss) {x : Int64} {y : Int32} (hd : decode bytes pc = .ok (.lshr, 1)) (hp : pc + 1 = pc') (G : Go p e below s n0 Q rc rs T (mkF m pc' Ls (.long (x >>> (y &&& 0x3f).toInt64) :: st))) : Go p e below s n0 Q rc rs T (mkF m pc Ls (.int y :: .long x :: st)) := by
  obtain ⟨_, X, -⟩ := W; subst hp
  exact Go.stp (g' := mkF m (pc + 1) Ls (.long (x >>> (y &&& 0x3f).toInt64) :: st)) (fun _ hr => XS.lshr X.here K.1 rfl (hb K.2.2.1 hd) rfl hr) G
theorem g_lushr (K : Cx p s m meth c Z own nm bytes maxL ret) (W : Wd p l e R s m args below meth c n0 T h cs ss) {x : Int64} {y : Int32} (hd : decode bytes pc = .ok (.lushr, 1)) (hp : pc + 1 = pc') (G : Go p e below s n0 Q rc rs T (mkF m pc' Ls (.long ((x.toUInt64 >>> (y &&& 0x3f).toInt64.toUInt64).toInt64) :: st))) : Go p e below s n0 Q rc rs T (mkF m pc Ls (.int y :: .long x :: st)) := by
  obtain ⟨_, X, -⟩ := W; subst hp
  exact Go.stp (g' := mkF m (pc + 1) Ls (.long ((x.toUInt64 >>> (y &&& 0x3f).toInt64.toUInt64).toInt64) :: st)) (fun _ hr => XS.lushr X.here K.1 rfl (hb K.2.2.1 hd) rfl hr) G
theorem g_ldiv (K : Cx p s m meth c Z own nm bytes maxL ret) (W : Wd p l e R s m args below meth c n0 T h cs ss) {x y : Int64} (hy : y ≠ 0) (hd : decode bytes pc = .ok (.ldiv, 1)) (hp : pc + 1 = pc') (G : Go p e below s n0 Q rc rs T (mkF m pc' Ls (.long (x / y) :: st))) : Go p e below s n0 Q rc rs T (mkF m pc Ls (.long y :: .long x :: st)) := by
  obtain ⟨_, X, -⟩ := W; subst hp
  exact Go.stp (g' := mkF m (pc + 1) Ls (.long (x / y) :: st)) (fun _ hr => XS.ldiv X.here K.1 rfl (hb K.2.2.1 hd) rfl hy hr) G
theorem g_lrem (K : Cx p s m meth c Z own nm bytes maxL ret) (W : Wd p l e R s m args below meth c n0 T h cs ss) {x y : Int64} (hy : y ≠ 0) (hd : decode bytes pc = .ok (.lrem, 1)) (hp : pc + 1 = pc') (G : Go p e below s n0 Q rc rs T (mkF m pc' Ls (.long (x - (x / y) * y) :: st))) : Go p e below s n0 Q rc rs T (mkF m pc Ls (.long y :: .long x :: st)) := by
  obtain ⟨_, X, -⟩ := W; subst hp
  exact Go.stp (g' := mkF m (pc + 1) Ls (.long (x - (x / y) * y) :: st)) (fun _ hr => XS.lrem X.here K.1 rfl (hb K.2.2.1 hd) rfl hy hr) G
theorem g_ineg (K : Cx p s m meth c Z own nm bytes maxL ret) (W : Wd p l e R s m args below meth c n0 T h cs ss) {x : Int32} (hd : decode bytes pc = .ok (.ineg, 1)) (hp : pc + 1 = pc') (G : Go p e below s n0 Q rc rs T (mkF m pc' Ls (.int (-x) :: st))) : Go p e below s n0 Q rc rs T (mkF m pc Ls (.int x :: st)) := by
  obtain ⟨_, X, -⟩ := W; subst hp
  exact Go.stp (g' := mkF m (pc + 1) Ls (.int (-x) :: st)) (fun _ hr => XS.ineg X.here K.1 rfl (hb K.2.2.1 hd) rfl hr) G
theorem g_i2b (K : Cx p s m meth c Z own nm bytes maxL ret) (W : Wd p l e R s m args below meth c n0 T h cs ss) {x : Int32} (hd : decode bytes pc = .ok (.i2b, 1)) (hp : pc + 1 = pc') (G : Go p e below s n0 Q rc rs T (mkF m pc' Ls (.int (x.toInt8.toInt32) :: st))) : Go p e below s n0 Q rc rs T (mkF m pc Ls (.int x :: st)) := by
  obtain ⟨_, X, -⟩ := W; subst hp
  exact Go.stp (g' := mkF m (pc + 1) Ls (.int (x.toInt8.toInt32) :: st)) (fun _ hr => XS.i2b X.here K.1 rfl (hb K.2.2.1 hd) rfl hr) G
theorem g_i2c (K : Cx p s m meth c Z own nm bytes maxL ret) (W : Wd p l e R s m args below meth c n0 T h cs ss) {x : Int32} (hd : decode bytes pc = .ok (.i2c, 1)) (hp : pc + 1 = pc') (G : Go p e below s n0 Q rc rs T (mkF m pc' Ls (.int (x.toUInt32.toUInt16.toUInt32.toInt32) :: st))) : Go p e below s n0 Q rc rs T (mkF m pc Ls (.int x :: st)) := by
  obtain ⟨_, X, -⟩ := W; subst hp
  exact Go.stp (g' := mkF m (pc + 1) Ls (.int (x.toUInt32.toUInt16.toUInt32.toInt32) :: st)) (fun _ hr => XS.i2c X.here K.1 rfl (hb K.2.2.1 hd) rfl hr) G
theorem g_i2s (K : Cx p s m meth c Z own nm bytes maxL ret) (W : Wd p l e R s m args below meth c n0 T h cs ss) {x : Int32} (hd : decode bytes pc = .ok (.i2s, 1)) (hp : pc + 1 = pc') (G : Go p e below s n0 Q rc rs T (mkF m pc' Ls (.int (x.toInt16.toInt32) :: st))) : Go p e below s n0 Q rc rs T (mkF m pc Ls (.int x :: st)) := by
  obtain ⟨_, X, -⟩ := W; subst hp
  exact Go.stp (g' := mkF m (pc + 1) Ls (.int (x.toInt16.toInt32) :: st)) (fun _ hr => XS.i2s X.here K.1 rfl (hb K.2.2.1 hd) rfl hr) G
theorem g_i2l (K : Cx p s m meth c Z own nm bytes maxL ret) (W : Wd p l e R s m args below meth c n0 T h cs ss) {x : Int32} (hd : decode bytes pc = .ok (.i2l, 1)) (hp : pc + 1 = pc') (G : Go p e below s n0 Q rc rs T (mkF m pc' Ls (.long (x.toInt64) :: st))) : Go p e below s n0 Q rc rs T (mkF m pc Ls (.int x :: st)) := by
  obtain ⟨_, X, -⟩ := W; subst hp
  exact Go.stp (g' := mkF m (pc + 1) Ls (.long (x.toInt64) :: st)) (fun _ hr => XS.i2l X.here K.1 rfl (hb K.2.2.1 hd) rfl hr) G
theorem g_l2i (K : Cx p s m meth c Z own nm bytes maxL ret) (W : Wd p l e R s m args below meth c n0 T h cs ss) {x : Int64} (hd : decode bytes pc = .ok (.l2i, 1)) (hp : pc + 1 = pc') (G : Go p e below s n0 Q rc rs T (mkF m pc' Ls (.int (x.toInt32) :: st))) : Go p e below s n0 Q rc rs T (mkF m pc Ls (.long x :: st)) := by
  obtain ⟨_, X, -⟩ := W; subst hp
  exact Go.stp (g' := mkF m (pc + 1) Ls (.int (x.toInt32) :: st)) (fun _ hr => XS.l2i X.here K.1 rfl (hb K.2.2.1 hd) rfl hr) G
theorem g_lneg (K : Cx p s m meth c Z own nm bytes maxL ret) (W : Wd p l e R s m args below meth c n0 T h cs ss) {x : Int64} (hd : decode bytes pc = .ok (.lneg, 1)) (hp : pc + 1 = pc') (G : Go p e below s n0 Q rc rs T (mkF m pc' Ls (.long (-x) :: st))) : Go p e below s n0 Q rc rs T (mkF m pc Ls (.long x :: st)) := by
  obtain ⟨_, X, -⟩ := W; subst hp
  exact Go.stp (g' := mkF m (pc + 1) Ls (.long (-x) :: st)) (fun _ hr => XS.lneg X.here K.1 rfl (hb K.2.2.1 hd) rfl hr) G
theorem g_iinc (K : Cx p s m meth c Z own nm bytes maxL ret) (W : Wd p l e R s m args below meth c n0 T h cs ss) {k : Nat} {cst : Int} {x : Int32} (hd : decode bytes pc = .ok (.iinc k cst, 3)) (hl : Ls[k]? = some (.val (.int x))) (hl' : storeLocals Ls k (.int (x + Int32.ofInt cst)) = some Ls') (hp : pc + 3 = pc') (G : Go p e below s n0 Q rc rs T (mkF m pc' Ls' st)) : Go p e below s n0 Q rc rs T (mkF m pc Ls st) := by
  obtain ⟨_, X, -⟩ := W; subst hp
  exact Go.stp (g' := mkF m (pc + 3) Ls' st) (fun _ hr => XS.iinc X.here K.1 rfl (hb K.2.2.1 hd) hl hl' hr) G
theorem g_dup (K : Cx p s m meth c Z own nm bytes maxL ret) (W : Wd p l e R s m args below meth c n0 T h cs ss) {x : Value} (hd : decode bytes pc = .ok (.dup, 1)) (hc : x.category = 1) (hp : pc + 1 = pc') (G : Go p e below s n0 Q rc rs T (mkF m pc' Ls (x :: x :: st))) : Go p e below s n0 Q rc rs T (mkF m pc Ls (x :: st)) := by
  obtain ⟨_, X, -⟩ := W; subst hp
  exact Go.stp (g' := mkF m (pc + 1) Ls (x :: x :: st)) (fun _ hr => XS.dup X.here K.1 rfl (hb K.2.2.1 hd) rfl hc hr) G
theorem g_pop (K : Cx p s m meth c Z own nm bytes maxL ret) (W : Wd p l e R s m args below meth c n0 T h cs ss) {x : Value} (hd : decode bytes pc = .ok (.pop, 1)) (hc : x.category = 1) (hp : pc + 1 = pc') (G : Go p e below s n0 Q rc rs T (mkF m pc' Ls st)) : Go p e below s n0 Q rc rs T (mkF m pc Ls (x :: st)) := by
  obtain ⟨_, X, -⟩ := W; subst hp
  exact Go.stp (g' := mkF m (pc + 1) Ls st) (fun _ hr => XS.pop X.here K.1 rfl (hb K.2.2.1 hd) rfl hc hr) G
theorem g_dup_x1 (K : Cx p s m meth c Z own nm bytes maxL ret) (W : Wd p l e R s m args below meth c n0 T h cs ss) {x y : Value} (hd : decode bytes pc = .ok (.dup_x1, 1)) (hc : x.category = 1) (hc2 : y.category = 1) (hp : pc + 1 = pc') (G : Go p e below s n0 Q rc rs T (mkF m pc' Ls (x :: y :: x :: st))) : Go p e below s n0 Q rc rs T (mkF m pc Ls (x :: y :: st)) := by
  obtain ⟨_, X, -⟩ := W; subst hp
  exact Go.stp (g' := mkF m (pc + 1) Ls (x :: y :: x :: st)) (fun _ hr => XS.dupX1 X.here K.1 rfl (hb K.2.2.1 hd) rfl hc hc2 hr) G
theorem g_dup2 (K : Cx p s m meth c Z own nm bytes maxL ret) (W : Wd p l e R s m args below meth c n0 T h cs ss) {x y : Value} (hd : decode bytes pc = .ok (.dup2, 1)) (hc : x.category = 1) (hc2 : y.category = 1) (hp : pc + 1 = pc') (G : Go p e below s n0 Q rc rs T (mkF m pc' Ls (x :: y :: x :: y :: st))) : Go p e below s n0 Q rc rs T (mkF m pc Ls (x :: y :: st)) := by
  obtain ⟨_, X, -⟩ := W; subst hp
  exact Go.stp (g' := mkF m (pc + 1) Ls (x :: y :: x :: y :: st)) (fun _ hr => XT.dup2 X.here K.1 rfl (hb K.2.2.1 hd) rfl hc hc2 hr) G
theorem g_dup2L (K : Cx p s m meth c Z own nm bytes maxL ret) (W : Wd p l e R s m args below meth c n0 T h cs ss) {x : Int64} (hd : decode bytes pc = .ok (.dup2, 1)) (hp : pc + 1 = pc') (G : Go p e below s n0 Q rc rs T (mkF m pc' Ls (.long x :: .long x :: st))) : Go p e below s n0 Q rc rs T (mkF m pc Ls (.long x :: st)) := by
  obtain ⟨_, X, -⟩ := W; subst hp
  exact Go.stp (g' := mkF m (pc + 1) Ls (.long x :: .long x :: st)) (fun _ hr => XT.dup2L X.here K.1 rfl (hb K.2.2.1 hd) rfl hr) G
theorem own_jmp {o : Int} (ht : (pc : Int) + o = (pt : Int)) : 0 ≤ (pc : Int) + o ∧ ((pc : Int) + o).toNat = pt := by omega
theorem g_goto (K : Cx p s m meth c Z own nm bytes maxL ret) (W : Wd p l e R s m args below meth c n0 T h cs ss) {o : Int} (hd : decode bytes pc = .ok (.goto o, 3)) (ht : (pc : Int) + o = (pt : Int)) (G : Go p e below s n0 Q rc rs T (mkF m pt Ls st)) : Go p e below s n0 Q rc rs T (mkF m pc Ls st) := by
  obtain ⟨_, X, -⟩ := W
  exact Go.stp (g' := mkF m pt Ls st) (fun _ hr => XS.goto X.here K.1 rfl (pc0 := pc) rfl (hb K.2.2.1 hd) (own_jmp ht).1 (own_jmp ht).2 hr) G
theorem g_icmp_eq (K : Cx p s m meth c Z own nm bytes maxL ret) (W : Wd p l e R s m args below meth c n0 T h cs ss) {x y : Int32} {o : Int} (hd : decode bytes pc = .ok (.if_icmp .eq o, 3)) (ht : (pc : Int) + o = (pt : Int)) (hp : pc + 3 = pf) (Gp : x = y → Go p e below s n0 Q rc rs T (mkF m pt Ls st)) (Gn : ¬ (x = y) → Go p e below s n0 Q rc rs T (mkF m pf Ls st)) : Go p e below s n0 Q rc rs T (mkF m pc Ls (.int y :: .int x :: st)) := by
  obtain ⟨_, X, -⟩ := W; subst hp
  by_cases q : x = y
  · exact Go.stp (g' := mkF m pt Ls st) (fun _ hr => XS.icmpYes X.here K.1 rfl (pc0 := pc) rfl (hb K.2.2.1 hd) rfl (Jvm.Free.XT.ii_eq_t q) (own_jmp ht).1 (own_jmp ht).2 hr) (Gp q)
  · exact Go.stp (g' := mkF m (pc + 3) Ls st) (fun _ hr => XS.icmpNo X.here K.1 rfl (hb K.2.2.1 hd) rfl (Jvm.Free.XT.ii_eq_f q) hr) (Gn q)
theorem g_if_eq (K : Cx p s m meth c Z own nm bytes maxL ret) (W : Wd p l e R s m args below meth c n0 T h cs ss) {x : Int32} {o : Int} (hd : decode bytes pc = .ok (.ifCond .eq o, 3)) (ht : (pc : Int) + o = (pt : Int)) (hp : pc + 3 = pf) (Gp : x = 0 → Go p e below s n0 Q rc rs T (mkF m pt Ls st)) (Gn : ¬ (x = 0) → Go p e below s n0 Q rc rs T (mkF m pf Ls st)) : Go p e below s n0 Q rc rs T (mkF m pc Ls (.int x :: st)) := by
  obtain ⟨_, X, -⟩ := W; subst hp
  by_cases q : x = 0
  · exact Go.stp (g' := mkF m pt Ls st) (fun _ hr => XS.ifYes X.here K.1 rfl (pc0 := pc) rfl (hb K.2.2.1 hd) rfl (Jvm.Free.XT.i0_eq_t q) (own_jmp ht).1 (own_jmp ht).2 hr) (Gp q)
  · exact Go.stp (g' := mkF m (pc + 3) Ls st) (fun _ hr => XS.ifNo X.here K.1 rfl (hb K.2.2.1 hd) rfl (Jvm.Free.XT.i0_eq_f q) hr) (Gn q)
theorem g_lcmp_eq (K : Cx p s m meth c Z own nm bytes maxL ret) (W : Wd p l e R s m args below meth c n0 T h cs ss) {x y : Int64} {o : Int} {pc1 : Nat} (hd0 : decode bytes pc = .ok (.lcmp, 1)) (hp0 : pc + 1 = pc1) (hd : decode bytes pc1 = .ok (.ifCond .eq o, 3)) (ht : (pc1 : Int) + o = (pt : Int)) (hp : pc1 + 3 = pf) (Gp : x = y → Go p e below s n0 Q rc rs T (mkF m pt Ls st)) (Gn : ¬ (x = y) → Go p e below s n0 Q rc rs T (mkF m pf Ls st)) : Go p e below s n0 Q rc rs T (mkF m pc Ls (.long y :: .long x :: st)) := by
  obtain ⟨_, X, -⟩ := W; subst hp hp0
  refine Go.stp (g' := mkF m (pc + 1) Ls (.int (Jvm.Free.XT.cmpL x y) :: st)) (fun _ hr => XS.lcmp X.here K.1 rfl (hb K.2.2.1 hd0) rfl hr) ?_
  by_cases q : x = y
  · exact Go.stp (g' := mkF m pt Ls st) (fun _ hr => XS.ifYes X.here K.1 rfl (pc0 := pc + 1) rfl (hb K.2.2.1 hd) rfl (Jvm.Free.XT.ll_eq_t q) (own_jmp ht).1 (own_jmp ht).2 hr) (Gp q)
  · exact Go.stp (g' := mkF m (pc + 1 + 3) Ls st) (fun _ hr => XS.ifNo X.here K.1 rfl (hb K.2.2.1 hd) rfl (Jvm.Free.XT.ll_eq_f q) hr) (Gn q)
theorem g_icmp_ne (K : Cx p s m meth c Z own nm bytes maxL ret) (W : Wd p l e R s m args below meth c n0 T h cs ss) {x y : Int32} {o : Int} (hd : decode bytes pc = .ok (.if_icmp .ne o, 3)) (ht : (pc : Int) + o = (pt : Int)) (hp : pc + 3 = pf) (Gp : x = y → Go p e below s n0 Q rc rs T (mkF m pf Ls st)) (Gn : ¬ (x = y) → Go p e below s n0 Q rc rs T (mkF m pt Ls st)) : Go p e below s n0 Q rc rs T (mkF m pc Ls (.int y :: .int x :: st)) := by
  obtain ⟨_, X, -⟩ := W; subst hp
  by_cases q : x = y
  · exact Go.stp (g' := mkF m (pc + 3) Ls st) (fun _ hr => XS.icmpNo X.here K.1 rfl (hb K.2.2.1 hd) rfl (Jvm.Free.XT.ii_ne_f q) hr) (Gp q)
  · exact Go.stp (g' := mkF m pt Ls st) (fun _ hr => XS.icmpYes X.here K.1 rfl (pc0 := pc) rfl (hb K.2.2.1 hd) rfl (Jvm.Free.XT.ii_ne_t q) (own_jmp ht).1 (own_jmp ht).2 hr) (Gn q)
theorem g_if_ne (K : Cx p s m meth c Z own nm bytes maxL ret) (W : Wd p l e R s m args below meth c n0 T h cs ss) {x : Int32} {o : Int} (hd : decode bytes pc = .ok (.ifCond .ne o, 3)) (ht : (pc : Int) + o = (pt : Int)) (hp : pc + 3 = pf) (Gp : x = 0 → Go p e below s n0 Q rc rs T (mkF m pf Ls st)) (Gn : ¬ (x = 0) → Go p e below s n0 Q rc rs T (mkF m pt Ls st)) : Go p e below s n0 Q rc rs T (mkF m pc Ls (.int x :: st)) := by
  obtain ⟨_, X, -⟩ := W; subst hp
  by_cases q : x = 0
  · exact Go.stp (g' := mkF m (pc + 3) Ls st) (fun _ hr => XS.ifNo X.here K.1 rfl (hb K.2.2.1 hd) rfl (Jvm.Free.XT.i0_ne_f q) hr) (Gp q)
  · exact Go.stp (g' := mkF m pt Ls st) (fun _ hr => XS.ifYes X.here K.1 rfl (pc0 := pc) rfl (hb K.2.2.1 hd) rfl (Jvm.Free.XT.i0_ne_t q) (own_jmp ht).1 (own_jmp ht).2 hr) (Gn q)
theorem g_lcmp_ne (K : Cx p s m meth c Z own nm bytes maxL ret) (W : Wd p l e R s m args below meth c n0 T h cs ss) {x y : Int64} {o : Int} {pc1 : Nat} (hd0 : decode bytes pc = .ok (.lcmp, 1)) (hp0 : pc + 1 = pc1) (hd : decode bytes pc1 = .ok (.ifCond .ne o, 3)) (ht : (pc1 : Int) + o = (pt : Int)) (hp : pc1 + 3 = pf) (Gp : x = y → Go p e below s n0 Q rc rs T (mkF m pf Ls st)) (Gn : ¬ (x = y) → Go p e below s n0 Q rc rs T (mkF m pt Ls st)) : Go p e below s n0 Q rc rs T (mkF m pc Ls (.long y :: .long x :: st)) := by
  obtain ⟨_, X, -⟩ := W; subst hp hp0
  refine Go.stp (g' := mkF m (pc + 1) Ls (.int (Jvm.Free.XT.cmpL x y) :: st)) (fun _ hr => XS.lcmp X.here K.1 rfl (hb K.2.2.1 hd0) rfl hr) ?_
  by_cases q : x = y
  · exact Go.stp (g' := mkF m (pc + 1 + 3) Ls st) (fun _ hr => XS.ifNo X.here K.1 rfl (hb K.2.2.1 hd) rfl (Jvm.Free.XT.ll_ne_f q) hr) (Gp q)
  · exact Go.stp (g' := mkF m pt Ls st) (fun _ hr => XS.ifYes X.here K.1 rfl (pc0 := pc + 1) rfl (hb K.2.2.1 hd) rfl (Jvm.Free.XT.ll_ne_t q) (own_jmp ht).1 (own_jmp ht).2 hr) (Gn q)
theorem g_icmp_lt (K : Cx p s m meth c Z own nm bytes maxL ret) (W : Wd p l e R s m args below meth c n0 T h cs ss) {x y : Int32} {o : Int} (hd : decode bytes pc = .ok (.if_icmp .lt o, 3)) (ht : (pc : Int) + o = (pt : Int)) (hp : pc + 3 = pf) (Gp : x < y → Go p e below s n0 Q rc rs T (mkF m pt Ls st)) (Gn : ¬ (x < y) → Go p e below s n0 Q rc rs T (mkF m pf Ls st)) : Go p e below s n0 Q rc rs T (mkF m pc Ls (.int y :: .int x :: st)) := by
  obtain ⟨_, X, -⟩ := W; subst hp
  by_cases q : x < y
  · exact Go.stp (g' := mkF m pt Ls st) (fun _ hr => XS.icmpYes X.here K.1 rfl (pc0 := pc) rfl (hb K.2.2.1 hd) rfl (Jvm.Free.XT.ii_lt_t q) (own_jmp ht).1 (own_jmp ht).2 hr) (Gp q)
  · exact Go.stp (g' := mkF m (pc + 3) Ls st) (fun _ hr => XS.icmpNo X.here K.1 rfl (hb K.2.2.1 hd) rfl (Jvm.Free.XT.ii_lt_f q) hr) (Gn q)
theorem g_if_lt (K : Cx p s m meth c Z own nm bytes maxL ret) (W : Wd p l e R s m args below meth c n0 T h cs ss) {x : Int32} {o : Int} (hd : decode bytes pc = .ok (.ifCond .lt o, 3)) (ht : (pc : Int) + o = (pt : Int)) (hp : pc + 3 = pf) (Gp : x < 0 → Go p e below s n0 Q rc rs T (mkF m pt Ls st)) (Gn : ¬ (x < 0) → Go p e below s n0 Q rc rs T (mkF m pf Ls st)) : Go p e below s n0 Q rc rs T (mkF m pc Ls (.int x :: st)) := by
  obtain ⟨_, X, -⟩ := W; subst hp
  by_cases q : x < 0
  · exact Go.stp (g' := mkF m pt Ls st) (fun _ hr => XS.ifYes X.here K.1 rfl (pc0 := pc) rfl (hb K.2.2.1 hd) rfl (Jvm.Free.XT.i0_lt_t q) (own_jmp ht).1 (own_jmp ht).2 hr) (Gp q)
  · exact Go.stp (g' := mkF m (pc + 3) Ls st) (fun _ hr => XS.ifNo X.here K.1 rfl (hb K.2.2.1 hd) rfl (Jvm.Free.XT.i0_lt_f q) hr) (Gn q)
theorem g_lcmp_lt (K : Cx p s m meth c Z own nm bytes maxL ret) (W : Wd p l e R s m args below meth c n0 T h cs ss) {x y : Int64} {o : Int} {pc1 : Nat} (hd0 : decode bytes pc = .ok (.lcmp, 1)) (hp0 : pc + 1 = pc1) (hd : decode bytes pc1 = .ok (.ifCond .lt o, 3)) (ht : (pc1 : Int) + o = (pt : Int)) (hp : pc1 + 3 = pf) (Gp : x < y → Go p e below s n0 Q rc rs T (mkF m pt Ls st)) (Gn : ¬ (x < y) → Go p e below s n0 Q rc rs T (mkF m pf Ls st)) : Go p e below s n0 Q rc rs T (mkF m pc Ls (.long y :: .long x :: st)) := by
  obtain ⟨_, X, -⟩ := W; subst hp hp0
  refine Go.stp (g' := mkF m (pc + 1) Ls (.int (Jvm.Free.XT.cmpL x y) :: st)) (fun _ hr => XS.lcmp X.here K.1 rfl (hb K.2.2.1 hd0) rfl hr) ?_
  by_cases q : x < y
  · exact Go.stp (g' := mkF m pt Ls st) (fun _ hr => XS.ifYes X.here K.1 rfl (pc0 := pc + 1) rfl (hb K.2.2.1 hd) rfl (Jvm.Free.XT.ll_lt_t q) (own_jmp ht).1 (own_jmp ht).2 hr) (Gp q)
  · exact Go.stp (g' := mkF m (pc + 1 + 3) Ls st) (fun _ hr => XS.ifNo X.here K.1 rfl (hb K.2.2.1 hd) rfl (Jvm.Free.XT.ll_lt_f q) hr) (Gn q)
theorem g_icmp_ge (K : Cx p s m meth c Z own nm bytes maxL ret) (W : Wd p l e R s m args below meth c n0 T h cs ss) {x y : Int32} {o : Int} (hd : decode bytes pc = .ok (.if_icmp .ge o, 3)) (ht : (pc : Int) + o = (pt : Int)) (hp : pc + 3 = pf) (Gp : x < y → Go p e below s n0 Q rc rs T (mkF m pf Ls st)) (Gn : ¬ (x < y) → Go p e below s n0 Q rc rs T (mkF m pt Ls st)) : Go p e below s n0 Q rc rs T (mkF m pc Ls (.int y :: .int x :: st)) := by
  obtain ⟨_, X, -⟩ := W; subst hp
  by_cases q : x < y
  · exact Go.stp (g' := mkF m (pc + 3) Ls st) (fun _ hr => XS.icmpNo X.here K.1 rfl (hb K.2.2.1 hd) rfl (Jvm.Free.XT.ii_ge_f q) hr) (Gp q)
  · exact Go.stp (g' := mkF m pt Ls st) (fun _ hr => XS.icmpYes X.here K.1 rfl (pc0 := pc) rfl (hb K.2.2.1 hd) rfl (Jvm.Free.XT.ii_ge_t q) (own_jmp ht).1 (own_jmp ht).2 hr) (Gn q)
theorem g_if_ge (K : Cx p s m meth c Z own nm bytes maxL ret) (W : Wd p l e R s m args below meth c n0 T h cs ss) {x : Int32} {o : Int} (hd : decode bytes pc = .ok (.ifCond .ge o, 3)) (ht : (pc : Int) + o = (pt : Int)) (hp : pc + 3 = pf) (Gp : x < 0 → Go p e below s n0 Q rc rs T (mkF m pf Ls st)) (Gn : ¬ (x < 0) → Go p e below s n0 Q rc rs T (mkF m pt Ls st)) : Go p e below s n0 Q rc rs T (mkF m pc Ls (.int x :: st)) := by
  obtain ⟨_, X, -⟩ := W; subst hp
  by_cases q : x < 0
  · exact Go.stp (g' := mkF m (pc + 3) Ls st) (fun _ hr => XS.ifNo X.here K.1 rfl (hb K.2.2.1 hd) rfl (Jvm.Free.XT.i0_ge_f q) hr) (Gp q)
  · exact Go.stp (g' := mkF m pt Ls st) (fun _ hr => XS.ifYes X.here K.1 rfl (pc0 := pc) rfl (hb K.2.2.1 hd) rfl (Jvm.Free.XT.i0_ge_t q) (own_jmp ht).1 (own_jmp ht).2 hr) (Gn q)
theorem g_lcmp_ge (K : Cx p s m meth c Z own nm bytes maxL ret) (W : Wd p l e R s m args below meth c n0 T h cs ss) {x y : Int64} {o : Int} {pc1 : Nat} (hd0 : decode bytes pc = .ok (.lcmp, 1)) (hp0 : pc + 1 = pc1) (hd : decode bytes pc1 = .ok (.ifCond .ge o, 3)) (ht : (pc1 : Int) + o = (pt : Int)) (hp : pc1 + 3 = pf) (Gp : x < y → Go p e below s n0 Q rc rs T (mkF m pf Ls st)) (Gn : ¬ (x < y) → Go p e below s n0 Q rc rs T (mkF m pt Ls st)) : Go p e below s n0 Q rc rs T (mkF m pc Ls (.long y :: .long x :: st)) := by
  obtain ⟨_, X, -⟩ := W; subst hp hp0
  refine Go.stp (g' := mkF m (pc + 1) Ls (.int (Jvm.Free.XT.cmpL x y) :: st)) (fun _ hr => XS.lcmp X.here K.1 rfl (hb K.2.2.1 hd0) rfl hr) ?_
  by_cases q : x < y
  · exact Go.stp (g' := mkF m (pc + 1 + 3) Ls st) (fun _ hr => XS.ifNo X.here K.1 rfl (hb K.2.2.1 hd) rfl (Jvm.Free.XT.ll_ge_f q) hr) (Gp q)
  · exact Go.stp (g' := mkF m pt Ls st) (fun _ hr => XS.ifYes X.here K.1 rfl (pc0 := pc + 1) rfl (hb K.2.2.1 hd) rfl (Jvm.Free.XT.ll_ge_t q) (own_jmp ht).1 (own_jmp ht).2 hr) (Gn q)
theorem g_icmp_gt (K : Cx p s m meth c Z own nm bytes maxL ret) (W : Wd p l e R s m args below meth c n0 T h cs ss) {x y : Int32} {o : Int} (hd : decode bytes pc = .ok (.if_icmp .gt o, 3)) (ht : (pc : Int) + o = (pt : Int)) (hp : pc + 3 = pf) (Gp : y < x → Go p e below s n0 Q rc rs T (mkF m pt Ls st)) (Gn : ¬ (y < x) → Go p e below s n0 Q rc rs T (mkF m pf Ls st)) : Go p e below s n0 Q rc rs T (mkF m pc Ls (.int y :: .int x :: st)) := by
  obtain ⟨_, X, -⟩ := W; subst hp
  by_cases q : y < x
  · exact Go.stp (g' := mkF m pt Ls st) (fun _ hr => XS.icmpYes X.here K.1 rfl (pc0 := pc) rfl (hb K.2.2.1 hd) rfl (Jvm.Free.XT.ii_gt_t q) (own_jmp ht).1 (own_jmp ht).2 hr) (Gp q)
  · exact Go.stp (g' := mkF m (pc + 3) Ls st) (fun _ hr => XS.icmpNo X.here K.1 rfl (hb K.2.2.1 hd) rfl (Jvm.Free.XT.ii_gt_f q) hr) (Gn q)
theorem g_if_gt (K : Cx p s m meth c Z own nm bytes maxL ret) (W : Wd p l e R s m args below meth c n0 T h cs ss) {x : Int32} {o : Int} (hd : decode bytes pc = .ok (.ifCond .gt o, 3)) (ht : (pc : Int) + o = (pt : Int)) (hp : pc + 3 = pf) (Gp : 0 < x → Go p e below s n0 Q rc rs T (mkF m pt Ls st)) (Gn : ¬ (0 < x) → Go p e below s n0 Q rc rs T (mkF m pf Ls st)) : Go p e below s n0 Q rc rs T (mkF m pc Ls (.int x :: st)) := by
  obtain ⟨_, X, -⟩ := W; subst hp
  by_cases q : 0 < x
  · exact Go.stp (g' := mkF m pt Ls st) (fun _ hr => XS.ifYes X.here K.1 rfl (pc0 := pc) rfl (hb K.2.2.1 hd) rfl (Jvm.Free.XT.i0_gt_t q) (own_jmp ht).1 (own_jmp ht).2 hr) (Gp q)
  · exact Go.stp (g' := mkF m (pc + 3) Ls st) (fun _ hr => XS.ifNo X.here K.1 rfl (hb K.2.2.1 hd) rfl (Jvm.Free.XT.i0_gt_f q) hr) (Gn q)
theorem g_lcmp_gt (K : Cx p s m meth c Z own nm bytes maxL ret) (W : Wd p l e R s m args below meth c n0 T h cs ss) {x y : Int64} {o : Int} {pc1 : Nat} (hd0 : decode bytes pc = .ok (.lcmp, 1)) (hp0 : pc + 1 = pc1) (hd : decode bytes pc1 = .ok (.ifCond .gt o, 3)) (ht : (pc1 : Int) + o = (pt : Int)) (hp : pc1 + 3 = pf) (Gp : y < x → Go p e below s n0 Q rc rs T (mkF m pt Ls st)) (Gn : ¬ (y < x) → Go p e below s n0 Q rc rs T (mkF m pf Ls st)) : Go p e below s n0 Q rc rs T (mkF m pc Ls (.long y :: .long x :: st)) := by
  obtain ⟨_, X, -⟩ := W; subst hp hp0
  refine Go.stp (g' := mkF m (pc + 1) Ls (.int (Jvm.Free.XT.cmpL x y) :: st)) (fun _ hr => XS.lcmp X.here K.1 rfl (hb K.2.2.1 hd0) rfl hr) ?_
  by_cases q : y < x
  · exact Go.stp (g' := mkF m pt Ls st) (fun _ hr => XS.ifYes X.here K.1 rfl (pc0 := pc + 1) rfl (hb K.2.2.1 hd) rfl (Jvm.Free.XT.ll_gt_t q) (own_jmp ht).1 (own_jmp ht).2 hr) (Gp q)
  · exact Go.stp (g' := mkF m (pc + 1 + 3) Ls st) (fun _ hr => XS.ifNo X.here K.1 rfl (hb K.2.2.1 hd) rfl (Jvm.Free.XT.ll_gt_f q) hr) (Gn q)
theorem g_icmp_le (K : Cx p s m meth c Z own nm bytes maxL ret) (W : Wd p l e R s m args below meth c n0 T h cs ss) {x y : Int32} {o : Int} (hd : decode bytes pc = .ok (.if_icmp .le o, 3)) (ht : (pc : Int) + o = (pt : Int)) (hp : pc + 3 = pf) (Gp : y < x → Go p e below s n0 Q rc rs T (mkF m pf Ls st)) (Gn : ¬ (y < x) → Go p e below s n0 Q rc rs T (mkF m pt Ls st)) : Go p e below s n0 Q rc rs T (mkF m pc Ls (.int y :: .int x :: st)) := by
  obtain ⟨_, X, -⟩ := W; subst hp
  by_cases q : y < x
  · exact Go.stp (g' := mkF m (pc + 3) Ls st) (fun _ hr => XS.icmpNo X.here K.1 rfl (hb K.2.2.1 hd) rfl (Jvm.Free.XT.ii_le_f q) hr) (Gp q)
  · exact Go.stp (g' := mkF m pt Ls st) (fun _ hr => XS.icmpYes X.here K.1 rfl (pc0 := pc) rfl (hb K.2.2.1 hd) rfl (Jvm.Free.XT.ii_le_t q) (own_jmp ht).1 (own_jmp ht).2 hr) (Gn q)
theorem g_if_le (K : Cx p s m meth c Z own nm bytes maxL ret) (W : Wd p l e R s m args below meth c n0 T h cs ss) {x : Int32} {o : Int} (hd : decode bytes pc = .ok (.ifCond .le o, 3)) (ht : (pc : Int) + o = (pt : Int)) (hp : pc + 3 = pf) (Gp : 0 < x → Go p e below s n0 Q rc rs T (mkF m pf Ls st)) (Gn : ¬ (0 < x) → Go p e below s n0 Q rc rs T (mkF m pt Ls st)) : Go p e below s n0 Q rc rs T (mkF m pc Ls (.int x :: st)) := by
  obtain ⟨_, X, -⟩ := W; subst hp
  by_cases q : 0 < x
  · exact Go.stp (g' := mkF m (pc + 3) Ls st) (fun _ hr => XS.ifNo X.here K.1 rfl (hb K.2.2.1 hd) rfl (Jvm.Free.XT.i0_le_f q) hr) (Gp q)
  · exact Go.stp (g' := mkF m pt Ls st) (fun _ hr => XS.ifYes X.here K.1 rfl (pc0 := pc) rfl (hb K.2.2.1 hd) rfl (Jvm.Free.XT.i0_le_t q) (own_jmp ht).1 (own_jmp ht).2 hr) (Gn q)
theorem g_lcmp_le (K : Cx p s m meth c Z own nm bytes maxL ret) (W : Wd p l e R s m args below meth c n0 T h cs ss) {x y : Int64} {o : Int} {pc1 : Nat} (hd0 : decode bytes pc = .ok (.lcmp, 1)) (hp0 : pc + 1 = pc1) (hd : decode bytes pc1 = .ok (.ifCond .le o, 3)) (ht : (pc1 : Int) + o = (pt : Int)) (hp : pc1 + 3 = pf) (Gp : y < x → Go p e below s n0 Q rc rs T (mkF m pf Ls st)) (Gn : ¬ (y < x) → Go p e below s n0 Q rc rs T (mkF m pt Ls st)) : Go p e below s n0 Q rc rs T (mkF m pc Ls (.long y :: .long x :: st)) := by
  obtain ⟨_, X, -⟩ := W; subst hp hp0
  refine Go.stp (g' := mkF m (pc + 1) Ls (.int (Jvm.Free.XT.cmpL x y) :: st)) (fun _ hr => XS.lcmp X.here K.1 rfl (hb K.2.2.1 hd0) rfl hr) ?_
  by_cases q : y < x
  · exact Go.stp (g' := mkF m (pc + 1 + 3) Ls st) (fun _ hr => XS.ifNo X.here K.1 rfl (hb K.2.2.1 hd) rfl (Jvm.Free.XT.ll_le_f q) hr) (Gp q)
  · exact Go.stp (g' := mkF m pt Ls st) (fun _ hr => XS.ifYes X.here K.1 rfl (pc0 := pc + 1) rfl (hb K.2.2.1 hd) rfl (Jvm.Free.XT.ll_le_t q) (own_jmp ht).1 (own_jmp ht).2 hr) (Gn q)
theorem g_ifnull_t (K : Cx p s m meth c Z own nm bytes maxL ret) (W : Wd p l e R s m args below meth c n0 T h cs ss) {o : Int} (hd : decode bytes pc = .ok (.ifnull o, 3)) (ht : (pc : Int) + o = (pt : Int)) (G : Go p e below s n0 Q rc rs T (mkF m pt Ls st)) : Go p e below s n0 Q rc rs T (mkF m pc Ls (.null :: st)) := by
  obtain ⟨_, X, -⟩ := W
  exact Go.stp (g' := mkF m pt Ls st) (fun _ hr => XS.ifnullYes X.here K.1 rfl (pc0 := pc) rfl (hb K.2.2.1 hd) rfl (own_jmp ht).1 (own_jmp ht).2 hr) G
theorem g_ifnull_f (K : Cx p s m meth c Z own nm bytes maxL ret) (W : Wd p l e R s m args below meth c n0 T h cs ss) {o : Int} {b : Addr} (hd : decode bytes pc = .ok (.ifnull o, 3)) (hp : pc + 3 = pf) (G : Go p e below s n0 Q rc rs T (mkF m pf Ls st)) : Go p e below s n0 Q rc rs T (mkF m pc Ls (.ref b :: st)) := by
  obtain ⟨_, X, -⟩ := W; subst hp
  exact Go.stp (g' := mkF m (pc + 3) Ls st) (fun _ hr => XS.ifnullNo X.here K.1 rfl (hb K.2.2.1 hd) rfl hr) G
theorem g_ifnonnull_t (K : Cx p s m meth c Z own nm bytes maxL ret) (W : Wd p l e R s m args below meth c n0 T h cs ss) {o : Int} {b : Addr} (hd : decode bytes pc = .ok (.ifnonnull o, 3)) (ht : (pc : Int) + o = (pt : Int)) (G : Go p e below s n0 Q rc rs T (mkF m pt Ls st)) : Go p e below s n0 Q rc rs T (mkF m pc Ls (.ref b :: st)) := by
  obtain ⟨_, X, -⟩ := W
  exact Go.stp (g' := mkF m pt Ls st) (fun _ hr => XS.ifnonnullYes X.here K.1 rfl (pc0 := pc) rfl (hb K.2.2.1 hd) rfl (own_jmp ht).1 (own_jmp ht).2 hr) G
theorem g_ifnonnull_f (K : Cx p s m meth c Z own nm bytes maxL ret) (W : Wd p l e R s m args below meth c n0 T h cs ss) {o : Int} (hd : decode bytes pc = .ok (.ifnonnull o, 3)) (hp : pc + 3 = pf) (G : Go p e below s n0 Q rc rs T (mkF m pf Ls st)) : Go p e below s n0 Q rc rs T (mkF m pc Ls (.null :: st)) := by
  obtain ⟨_, X, -⟩ := W; subst hp
  exact Go.stp (g' := mkF m (pc + 3) Ls st) (fun _ hr => XS.ifnonnullNo X.here K.1 rfl (hb K.2.2.1 hd) rfl hr) G
/-! the steps that read the tables or the heap -/
theorem Wd.sz (W : Wd p l e R s m args below meth c n0 T h cs ss) : n0 ≤ h.size := by
  obtain ⟨_, X, _, eT, q⟩ := W
  have r : s.heap.size ≤ T.heap.size := X.same.2.1
  rw [eT] at r
  exact Nat.le_trans q r
theorem g_getF (K : Cx p s m meth c Z own nm bytes maxL ret) (W : Wd p l e R s m args below meth c n0 T h cs ss) {R0 O n d host : String} {index : Nat} {a : Addr} {v : Value} (w : (Jvm.Cond.fieldLink own index R0 n d).before a0 Z = true ∨ (Jvm.Cond.fieldLinkNest own index R0 n d host).before a0 Z = true) (via : Via Z R0 O n d) (F : Fld Z h a O n d v) (hd : decode bytes pc = .ok (.getfield index, 3)) (hp : pc + 3 = pc')
    (G : ∀ T', Wd p l e R s m args below meth c n0 T' h cs ss → Go p e below s n0 Q rc rs T' (mkF m pc' Ls (v :: st))) : Go p e below s n0 Q rc rs T (mkF m pc Ls (.ref a :: st)) := by
  obtain ⟨locs, X, N, eT, z⟩ := W; subst hp
  obtain ⟨T', X', e', q⟩ := getF X K.1 K.2.1 K.2.2.2.2.1 w via eT F (g := mkF m pc Ls (.ref a :: st)) rfl rfl (hb K.2.2.1 hd)
  exact Go.stp q (G T' ⟨locs, X', N, e', z⟩)
theorem g_putF (K : Cx p s m meth c Z own nm bytes maxL ret) (W : Wd p l e R s m args below meth c n0 T h cs ss) {R0 O n d host C : String} {index kk : Nat} {ty : FieldType} {a : Addr} {v old : Value} (w : (Jvm.Cond.fieldLink own index R0 n d).before a0 Z = true ∨ (Jvm.Cond.fieldLinkNest own index R0 n d host).before a0 Z = true) (via : Via Z R0 O n d) (F : Fld Z h a O n d old) (E : Exa Z h a C)
    (L : (Jvm.Cond.lays C O n d).before a0 Z = true ∨ ((Jvm.Cond.laysFinal C O n d).before a0 Z = true ∧ own = O ∧ nm = "<init>")) (wi : (Jvm.Cond.instantiable C kk).before a0 Z = true) (hty : parseFieldDescriptor d = some ty) (hn : narrow ty v = v) (hf : fits ty v = true) (ha : n0 ≤ a) (hd : decode bytes pc = .ok (.putfield index, 3)) (hp : pc + 3 = pc')
    (G : ∀ T' h', Wd p l e R s m args below meth c n0 T' h' cs ss → Wr h h' a (Jvm.RoadKit.slotOf Z O n d) v → Go p e below s n0 Q rc rs T' (mkF m pc' Ls st)) : Go p e below s n0 Q rc rs T (mkF m pc Ls (v :: .ref a :: st)) := by
  obtain ⟨locs, X, N, eT, z⟩ := W; subst hp
  obtain ⟨T', h', X', e', w', q⟩ := putF X K.1 K.2.1 K.2.2.2.2.1 w via eT F E (L.imp id fun y => ⟨y.1, y.2.1, K.2.2.2.2.2.2.2.trans y.2.2⟩) wi hty hn hf (g := mkF m pc Ls (v :: .ref a :: st)) rfl rfl (hb K.2.2.1 hd)
  exact Go.stp q (G T' h' ⟨_, X', Fr.snoc X' N ha, e', z⟩ w')
theorem g_new (K : Cx p s m meth c Z own nm bytes maxL ret) (W : Wd p l e R s m args below meth c n0 T h cs ss) {C : String} {index n : Nat} (w : (Jvm.Cond.classLink own index C).before a0 Z = true) (wi : (Jvm.Cond.instantiable C n).before a0 Z = true) (wz : (Jvm.Cond.initialized C).before a0 Z = true) (hd : decode bytes pc = .ok (.new index, 3)) (hp : pc + 3 = pc') (hc : cs + 1 ≤ R.cells) (hl : ss + n ≤ R.slots)
    (G : ∀ T' h' a, Wd p l e R s m args below meth c n0 T' h' (cs + 1) (ss + n) → Ext h h' → a = h.size → n0 ≤ a → Exa Z h' a C → (∀ {O nm d : String} {ty : FieldType}, Laid Z a0 C O nm d → parseFieldDescriptor d = some ty → Fld Z h' a O nm d (defaultValue ty)) → Go p e below s n0 Q rc rs T' (mkF m pc' Ls (.ref a :: st))) : Go p e below s n0 Q rc rs T (mkF m pc Ls st) := by
  have zz := W.sz
  obtain ⟨locs, X, N, eT, z⟩ := W; subst hp
  obtain ⟨T', h', X', e', E, A, D, -, q⟩ := newO X K.1 K.2.1 K.2.2.2.2.1 w wi wz eT (g := mkF m pc Ls st) rfl (hb K.2.2.1 hd) hc hl
  exact Go.stp q (G T' h' _ ⟨_, X', N, e', z⟩ E rfl zz A (fun {O nm d ty} a b => D a b))
/-! the ways out -/
theorem g_ret0 (K : Cx p s m meth c Z own nm bytes maxL none) (W : Wd p l e R s m args below meth c n0 T h cs ss) (hd : decode bytes pc = .ok (.return_, 1)) (h1 : cs ≤ rc) (h2 : ss ≤ rs) (q : Q none h) : Go p e below s n0 Q rc rs T (mkF m pc Ls []) := by
  obtain ⟨locs, X, N, eT, z⟩ := W
  obtain ⟨fs, hr, hrun, hended, hW, hsame⟩ := X.leave (v := none) (fun _ => rfl) K.2.2.2.2.2.2.1
  exact ⟨_, _, X.returnOut K.1 K.2.2.2.2.2.1 (hb K.2.2.1 hd) hr, hrun, hended, _, _, rfl, ⟨by show Q none T.heap; rw [eT]; exact q, N⟩, ⟨_, rfl⟩, hW, hsame.mono h1 h2⟩
theorem g_retN {t : FieldType} {x v : Int32} (K : Cx p s m meth c Z own nm bytes maxL (some t)) (W : Wd p l e R s m args below meth c n0 T h cs ss) (ht : t = .boolean ∨ t = .byte ∨ t = .char ∨ t = .short) (hd : decode bytes pc = .ok (.ireturn, 1)) (h1 : cs ≤ rc) (h2 : ss ≤ rs) (hv : nar t x = v) (q : Q (some (.int v)) h) : Go p e below s n0 Q rc rs T (mkF m pc Ls (.int x :: st)) := by
  obtain ⟨locs, X, N, eT, z⟩ := W; subst hv
  obtain ⟨fs, hr, hrun, hended, hW, hsame⟩ := X.leave (v := some (.int (nar t x))) (fun y => by rw [K.2.2.2.2.2.1] at y; cases y) K.2.2.2.2.2.2.1
  exact ⟨_, _, retN X K.1 K.2.2.2.2.2.1 ht (hb K.2.2.1 hd) hr, hrun, hended, _, _, rfl, ⟨by show Q _ T.heap; rw [eT]; exact q, N⟩, ⟨_, rfl⟩, hW, hsame.mono h1 h2⟩
theorem g_retI {x : Int32} (K : Cx p s m meth c Z own nm bytes maxL (some .int)) (W : Wd p l e R s m args below meth c n0 T h cs ss) (hd : decode bytes pc = .ok (.ireturn, 1)) (h1 : cs ≤ rc) (h2 : ss ≤ rs) (q : Q (some (.int x)) h) : Go p e below s n0 Q rc rs T (mkF m pc Ls (.int x :: st)) := by
  obtain ⟨locs, X, N, eT, z⟩ := W
  obtain ⟨fs, hr, hrun, hended, hW, hsame⟩ := X.leave (v := some (.int x)) (fun y => by rw [K.2.2.2.2.2.1] at y; cases y) K.2.2.2.2.2.2.1
  exact ⟨_, _, retOut X K.1 K.2.2.2.2.2.1 rfl (Or.inl ⟨rfl, Or.inl rfl, _, rfl⟩) (hb K.2.2.1 hd) hr, hrun, hended, _, _, rfl, ⟨by show Q _ T.heap; rw [eT]; exact q, N⟩, ⟨_, rfl⟩, hW, hsame.mono h1 h2⟩
theorem g_retL {x : Int64} (K : Cx p s m meth c Z own nm bytes maxL (some .long)) (W : Wd p l e R s m args below meth c n0 T h cs ss) (hd : decode bytes pc = .ok (.lreturn, 1)) (h1 : cs ≤ rc) (h2 : ss ≤ rs) (q : Q (some (.long x)) h) : Go p e below s n0 Q rc rs T (mkF m pc Ls (.long x :: st)) := by
  obtain ⟨locs, X, N, eT, z⟩ := W
  obtain ⟨fs, hr, hrun, hended, hW, hsame⟩ := X.leave (v := some (.long x)) (fun y => by rw [K.2.2.2.2.2.1] at y; cases y) K.2.2.2.2.2.2.1
  exact ⟨_, _, retOut X K.1 K.2.2.2.2.2.1 rfl (Or.inr (Or.inl ⟨rfl, rfl, _, rfl⟩)) (hb K.2.2.1 hd) hr, hrun, hended, _, _, rfl, ⟨by show Q _ T.heap; rw [eT]; exact q, N⟩, ⟨_, rfl⟩, hW, hsame.mono h1 h2⟩
theorem g_retA {t : FieldType} {x : Value} (K : Cx p s m meth c Z own nm bytes maxL (some t)) (W : Wd p l e R s m args below meth c n0 T h cs ss) (ht : t.isReference = true) (hn : narrow t x = x) (hx : x.isRef = true) (hd : decode bytes pc = .ok (.areturn, 1)) (h1 : cs ≤ rc) (h2 : ss ≤ rs) (q : Q (some x) h) : Go p e below s n0 Q rc rs T (mkF m pc Ls (x :: st)) := by
  obtain ⟨locs, X, N, eT, z⟩ := W
  obtain ⟨fs, hr, hrun, hended, hW, hsame⟩ := X.leave (v := some x) (fun y => by rw [K.2.2.2.2.2.1] at y; cases y) K.2.2.2.2.2.2.1
  exact ⟨_, _, retOut X K.1 K.2.2.2.2.2.1 hn (Or.inr (Or.inr (Or.inr (Or.inr ⟨rfl, ht, hx⟩)))) (hb K.2.2.1 hd) hr, hrun, hended, _, _, rfl, ⟨by show Q _ T.heap; rw [eT]; exact q, N⟩, ⟨_, rfl⟩, hW, hsame.mono h1 h2⟩
/-! the calls, each by its callee's contract -/
theorem g_callS {y : MethodName} {yb : ByteArray} {yl : Nat} {yr : Option FieldType} {rm : Room} {argsL : List Value} {Qc : Option Value → Heap → Prop} {index : Nat} (M : Mt l Z y yb yl yr rm n0 argsL.toArray h Qc) (K : Cx p s m meth c Z own nm bytes maxL ret) (W : Wd p l e R s m args below meth c n0 T h cs ss)
    (wl : (Jvm.Cond.methodLink own index y).before a0 Z = true) (ws : (Jvm.Cond.static y).before a0 Z = true) (wi : (Jvm.Cond.initialized y.cls).before a0 Z = true) (wc : (Jvm.Cond.code y yb yl yr).before a0 Z = true) (hy : y.cls ≠ "java/lang/invoke/MethodHandle" ∧ y.cls ≠ "java/lang/invoke/VarHandle")
    (hlen : ∀ sig, parseMethodDescriptor y.desc = some sig → argsL.length = sig.parameters.length) (hd : decode bytes pc = .ok (.invokestatic index, 3)) (hp : pc + 3 = pc') (hst : st = argsL.reverse ++ rest) (hsz : Ls.size = maxL) (hf : rm.frames + 1 ≤ R.frames) {wt : Nat} (hwt : (rest.map fun v => v.category).sum = wt) (hl : wt + (yl + 11) + rm.locals ≤ R.locals) (hc : cs + rm.cells ≤ R.cells) (hs : ss + rm.slots ≤ R.slots)
    (G : ∀ T' h' v, Wd p l e R s m args below meth c n0 T' h' (cs + rm.cells) (ss + rm.slots) → Qc v h' → Go p e below s n0 Q rc rs T' (mkF m pc' Ls (v.toList ++ rest))) : Go p e below s n0 Q rc rs T (mkF m pc Ls st) := by
  obtain ⟨locs, X, N, eT, z⟩ := W; subst hp hwt
  obtain ⟨v, _, ⟨T', L', k', n'⟩, -, X', ⟨Lc, hQ, l1, l2, l3⟩, q⟩ := Jvm.LawKit.callS X K.1 (y := y) K.2.2.2.2.1 (mvT K.2.1 wl) (mvT K.2.1 ws) (mvT K.2.1 wi) (mvT K.2.1 wc) hy (backOf (W := (rest.map fun v => v.category).sum) (Q := fun v hh L => Qc v hh ∧ Fr n0 L) (M []) K.2.1 wc wi hf hl) (g := mkF m pc Ls st) rfl (hsz.trans K.2.2.2.1.symm) (argsL := argsL) (rest := rest) hlen hst (by show 2 * 0 + _ ≤ _; omega) (hb K.2.2.1 hd) (fun _ _ => ⟨rfl, eT, hc, hs⟩)
  dsimp only [Pt.U, Pt.locs, Pt.cells, Pt.slots] at X' l1 l2 l3 q hQ
  subst l1 l2 l3
  exact Go.stp q (G T' T'.heap v ⟨_, X', Fr.app N hQ.2, rfl, z⟩ hQ.1)
theorem g_callN {y : MethodName} {yb : ByteArray} {yl : Nat} {rm : Room} {argsL : List Value} {Qc : Option Value → Heap → Prop} {index : Nat} {a : Addr} (M : Mt l Z y yb yl none rm n0 (.ref a :: argsL).toArray h Qc) (K : Cx p s m meth c Z own nm bytes maxL ret) (W : Wd p l e R s m args below meth c n0 T h cs ss) (hy1 : y.name = "<init>")
    (wl : (Jvm.Cond.methodLink own index y).before a0 Z = true) (ws : (Jvm.Cond.instanceMethod y).before a0 Z = true) (wi : (Jvm.Cond.initialized y.cls).before a0 Z = true) (wc : (Jvm.Cond.code y yb yl none).before a0 Z = true) (hy : y.cls ≠ "java/lang/invoke/MethodHandle" ∧ y.cls ≠ "java/lang/invoke/VarHandle")
    (hlen : ∀ sig, parseMethodDescriptor y.desc = some sig → argsL.length = sig.parameters.length) (hd : decode bytes pc = .ok (.invokespecial index, 3)) (hp : pc + 3 = pc') (hst : st = argsL.reverse ++ .ref a :: rest) (hsz : Ls.size = maxL) (hf : rm.frames + 1 ≤ R.frames) {wt : Nat} (hwt : (rest.map fun v => v.category).sum = wt) (hl : wt + (yl + 11) + rm.locals ≤ R.locals) (hc : cs + rm.cells ≤ R.cells) (hs : ss + rm.slots ≤ R.slots)
    (G : ∀ T' h' v, Wd p l e R s m args below meth c n0 T' h' (cs + rm.cells) (ss + rm.slots) → Qc v h' → Go p e below s n0 Q rc rs T' (mkF m pc' Ls (v.toList ++ rest))) : Go p e below s n0 Q rc rs T (mkF m pc Ls st) := by
  obtain ⟨locs, X, N, eT, z⟩ := W; subst hp hwt
  obtain ⟨v, _, ⟨T', L', k', n'⟩, -, X', ⟨Lc, hQ, l1, l2, l3⟩, q⟩ := X.specialBack K.1 (y := y) hy1 K.2.2.2.2.1 (mvT K.2.1 wl) (mvT K.2.1 ws) (mvT K.2.1 wc) hy (backOf (W := (rest.map fun v => v.category).sum) (Q := fun v hh L => Qc v hh ∧ Fr n0 L) (M []) K.2.1 wc wi hf hl) (g := mkF m pc Ls st) rfl (hsz.trans K.2.2.2.1.symm) (Steps.refl _) (a := a) (argsL := argsL) (rest := rest) hlen hst (by show 2 * 0 + _ ≤ _; omega) (hb K.2.2.1 hd) (fun _ _ => ⟨rfl, eT, hc, hs⟩)
  dsimp only [Pt.U, Pt.locs, Pt.cells, Pt.slots] at X' l1 l2 l3 q hQ
  subst l1 l2 l3
  exact Go.stp (fun _ k => q.trans k) (G T' T'.heap v ⟨_, X', Fr.app N hQ.2, rfl, z⟩ hQ.1)
theorem g_callV {y : MethodName} {yb : ByteArray} {yl : Nat} {yr : Option FieldType} {rm : Room} {argsL : List Value} {Qc : Option Value → Heap → Prop} {index : Nat} {C : String} {a : Addr} {x : MethodName} (M : Mt l Z y yb yl yr rm n0 (.ref a :: argsL).toArray h Qc) (K : Cx p s m meth c Z own nm bytes maxL ret) (W : Wd p l e R s m args below meth c n0 T h cs ss) (E : Exa Z h a C)
    (wl : (Jvm.Cond.methodLink own index x).before a0 Z = true) (wd : (Jvm.Cond.declares x).before a0 Z = true) (wx : (Jvm.Cond.selects x.cls x x).before a0 Z = true) (wsel : (Jvm.Cond.selects C x y).before a0 Z = true) (ws : (Jvm.Cond.instanceMethod y).before a0 Z = true) (wi : (Jvm.Cond.initialized y.cls).before a0 Z = true) (wc : (Jvm.Cond.code y yb yl yr).before a0 Z = true) (hy : x.cls ≠ "java/lang/invoke/MethodHandle" ∧ x.cls ≠ "java/lang/invoke/VarHandle")
    (hlen : ∀ sig, parseMethodDescriptor x.desc = some sig → argsL.length = sig.parameters.length) (hd : decode bytes pc = .ok (.invokevirtual index, 3)) (hp : pc + 3 = pc') (hst : st = argsL.reverse ++ .ref a :: rest) (hsz : Ls.size = maxL) (hf : rm.frames + 1 ≤ R.frames) {wt : Nat} (hwt : (rest.map fun v => v.category).sum = wt) (hl : wt + (yl + 11) + rm.locals ≤ R.locals) (hc : cs + rm.cells ≤ R.cells) (hs : ss + rm.slots ≤ R.slots)
    (G : ∀ T' h' v, Wd p l e R s m args below meth c n0 T' h' (cs + rm.cells) (ss + rm.slots) → Qc v h' → Go p e below s n0 Q rc rs T' (mkF m pc' Ls (v.toList ++ rest))) : Go p e below s n0 Q rc rs T (mkF m pc Ls st) := by
  obtain ⟨locs, X, N, eT, z⟩ := W; subst hp hwt
  obtain ⟨cq, kq, qa, qb, qc⟩ := isOf K.2.1 eT E
  obtain ⟨v, _, ⟨T', L', k', n'⟩, -, X', ⟨Lc, hQ, l1, l2, l3⟩, q⟩ := X.virtualBack K.1 (y := x) (z := y) K.2.2.2.2.1 (mvT K.2.1 wl) (mvT K.2.1 wd) (notFace_of_selects (args := #[]) (mvT K.2.1 wx)) (mvT K.2.1 wsel) (mvT K.2.1 ws) hy (backOf (W := (rest.map fun v => v.category).sum) (Q := fun v hh L => Qc v hh ∧ Fr n0 L) (M []) K.2.1 wc wi hf hl) qa qc (g := mkF m pc Ls st) rfl (hsz.trans K.2.2.2.1.symm) (Steps.refl _) (argsL := argsL) (rest := rest) hlen hst (by show 2 * 0 + _ ≤ _; omega) (hb K.2.2.1 hd) (fun _ _ => ⟨rfl, eT, hc, hs⟩)
  dsimp only [Pt.U, Pt.locs, Pt.cells, Pt.slots] at X' l1 l2 l3 q hQ
  subst l1 l2 l3
  exact Go.stp (fun _ k => q.trans k) (G T' T'.heap v ⟨_, X', Fr.app N hQ.2, rfl, z⟩ hQ.1)
theorem g_callP {y : MethodName} {yb : ByteArray} {yl : Nat} {yr : Option FieldType} {rm : Room} {argsL : List Value} {Qc : Option Value → Heap → Prop} {index : Nat} {a : Addr} (M : Mt l Z y yb yl yr rm n0 (.ref a :: argsL).toArray h Qc) (K : Cx p s m meth c Z own nm bytes maxL ret) (W : Wd p l e R s m args below meth c n0 T h cs ss) (hcell : ∃ c : Cell, h[a]? = some c ∧ ∀ q, c.vm ≠ .statics q)
    (wl : (Jvm.Cond.methodLink own index y).before a0 Z = true) (ws : (Jvm.Cond.instanceMethod y).before a0 Z = true) {kk : Nat} (wk : (Jvm.Cond.instantiable y.cls kk).before a0 Z = true) (wp : (Jvm.Cond.privateMethod y).before a0 Z = true) (wi : (Jvm.Cond.initialized y.cls).before a0 Z = true) (wc : (Jvm.Cond.code y yb yl yr).before a0 Z = true) (hy : y.cls ≠ "java/lang/invoke/MethodHandle" ∧ y.cls ≠ "java/lang/invoke/VarHandle")
    (hlen : ∀ sig, parseMethodDescriptor y.desc = some sig → argsL.length = sig.parameters.length) (hd : decode bytes pc = .ok (.invokevirtual index, 3)) (hp : pc + 3 = pc') (hst : st = argsL.reverse ++ .ref a :: rest) (hsz : Ls.size = maxL) (hf : rm.frames + 1 ≤ R.frames) {wt : Nat} (hwt : (rest.map fun v => v.category).sum = wt) (hl : wt + (yl + 11) + rm.locals ≤ R.locals) (hc : cs + rm.cells ≤ R.cells) (hs : ss + rm.slots ≤ R.slots)
    (G : ∀ T' h' v, Wd p l e R s m args below meth c n0 T' h' (cs + rm.cells) (ss + rm.slots) → Qc v h' → Go p e below s n0 Q rc rs T' (mkF m pc' Ls (v.toList ++ rest))) : Go p e below s n0 Q rc rs T (mkF m pc Ls st) := by
  obtain ⟨locs, X, N, eT, z⟩ := W; subst hp hwt
  obtain ⟨cl, hc1, hc2⟩ := hcell
  have wk' : (Jvm.Cond.instantiable y.cls kk).before args s = true := mvT K.2.1 wk
  obtain ⟨ck, kc, f1, f2, f3, f4, -⟩ := Jvm.Cond.instantiable_spec wk'
  have hpr : s.PrivateAt y := Jvm.Cond.privateMethod_at (mvP K.2.1 wp (args := #[]))
  have hsel : (Jvm.Cond.selects y.cls y y).before args s = true := Jvm.Stand.selects_self_of_private f1 f2 (by simpa using (Bool.or_eq_false_iff.mp f4).1) hpr (mvT K.2.1 ws) hy
  obtain ⟨v, _, ⟨T', L', k', n'⟩, -, X', ⟨Lc, hQ, l1, l2, l3⟩, q⟩ := X.privateBack K.1 (y := y) K.2.2.2.2.1 (mvT K.2.1 wl) (mvT K.2.1 ws) hsel hpr (mvT K.2.1 wc) hy (backOf (W := (rest.map fun v => v.category).sum) (Q := fun v hh L => Qc v hh ∧ Fr n0 L) (M []) K.2.1 wc wi hf hl) (g := mkF m pc Ls st) rfl (hsz.trans K.2.2.2.1.symm) (Steps.refl _) (a := a) (by rw [eT]; exact hc1) hc2 (argsL := argsL) (rest := rest) hlen hst (by show 2 * 0 + _ ≤ _; omega) (hb K.2.2.1 hd) (fun _ _ => ⟨rfl, eT, hc, hs⟩)
  dsimp only [Pt.U, Pt.locs, Pt.cells, Pt.slots] at X' l1 l2 l3 q hQ
  subst l1 l2 l3
  exact Go.stp (fun _ k => q.trans k) (G T' T'.heap v ⟨_, X', Fr.app N hQ.2, rfl, z⟩ hQ.1)
/-! arrays: n places, place j holds f j -/
def AyI (Z : State) (h : Heap) (a : Addr) (ty : FieldType) (n : Nat) (f : Nat → Int32) : Prop := ∃ cl : Cell, Arr Z h a cl ty ∧ cl.slots.size = n ∧ ∀ j, j < n → cl.slots[j]? = some (.int (f j))
def AyJ (Z : State) (h : Heap) (a : Addr) (n : Nat) (f : Nat → Int64) : Prop := ∃ cl : Cell, Arr Z h a cl .long ∧ cl.slots.size = n ∧ ∀ j, j < n → cl.slots[j]? = some (.long (f j))
def upd {α : Type} (f : Nat → α) (k : Nat) (v : α) : Nat → α := fun j => if j = k then v else f j
theorem upd_same {α : Type} (f : Nat → α) (k : Nat) (v : α) : upd f k v k = v := if_pos rfl
theorem upd_ne {α : Type} (f : Nat → α) {k j : Nat} (v : α) (q : j ≠ k) : upd f k v j = f j := if_neg q
theorem own_ix {j : Int32} {k : Nat} (hj : j.toInt = (k : Int)) : ¬ j < 0 ∧ j.toNatClampNeg = k := by
  refine ⟨fun q => ?_, ?_⟩
  · rw [Int32.lt_iff_toInt_lt, hj, show (0 : Int32).toInt = 0 from rfl] at q; omega
  · rw [Int32.toNatClampNeg, hj]; rfl
theorem own_in {j : Int32} {k n : Nat} (hj : j.toInt = (k : Int)) (hk : k < n) {cl : Cell} (hs : cl.slots.size = n) : ¬ (j < 0 ∨ cl.slots.size ≤ j.toNatClampNeg) := by
  rw [(own_ix hj).2, hs]
  exact fun q => q.elim (own_ix hj).1 (fun q => by omega)
theorem AyI.lt {a : Addr} {ty : FieldType} {n : Nat} {f : Nat → Int32} (A : AyI Z h a ty n f) : a < h.size := by obtain ⟨_, q, -⟩ := A; exact q.lt
theorem AyJ.lt {a : Addr} {n : Nat} {f : Nat → Int64} (A : AyJ Z h a n f) : a < h.size := by obtain ⟨_, q, -⟩ := A; exact q.lt
theorem AyI.ext {h' : Heap} {a : Addr} {ty : FieldType} {n : Nat} {f : Nat → Int32} (A : AyI Z h a ty n f) (E : Ext h h') : AyI Z h' a ty n f := by obtain ⟨cl, q, r⟩ := A; exact ⟨cl, q.ext E, r⟩
theorem AyJ.ext {h' : Heap} {a : Addr} {n : Nat} {f : Nat → Int64} (A : AyJ Z h a n f) (E : Ext h h') : AyJ Z h' a n f := by obtain ⟨cl, q, r⟩ := A; exact ⟨cl, q.ext E, r⟩
theorem AyI.other {h' : Heap} {a b : Addr} {sl : Nat} {v : Value} {ty : FieldType} {n : Nat} {f : Nat → Int32} (A : AyI Z h b ty n f) (w : Wr h h' a sl v) (q : b ≠ a) : AyI Z h' b ty n f := by obtain ⟨cl, x, r⟩ := A; exact ⟨cl, x.other w q, r⟩
theorem AyJ.other {h' : Heap} {a b : Addr} {sl : Nat} {v : Value} {n : Nat} {f : Nat → Int64} (A : AyJ Z h b n f) (w : Wr h h' a sl v) (q : b ≠ a) : AyJ Z h' b n f := by obtain ⟨cl, x, r⟩ := A; exact ⟨cl, x.other w q, r⟩
theorem AyI.keep {h' : Heap} {a : Addr} {ws : List Addr} {ty : FieldType} {n : Nat} {f : Nat → Int32} (A : AyI Z h a ty n f) (k : Keep h h' ws) (q : a ∉ ws) : AyI Z h' a ty n f := by obtain ⟨cl, x, r⟩ := A; exact ⟨cl, ⟨k.2.1 a cl x.1 q, x.2⟩, r⟩
theorem AyJ.keep {h' : Heap} {a : Addr} {ws : List Addr} {n : Nat} {f : Nat → Int64} (A : AyJ Z h a n f) (k : Keep h h' ws) (q : a ∉ ws) : AyJ Z h' a n f := by obtain ⟨cl, x, r⟩ := A; exact ⟨cl, ⟨k.2.1 a cl x.1 q, x.2⟩, r⟩
theorem AyI.same {h' : Heap} {a : Addr} {k : Nat} {x : Int32} {ty : FieldType} {n : Nat} {f : Nat → Int32} (A : AyI Z h a ty n f) (w : Wr h h' a k (.int x)) : AyI Z h' a ty n (upd f k x) := by
  obtain ⟨cl, q, r1, r2⟩ := A
  refine ⟨_, q.same w, by simpa [Cell.setSlot] using r1, fun j hj => ?_⟩
  by_cases e : j = k
  · subst e; rw [upd_same]; simp [Cell.setSlot, Array.getElem?_setIfInBounds, r1, hj]
  · rw [upd_ne f x e, ← r2 j hj]; simp [Cell.setSlot, Array.getElem?_setIfInBounds, Ne.symm e]
theorem AyJ.same {h' : Heap} {a : Addr} {k : Nat} {x : Int64} {n : Nat} {f : Nat → Int64} (A : AyJ Z h a n f) (w : Wr h h' a k (.long x)) : AyJ Z h' a n (upd f k x) := by
  obtain ⟨cl, q, r1, r2⟩ := A
  refine ⟨_, q.same w, by simpa [Cell.setSlot] using r1, fun j hj => ?_⟩
  by_cases e : j = k
  · subst e; rw [upd_same]; simp [Cell.setSlot, Array.getElem?_setIfInBounds, r1, hj]
  · rw [upd_ne f x e, ← r2 j hj]; simp [Cell.setSlot, Array.getElem?_setIfInBounds, Ne.symm e]
theorem g_alenI (K : Cx p s m meth c Z own nm bytes maxL ret) (W : Wd p l e R s m args below meth c n0 T h cs ss) {a : Addr} {ty : FieldType} {n : Nat} {f : Nat → Int32} (A : AyI Z h a ty n f) {v : Int32} (hv : Int32.ofNat n = v) (hd : decode bytes pc = .ok (.arraylength, 1)) (hp : pc + 1 = pc')
    (G : Go p e below s n0 Q rc rs T (mkF m pc' Ls (.int v :: st))) : Go p e below s n0 Q rc rs T (mkF m pc Ls (.ref a :: st)) := by
  obtain ⟨_, X, N, eT, z⟩ := W; subst hp
  obtain ⟨cl, q, r1, r2⟩ := A
  refine Go.stp (g' := mkF m (pc + 1) Ls (.int v :: st)) (fun _ hr => X.arraylength K.1 (cell := cl) (by rw [eT]; exact q.1) (State.isArrayOf_alike K.2.1.alike q.2.1) (g := mkF m pc Ls (.ref a :: st)) rfl (rest := st) rfl (hb K.2.2.1 hd) _ ?_) G
  rw [r1, show n.toInt32 = v from hv]
  exact hr
theorem g_alenJ (K : Cx p s m meth c Z own nm bytes maxL ret) (W : Wd p l e R s m args below meth c n0 T h cs ss) {a : Addr} {n : Nat} {f : Nat → Int64} (A : AyJ Z h a n f) {v : Int32} (hv : Int32.ofNat n = v) (hd : decode bytes pc = .ok (.arraylength, 1)) (hp : pc + 1 = pc')
    (G : Go p e below s n0 Q rc rs T (mkF m pc' Ls (.int v :: st))) : Go p e below s n0 Q rc rs T (mkF m pc Ls (.ref a :: st)) := by
  obtain ⟨_, X, N, eT, z⟩ := W; subst hp
  obtain ⟨cl, q, r1, r2⟩ := A
  refine Go.stp (g' := mkF m (pc + 1) Ls (.int v :: st)) (fun _ hr => X.arraylength K.1 (cell := cl) (by rw [eT]; exact q.1) (State.isArrayOf_alike K.2.1.alike q.2.1) (g := mkF m pc Ls (.ref a :: st)) rfl (rest := st) rfl (hb K.2.2.1 hd) _ ?_) G
  rw [r1, show n.toInt32 = v from hv]
  exact hr
theorem g_iaload (K : Cx p s m meth c Z own nm bytes maxL ret) (W : Wd p l e R s m args below meth c n0 T h cs ss) {a : Addr} {n k : Nat} {f : Nat → Int32} {j v : Int32} (A : AyI Z h a .int n f) (hj : j.toInt = (k : Int)) (hk : k < n) (hv : f k = v) (hd : decode bytes pc = .ok (.iaload, 1)) (hp : pc + 1 = pc')
    (G : Go p e below s n0 Q rc rs T (mkF m pc' Ls (.int v :: st))) : Go p e below s n0 Q rc rs T (mkF m pc Ls (.int j :: .ref a :: st)) := by
  obtain ⟨_, X, N, eT, z⟩ := W; subst hp hv
  obtain ⟨cl, q, r1, r2⟩ := A
  exact Go.stp (g' := mkF m (pc + 1) Ls (.int (f k) :: st)) (fun _ hr => X.iaload K.1 (by rw [eT]; exact q.1) (State.isArrayOf_alike K.2.1.alike q.2.1) q.2.2 (own_in hj hk r1) (by rw [(own_ix hj).2]; exact r2 k hk) (g := mkF m pc Ls (.int j :: .ref a :: st)) rfl rfl (hb K.2.2.1 hd) _ hr) G
theorem g_baload (K : Cx p s m meth c Z own nm bytes maxL ret) (W : Wd p l e R s m args below meth c n0 T h cs ss) {a : Addr} {n k : Nat} {f : Nat → Int32} {j v : Int32} (A : AyI Z h a .byte n f) (hj : j.toInt = (k : Int)) (hk : k < n) (hv : f k = v) (hd : decode bytes pc = .ok (.baload, 1)) (hp : pc + 1 = pc')
    (G : Go p e below s n0 Q rc rs T (mkF m pc' Ls (.int v :: st))) : Go p e below s n0 Q rc rs T (mkF m pc Ls (.int j :: .ref a :: st)) := by
  obtain ⟨_, X, N, eT, z⟩ := W; subst hp hv
  obtain ⟨cl, q, r1, r2⟩ := A
  exact Go.stp (g' := mkF m (pc + 1) Ls (.int (f k) :: st)) (fun _ hr => X.baloadBytes K.1 (by rw [eT]; exact q.1) (State.isArrayOf_alike K.2.1.alike q.2.1) q.2.2 (own_in hj hk r1) (by rw [(own_ix hj).2]; exact r2 k hk) (g := mkF m pc Ls (.int j :: .ref a :: st)) rfl rfl (hb K.2.2.1 hd) _ hr) G
theorem g_zaload (K : Cx p s m meth c Z own nm bytes maxL ret) (W : Wd p l e R s m args below meth c n0 T h cs ss) {a : Addr} {n k : Nat} {f : Nat → Int32} {j v : Int32} (A : AyI Z h a .boolean n f) (hj : j.toInt = (k : Int)) (hk : k < n) (hv : f k = v) (hd : decode bytes pc = .ok (.baload, 1)) (hp : pc + 1 = pc')
    (G : Go p e below s n0 Q rc rs T (mkF m pc' Ls (.int v :: st))) : Go p e below s n0 Q rc rs T (mkF m pc Ls (.int j :: .ref a :: st)) := by
  obtain ⟨_, X, N, eT, z⟩ := W; subst hp hv
  obtain ⟨cl, q, r1, r2⟩ := A
  exact Go.stp (g' := mkF m (pc + 1) Ls (.int (f k) :: st)) (fun _ hr => X.baloadBooleans K.1 (by rw [eT]; exact q.1) (State.isArrayOf_alike K.2.1.alike q.2.1) q.2.2 (own_in hj hk r1) (by rw [(own_ix hj).2]; exact r2 k hk) (g := mkF m pc Ls (.int j :: .ref a :: st)) rfl rfl (hb K.2.2.1 hd) _ hr) G
theorem g_laload (K : Cx p s m meth c Z own nm bytes maxL ret) (W : Wd p l e R s m args below meth c n0 T h cs ss) {a : Addr} {n k : Nat} {f : Nat → Int64} {j : Int32} {v : Int64} (A : AyJ Z h a n f) (hj : j.toInt = (k : Int)) (hk : k < n) (hv : f k = v) (hd : decode bytes pc = .ok (.laload, 1)) (hp : pc + 1 = pc')
    (G : Go p e below s n0 Q rc rs T (mkF m pc' Ls (.long v :: st))) : Go p e below s n0 Q rc rs T (mkF m pc Ls (.int j :: .ref a :: st)) := by
  obtain ⟨_, X, N, eT, z⟩ := W; subst hp hv
  obtain ⟨cl, q, r1, r2⟩ := A
  exact Go.stp (g' := mkF m (pc + 1) Ls (.long (f k) :: st)) (fun _ hr => X.laload K.1 (by rw [eT]; exact q.1) (State.isArrayOf_alike K.2.1.alike q.2.1) q.2.2 (own_in hj hk r1) (by rw [(own_ix hj).2]; exact r2 k hk) (g := mkF m pc Ls (.int j :: .ref a :: st)) rfl rfl (hb K.2.2.1 hd) _ hr) G
theorem g_bastore (K : Cx p s m meth c Z own nm bytes maxL ret) (W : Wd p l e R s m args below meth c n0 T h cs ss) {a : Addr} {n k : Nat} {f : Nat → Int32} {j x : Int32} (A : AyI Z h a .byte n f) (hj : j.toInt = (k : Int)) (hk : k < n) (ha : n0 ≤ a) (hd : decode bytes pc = .ok (.bastore, 1)) (hp : pc + 1 = pc')
    (G : ∀ T' h', Wd p l e R s m args below meth c n0 T' h' cs ss → Wr h h' a k (.int x.toInt8.toInt32) → AyI Z h' a .byte n (upd f k x.toInt8.toInt32) → Go p e below s n0 Q rc rs T' (mkF m pc' Ls st)) : Go p e below s n0 Q rc rs T (mkF m pc Ls (.int x :: .int j :: .ref a :: st)) := by
  obtain ⟨locs, X, N, eT, z⟩ := W; subst hp
  have A0 := A
  obtain ⟨cl, q, r1, r2⟩ := A
  obtain ⟨T', h', X', e', w', st'⟩ := stB X K.1 K.2.1 eT q (own_in hj hk r1) (g := mkF m pc Ls (.int x :: .int j :: .ref a :: st)) rfl rfl (hb K.2.2.1 hd)
  rw [(own_ix hj).2] at w' X'
  exact Go.stp st' (G T' h' ⟨_, X', Fr.snoc X' N ha, e', z⟩ w' (A0.same w'))
theorem g_zastore (K : Cx p s m meth c Z own nm bytes maxL ret) (W : Wd p l e R s m args below meth c n0 T h cs ss) {a : Addr} {n k : Nat} {f : Nat → Int32} {j x : Int32} (A : AyI Z h a .boolean n f) (hj : j.toInt = (k : Int)) (hk : k < n) (ha : n0 ≤ a) (hd : decode bytes pc = .ok (.bastore, 1)) (hp : pc + 1 = pc')
    (G : ∀ T' h', Wd p l e R s m args below meth c n0 T' h' cs ss → Wr h h' a k (.int (x &&& 1)) → AyI Z h' a .boolean n (upd f k (x &&& 1)) → Go p e below s n0 Q rc rs T' (mkF m pc' Ls st)) : Go p e below s n0 Q rc rs T (mkF m pc Ls (.int x :: .int j :: .ref a :: st)) := by
  obtain ⟨locs, X, N, eT, z⟩ := W; subst hp
  have A0 := A
  obtain ⟨cl, q, r1, r2⟩ := A
  obtain ⟨T', h', X', e', w', st'⟩ := stZ X K.1 K.2.1 eT q (own_in hj hk r1) (g := mkF m pc Ls (.int x :: .int j :: .ref a :: st)) rfl rfl (hb K.2.2.1 hd)
  rw [(own_ix hj).2] at w' X'
  exact Go.stp st' (G T' h' ⟨_, X', Fr.snoc X' N ha, e', z⟩ w' (A0.same w'))
theorem g_iastore (K : Cx p s m meth c Z own nm bytes maxL ret) (W : Wd p l e R s m args below meth c n0 T h cs ss) {a : Addr} {n k : Nat} {f : Nat → Int32} {j x : Int32} (A : AyI Z h a .int n f) (hj : j.toInt = (k : Int)) (hk : k < n) (ha : n0 ≤ a) (hd : decode bytes pc = .ok (.iastore, 1)) (hp : pc + 1 = pc')
    (G : ∀ T' h', Wd p l e R s m args below meth c n0 T' h' cs ss → Wr h h' a k (.int x) → AyI Z h' a .int n (upd f k x) → Go p e below s n0 Q rc rs T' (mkF m pc' Ls st)) : Go p e below s n0 Q rc rs T (mkF m pc Ls (.int x :: .int j :: .ref a :: st)) := by
  obtain ⟨locs, X, N, eT, z⟩ := W; subst hp
  have A0 := A
  obtain ⟨cl, q, r1, r2⟩ := A
  obtain ⟨T', h', X', e', w', st'⟩ := stI X K.1 K.2.1 eT q (own_in hj hk r1) (g := mkF m pc Ls (.int x :: .int j :: .ref a :: st)) rfl rfl (hb K.2.2.1 hd)
  rw [(own_ix hj).2] at w' X'
  exact Go.stp st' (G T' h' ⟨_, X', Fr.snoc X' N ha, e', z⟩ w' (A0.same w'))
theorem g_lastore (K : Cx p s m meth c Z own nm bytes maxL ret) (W : Wd p l e R s m args below meth c n0 T h cs ss) {a : Addr} {n k : Nat} {f : Nat → Int64} {j : Int32} {x : Int64} (A : AyJ Z h a n f) (hj : j.toInt = (k : Int)) (hk : k < n) (ha : n0 ≤ a) (hd : decode bytes pc = .ok (.lastore, 1)) (hp : pc + 1 = pc')
    (G : ∀ T' h', Wd p l e R s m args below meth c n0 T' h' cs ss → Wr h h' a k (.long x) → AyJ Z h' a n (upd f k x) → Go p e below s n0 Q rc rs T' (mkF m pc' Ls st)) : Go p e below s n0 Q rc rs T (mkF m pc Ls (.long x :: .int j :: .ref a :: st)) := by
  obtain ⟨locs, X, N, eT, z⟩ := W; subst hp
  have A0 := A
  obtain ⟨cl, q, r1, r2⟩ := A
  obtain ⟨T', h', X', e', w', st'⟩ := stJ X K.1 K.2.1 eT q (own_in hj hk r1) (g := mkF m pc Ls (.long x :: .int j :: .ref a :: st)) rfl rfl (hb K.2.2.1 hd)
  rw [(own_ix hj).2] at w' X'
  exact Go.stp st' (G T' h' ⟨_, X', Fr.snoc X' N ha, e', z⟩ w' (A0.same w'))
theorem g_newI (K : Cx p s m meth c Z own nm bytes maxL ret) (W : Wd p l e R s m args below meth c n0 T h cs ss) {aty : ArrayType} {ty : FieldType} {j : Int32} {n cap : Nat} (w : (Jvm.Cond.arrayClass ty).before a0 Z = true) (hty : newarray.typeOf aty = ty) (hdf : defaultValue ty = .int 0) (hj : j.toInt = (n : Int)) (hcap : n ≤ cap) (hd : decode bytes pc = .ok (.newarray aty, 2)) (hp : pc + 2 = pc') (hb8 : cap * 8 ≤ 536870912) (hc : cs + 1 ≤ R.cells) (hl : ss + cap ≤ R.slots)
    (G : ∀ T' h' a, Wd p l e R s m args below meth c n0 T' h' (cs + 1) (ss + cap) → Ext h h' → a = h.size → n0 ≤ a → AyI Z h' a ty n (fun _ => 0) → Go p e below s n0 Q rc rs T' (mkF m pc' Ls (.ref a :: st))) : Go p e below s n0 Q rc rs T (mkF m pc Ls (.int j :: st)) := by
  have zz := W.sz
  obtain ⟨locs, X, N, eT, z⟩ := W; subst hp hty
  obtain ⟨T', h', kA, X', e', E, A, q⟩ := newP X K.1 K.2.1 w eT (g := mkF m pc Ls (.int j :: st)) rfl (hb K.2.2.1 hd) rfl (own_ix hj).1 (cap := cap) (by rw [(own_ix hj).2]; exact hcap) hb8 hc hl
  refine Go.stp q (G T' h' _ ⟨_, X', N, e', z⟩ E rfl zz ⟨_, A, by rw [sz_new, (own_ix hj).2], fun i hi => ?_⟩)
  rw [← hdf]
  simp [newA, (own_ix hj).2, hi]
theorem g_newJ (K : Cx p s m meth c Z own nm bytes maxL ret) (W : Wd p l e R s m args below meth c n0 T h cs ss) {j : Int32} {n cap : Nat} (w : (Jvm.Cond.arrayClass .long).before a0 Z = true) (hj : j.toInt = (n : Int)) (hcap : n ≤ cap) (hd : decode bytes pc = .ok (.newarray .long, 2)) (hp : pc + 2 = pc') (hb8 : cap * 8 ≤ 536870912) (hc : cs + 1 ≤ R.cells) (hl : ss + cap ≤ R.slots)
    (G : ∀ T' h' a, Wd p l e R s m args below meth c n0 T' h' (cs + 1) (ss + cap) → Ext h h' → a = h.size → n0 ≤ a → AyJ Z h' a n (fun _ => 0) → Go p e below s n0 Q rc rs T' (mkF m pc' Ls (.ref a :: st))) : Go p e below s n0 Q rc rs T (mkF m pc Ls (.int j :: st)) := by
  have zz := W.sz
  obtain ⟨locs, X, N, eT, z⟩ := W; subst hp
  obtain ⟨T', h', kA, X', e', E, A, q⟩ := newP X K.1 K.2.1 (aty := .long) w eT (g := mkF m pc Ls (.int j :: st)) rfl (hb K.2.2.1 hd) rfl (own_ix hj).1 (cap := cap) (by rw [(own_ix hj).2]; exact hcap) hb8 hc hl
  refine Go.stp q (G T' h' _ ⟨_, X', N, e', z⟩ E rfl zz ⟨_, A, by rw [sz_new, (own_ix hj).2], fun i hi => ?_⟩)
  rw [show (Value.long 0) = defaultValue .long from rfl]
  simp [newA, (own_ix hj).2, hi, newarray.typeOf]
end OwnBase
theorem pn_0 : plainName "java/util/Arrays" = true := by first | (simp [plainName, overriddenIn]; done) | decide +kernel
theorem d4_0 : decode jdk_65_method_30_code 0 = .ok (.iload_n 1, 1) := by decide +kernel
theorem d4_1 : decode jdk_65_method_30_code 1 = .ok (.iload_n 2, 1) := by decide +kernel
theorem d4_2 : decode jdk_65_method_30_code 2 = .ok (.if_icmp .le 44, 3) := by decide +kernel
theorem d4_5 : decode jdk_65_method_30_code 5 = .ok (.new 43, 3) := by decide +kernel
theorem d4_8 : decode jdk_65_method_30_code 8 = .ok (.dup, 1) := by decide +kernel
theorem d4_9 : decode jdk_65_method_30_code 9 = .ok (.new 45, 3) := by decide +kernel
theorem d4_12 : decode jdk_65_method_30_code 12 = .ok (.dup, 1) := by decide +kernel
theorem d4_13 : decode jdk_65_method_30_code 13 = .ok (.invokespecial 47, 3) := by decide +kernel
theorem d4_16 : decode jdk_65_method_30_code 16 = .ok (.ldc 48, 2) := by decide +kernel
theorem d4_18 : decode jdk_65_method_30_code 18 = .ok (.invokevirtual 50, 3) := by decide +kernel
theorem d4_21 : decode jdk_65_method_30_code 21 = .ok (.iload_n 1, 1) := by decide +kernel
theorem d4_22 : decode jdk_65_method_30_code 22 = .ok (.invokevirtual 54, 3) := by decide +kernel
theorem d4_25 : decode jdk_65_method_30_code 25 = .ok (.ldc 57, 2) := by decide +kernel
theorem d4_27 : decode jdk_65_method_30_code 27 = .ok (.invokevirtual 50, 3) := by decide +kernel
theorem d4_30 : decode jdk_65_method_30_code 30 = .ok (.iload_n 2, 1) := by decide +kernel
theorem d4_31 : decode jdk_65_method_30_code 31 = .ok (.invokevirtual 54, 3) := by decide +kernel
theorem d4_34 : decode jdk_65_method_30_code 34 = .ok (.ldc 59, 2) := by decide +kernel
theorem d4_36 : decode jdk_65_method_30_code 36 = .ok (.invokevirtual 50, 3) := by decide +kernel
theorem d4_39 : decode jdk_65_method_30_code 39 = .ok (.invokevirtual 61, 3) := by decide +kernel
theorem d4_42 : decode jdk_65_method_30_code 42 = .ok (.invokespecial 65, 3) := by decide +kernel
theorem d4_45 : decode jdk_65_method_30_code 45 = .ok (.athrow, 1) := by decide +kernel
theorem d4_46 : decode jdk_65_method_30_code 46 = .ok (.iload_n 1, 1) := by decide +kernel
theorem d4_47 : decode jdk_65_method_30_code 47 = .ok (.ifCond .ge 12, 3) := by decide +kernel
theorem d4_50 : decode jdk_65_method_30_code 50 = .ok (.new 68, 3) := by decide +kernel
theorem d4_53 : decode jdk_65_method_30_code 53 = .ok (.dup, 1) := by decide +kernel
theorem d4_54 : decode jdk_65_method_30_code 54 = .ok (.iload_n 1, 1) := by decide +kernel
theorem d4_55 : decode jdk_65_method_30_code 55 = .ok (.invokespecial 70, 3) := by decide +kernel
theorem d4_58 : decode jdk_65_method_30_code 58 = .ok (.athrow, 1) := by decide +kernel
theorem d4_59 : decode jdk_65_method_30_code 59 = .ok (.iload_n 2, 1) := by decide +kernel
theorem d4_60 : decode jdk_65_method_30_code 60 = .ok (.iload_n 0, 1) := by decide +kernel
theorem d4_61 : decode jdk_65_method_30_code 61 = .ok (.if_icmp .le 12, 3) := by decide +kernel
theorem d4_64 : decode jdk_65_method_30_code 64 = .ok (.new 68, 3) := by decide +kernel
theorem d4_67 : decode jdk_65_method_30_code 67 = .ok (.dup, 1) := by decide +kernel
theorem d4_68 : decode jdk_65_method_30_code 68 = .ok (.iload_n 2, 1) := by decide +kernel
theorem d4_69 : decode jdk_65_method_30_code 69 = .ok (.invokespecial 70, 3) := by decide +kernel
theorem d4_72 : decode jdk_65_method_30_code 72 = .ok (.athrow, 1) := by decide +kernel
theorem d4_73 : decode jdk_65_method_30_code 73 = .ok (.return_, 1) := by decide +kernel
theorem pn_1 : plainName "jdk/internal/util/ArraysSupport" = true := by first | (simp [plainName, overriddenIn]; done) | decide +kernel
theorem d5_0 : decode jdk_48_method_14_code 0 = .ok (.iconst 0, 1) := by decide +kernel
theorem d5_1 : decode jdk_48_method_14_code 1 = .ok (.istore 5, 2) := by decide +kernel
theorem d5_3 : decode jdk_48_method_14_code 3 = .ok (.iload 4, 2) := by decide +kernel
theorem d5_5 : decode jdk_48_method_14_code 5 = .ok (.bipush 7, 2) := by decide +kernel
theorem d5_7 : decode jdk_48_method_14_code 7 = .ok (.if_icmp .le 63, 3) := by decide +kernel
theorem d5_10 : decode jdk_48_method_14_code 10 = .ok (.aload_n 0, 1) := by decide +kernel
theorem d5_11 : decode jdk_48_method_14_code 11 = .ok (.iload_n 1, 1) := by decide +kernel
theorem d5_12 : decode jdk_48_method_14_code 12 = .ok (.baload, 1) := by decide +kernel
theorem d5_13 : decode jdk_48_method_14_code 13 = .ok (.aload_n 2, 1) := by decide +kernel
theorem d5_14 : decode jdk_48_method_14_code 14 = .ok (.iload_n 3, 1) := by decide +kernel
theorem d5_15 : decode jdk_48_method_14_code 15 = .ok (.baload, 1) := by decide +kernel
theorem d5_16 : decode jdk_48_method_14_code 16 = .ok (.if_icmp .eq 5, 3) := by decide +kernel
theorem d5_19 : decode jdk_48_method_14_code 19 = .ok (.iconst 0, 1) := by decide +kernel
theorem d5_20 : decode jdk_48_method_14_code 20 = .ok (.ireturn, 1) := by decide +kernel
theorem d5_21 : decode jdk_48_method_14_code 21 = .ok (.getstatic 126, 3) := by decide +kernel
theorem d5_24 : decode jdk_48_method_14_code 24 = .ok (.iload_n 1, 1) := by decide +kernel
theorem d5_25 : decode jdk_48_method_14_code 25 = .ok (.iadd, 1) := by decide +kernel
theorem d5_26 : decode jdk_48_method_14_code 26 = .ok (.istore 6, 2) := by decide +kernel
theorem d5_28 : decode jdk_48_method_14_code 28 = .ok (.getstatic 126, 3) := by decide +kernel
theorem d5_31 : decode jdk_48_method_14_code 31 = .ok (.iload_n 3, 1) := by decide +kernel
theorem d5_32 : decode jdk_48_method_14_code 32 = .ok (.iadd, 1) := by decide +kernel
theorem d5_33 : decode jdk_48_method_14_code 33 = .ok (.istore 7, 2) := by decide +kernel
theorem d5_35 : decode jdk_48_method_14_code 35 = .ok (.aload_n 0, 1) := by decide +kernel
theorem d5_36 : decode jdk_48_method_14_code 36 = .ok (.iload 6, 2) := by decide +kernel
theorem d5_38 : decode jdk_48_method_14_code 38 = .ok (.i2l, 1) := by decide +kernel
theorem d5_39 : decode jdk_48_method_14_code 39 = .ok (.aload_n 2, 1) := by decide +kernel
theorem d5_40 : decode jdk_48_method_14_code 40 = .ok (.iload 7, 2) := by decide +kernel
theorem d5_42 : decode jdk_48_method_14_code 42 = .ok (.i2l, 1) := by decide +kernel
theorem d5_43 : decode jdk_48_method_14_code 43 = .ok (.iload 4, 2) := by decide +kernel
theorem d5_45 : decode jdk_48_method_14_code 45 = .ok (.getstatic 129, 3) := by decide +kernel
theorem d5_48 : decode jdk_48_method_14_code 48 = .ok (.invokestatic 122, 3) := by decide +kernel
theorem d5_51 : decode jdk_48_method_14_code 51 = .ok (.istore 5, 2) := by decide +kernel
theorem d5_53 : decode jdk_48_method_14_code 53 = .ok (.iload 5, 2) := by decide +kernel
theorem d5_55 : decode jdk_48_method_14_code 55 = .ok (.ifCond .lt 6, 3) := by decide +kernel
theorem d5_58 : decode jdk_48_method_14_code 58 = .ok (.iload 5, 2) := by decide +kernel
theorem d5_60 : decode jdk_48_method_14_code 60 = .ok (.ireturn, 1) := by decide +kernel
theorem d5_61 : decode jdk_48_method_14_code 61 = .ok (.iload 4, 2) := by decide +kernel
theorem d5_63 : decode jdk_48_method_14_code 63 = .ok (.iload 5, 2) := by decide +kernel
theorem d5_65 : decode jdk_48_method_14_code 65 = .ok (.iconst (-1), 1) := by decide +kernel
theorem d5_66 : decode jdk_48_method_14_code 66 = .ok (.ixor, 1) := by decide +kernel
theorem d5_67 : decode jdk_48_method_14_code 67 = .ok (.isub, 1) := by decide +kernel
theorem d5_68 : decode jdk_48_method_14_code 68 = .ok (.istore 5, 2) := by decide +kernel
theorem d5_70 : decode jdk_48_method_14_code 70 = .ok (.iload 5, 2) := by decide +kernel
theorem d5_72 : decode jdk_48_method_14_code 72 = .ok (.iload 4, 2) := by decide +kernel
theorem d5_74 : decode jdk_48_method_14_code 74 = .ok (.if_icmp .ge 27, 3) := by decide +kernel
theorem d5_77 : decode jdk_48_method_14_code 77 = .ok (.aload_n 0, 1) := by decide +kernel
theorem d5_78 : decode jdk_48_method_14_code 78 = .ok (.iload_n 1, 1) := by decide +kernel
theorem d5_79 : decode jdk_48_method_14_code 79 = .ok (.iload 5, 2) := by decide +kernel
theorem d5_81 : decode jdk_48_method_14_code 81 = .ok (.iadd, 1) := by decide +kernel
theorem d5_82 : decode jdk_48_method_14_code 82 = .ok (.baload, 1) := by decide +kernel
theorem d5_83 : decode jdk_48_method_14_code 83 = .ok (.aload_n 2, 1) := by decide +kernel
theorem d5_84 : decode jdk_48_method_14_code 84 = .ok (.iload_n 3, 1) := by decide +kernel
theorem d5_85 : decode jdk_48_method_14_code 85 = .ok (.iload 5, 2) := by decide +kernel
theorem d5_87 : decode jdk_48_method_14_code 87 = .ok (.iadd, 1) := by decide +kernel
theorem d5_88 : decode jdk_48_method_14_code 88 = .ok (.baload, 1) := by decide +kernel
theorem d5_89 : decode jdk_48_method_14_code 89 = .ok (.if_icmp .eq 6, 3) := by decide +kernel
theorem d5_92 : decode jdk_48_method_14_code 92 = .ok (.iload 5, 2) := by decide +kernel
theorem d5_94 : decode jdk_48_method_14_code 94 = .ok (.ireturn, 1) := by decide +kernel
theorem d5_95 : decode jdk_48_method_14_code 95 = .ok (.iinc 5 1, 3) := by decide +kernel
theorem d5_98 : decode jdk_48_method_14_code 98 = .ok (.goto (-28), 3) := by decide +kernel
theorem d5_101 : decode jdk_48_method_14_code 101 = .ok (.iconst (-1), 1) := by decide +kernel
theorem d5_102 : decode jdk_48_method_14_code 102 = .ok (.ireturn, 1) := by decide +kernel
theorem d3_0 : decode jdk_65_method_90_code 0 = .ok (.aload_n 0, 1) := by decide +kernel
theorem d3_1 : decode jdk_65_method_90_code 1 = .ok (.arraylength, 1) := by decide +kernel
theorem d3_2 : decode jdk_65_method_90_code 2 = .ok (.iload_n 1, 1) := by decide +kernel
theorem d3_3 : decode jdk_65_method_90_code 3 = .ok (.iload_n 2, 1) := by decide +kernel
theorem d3_4 : decode jdk_65_method_90_code 4 = .ok (.invokestatic 13, 3) := by decide +kernel
theorem d3_7 : decode jdk_65_method_90_code 7 = .ok (.aload_n 3, 1) := by decide +kernel
theorem d3_8 : decode jdk_65_method_90_code 8 = .ok (.arraylength, 1) := by decide +kernel
theorem d3_9 : decode jdk_65_method_90_code 9 = .ok (.iload 4, 2) := by decide +kernel
theorem d3_11 : decode jdk_65_method_90_code 11 = .ok (.iload 5, 2) := by decide +kernel
theorem d3_13 : decode jdk_65_method_90_code 13 = .ok (.invokestatic 13, 3) := by decide +kernel
theorem d3_16 : decode jdk_65_method_90_code 16 = .ok (.iload_n 2, 1) := by decide +kernel
theorem d3_17 : decode jdk_65_method_90_code 17 = .ok (.iload_n 1, 1) := by decide +kernel
theorem d3_18 : decode jdk_65_method_90_code 18 = .ok (.isub, 1) := by decide +kernel
theorem d3_19 : decode jdk_65_method_90_code 19 = .ok (.istore 6, 2) := by decide +kernel
theorem d3_21 : decode jdk_65_method_90_code 21 = .ok (.iload 5, 2) := by decide +kernel
theorem d3_23 : decode jdk_65_method_90_code 23 = .ok (.iload 4, 2) := by decide +kernel
theorem d3_25 : decode jdk_65_method_90_code 25 = .ok (.isub, 1) := by decide +kernel
theorem d3_26 : decode jdk_65_method_90_code 26 = .ok (.istore 7, 2) := by decide +kernel
theorem d3_28 : decode jdk_65_method_90_code 28 = .ok (.iload 6, 2) := by decide +kernel
theorem d3_30 : decode jdk_65_method_90_code 30 = .ok (.iload 7, 2) := by decide +kernel
theorem d3_32 : decode jdk_65_method_90_code 32 = .ok (.if_icmp .eq 5, 3) := by decide +kernel
theorem d3_35 : decode jdk_65_method_90_code 35 = .ok (.iconst 0, 1) := by decide +kernel
theorem d3_36 : decode jdk_65_method_90_code 36 = .ok (.ireturn, 1) := by decide +kernel
theorem d3_37 : decode jdk_65_method_90_code 37 = .ok (.aload_n 0, 1) := by decide +kernel
theorem d3_38 : decode jdk_65_method_90_code 38 = .ok (.iload_n 1, 1) := by decide +kernel
theorem d3_39 : decode jdk_65_method_90_code 39 = .ok (.aload_n 3, 1) := by decide +kernel
theorem d3_40 : decode jdk_65_method_90_code 40 = .ok (.iload 4, 2) := by decide +kernel
theorem d3_42 : decode jdk_65_method_90_code 42 = .ok (.iload 6, 2) := by decide +kernel
theorem d3_44 : decode jdk_65_method_90_code 44 = .ok (.invokestatic 275, 3) := by decide +kernel
theorem d3_47 : decode jdk_65_method_90_code 47 = .ok (.ifCond .ge 7, 3) := by decide +kernel
theorem d3_50 : decode jdk_65_method_90_code 50 = .ok (.iconst 1, 1) := by decide +kernel
theorem d3_51 : decode jdk_65_method_90_code 51 = .ok (.goto 4, 3) := by decide +kernel
theorem d3_54 : decode jdk_65_method_90_code 54 = .ok (.iconst 0, 1) := by decide +kernel
theorem d3_55 : decode jdk_65_method_90_code 55 = .ok (.ireturn, 1) := by decide +kernel
theorem pd_0 : parseMethodDescriptor "(III)V" = some ⟨[.int, .int, .int], none⟩ := by decide +kernel
theorem pd_1 : parseMethodDescriptor "([BI[BII)I" = some ⟨[(.array .byte), .int, (.array .byte), .int, .int], some .int⟩ := by decide +kernel
theorem pn_2 : plainName "com/example/bowerbird/bowerbird/store/Codec" = true := by first | (simp [plainName, overriddenIn]; done) | decide +kernel
theorem d2_0 : decode prog_57_method_7_code 0 = .ok (.aload_n 0, 1) := by decide +kernel
theorem d2_1 : decode prog_57_method_7_code 1 = .ok (.arraylength, 1) := by decide +kernel
theorem d2_2 : decode prog_57_method_7_code 2 = .ok (.aload_n 1, 1) := by decide +kernel
theorem d2_3 : decode prog_57_method_7_code 3 = .ok (.arraylength, 1) := by decide +kernel
theorem d2_4 : decode prog_57_method_7_code 4 = .ok (.if_icmp .lt 21, 3) := by decide +kernel
theorem d2_7 : decode prog_57_method_7_code 7 = .ok (.aload_n 0, 1) := by decide +kernel
theorem d2_8 : decode prog_57_method_7_code 8 = .ok (.iconst 0, 1) := by decide +kernel
theorem d2_9 : decode prog_57_method_7_code 9 = .ok (.aload_n 1, 1) := by decide +kernel
theorem d2_10 : decode prog_57_method_7_code 10 = .ok (.arraylength, 1) := by decide +kernel
theorem d2_11 : decode prog_57_method_7_code 11 = .ok (.aload_n 1, 1) := by decide +kernel
theorem d2_12 : decode prog_57_method_7_code 12 = .ok (.iconst 0, 1) := by decide +kernel
theorem d2_13 : decode prog_57_method_7_code 13 = .ok (.aload_n 1, 1) := by decide +kernel
theorem d2_14 : decode prog_57_method_7_code 14 = .ok (.arraylength, 1) := by decide +kernel
theorem d2_15 : decode prog_57_method_7_code 15 = .ok (.invokestatic 44, 3) := by decide +kernel
theorem d2_18 : decode prog_57_method_7_code 18 = .ok (.ifCond .eq 7, 3) := by decide +kernel
theorem d2_21 : decode prog_57_method_7_code 21 = .ok (.iconst 1, 1) := by decide +kernel
theorem d2_22 : decode prog_57_method_7_code 22 = .ok (.goto 4, 3) := by decide +kernel
theorem d2_25 : decode prog_57_method_7_code 25 = .ok (.iconst 0, 1) := by decide +kernel
theorem d2_26 : decode prog_57_method_7_code 26 = .ok (.ireturn, 1) := by decide +kernel
theorem pd_2 : parseMethodDescriptor "([BII[BII)Z" = some ⟨[(.array .byte), .int, .int, (.array .byte), .int, .int], some .boolean⟩ := by decide +kernel
theorem pn_3 : plainName "com/example/bowerbird/bowerbird/store/CodecStartsWithPinLaw" = true := by first | (simp [plainName, overriddenIn]; done) | decide +kernel
theorem d1_0 : decode method_2_code 0 = .ok (.iload_n 0, 1) := by decide +kernel
theorem d1_1 : decode method_2_code 1 = .ok (.newarray .byte, 2) := by decide +kernel
theorem d1_3 : decode method_2_code 3 = .ok (.astore 5, 2) := by decide +kernel
theorem d1_5 : decode method_2_code 5 = .ok (.iload_n 0, 1) := by decide +kernel
theorem d1_6 : decode method_2_code 6 = .ok (.ifCond .le 8, 3) := by decide +kernel
theorem d1_9 : decode method_2_code 9 = .ok (.aload 5, 2) := by decide +kernel
theorem d1_11 : decode method_2_code 11 = .ok (.iconst 0, 1) := by decide +kernel
theorem d1_12 : decode method_2_code 12 = .ok (.iload_n 1, 1) := by decide +kernel
theorem d1_13 : decode method_2_code 13 = .ok (.bastore, 1) := by decide +kernel
theorem d1_14 : decode method_2_code 14 = .ok (.iload_n 0, 1) := by decide +kernel
theorem d1_15 : decode method_2_code 15 = .ok (.iconst 1, 1) := by decide +kernel
theorem d1_16 : decode method_2_code 16 = .ok (.if_icmp .le 8, 3) := by decide +kernel
theorem d1_19 : decode method_2_code 19 = .ok (.aload 5, 2) := by decide +kernel
theorem d1_21 : decode method_2_code 21 = .ok (.iconst 1, 1) := by decide +kernel
theorem d1_22 : decode method_2_code 22 = .ok (.iload_n 2, 1) := by decide +kernel
theorem d1_23 : decode method_2_code 23 = .ok (.bastore, 1) := by decide +kernel
theorem d1_24 : decode method_2_code 24 = .ok (.iload_n 0, 1) := by decide +kernel
theorem d1_25 : decode method_2_code 25 = .ok (.iconst 2, 1) := by decide +kernel
theorem d1_26 : decode method_2_code 26 = .ok (.if_icmp .le 8, 3) := by decide +kernel
theorem d1_29 : decode method_2_code 29 = .ok (.aload 5, 2) := by decide +kernel
theorem d1_31 : decode method_2_code 31 = .ok (.iconst 2, 1) := by decide +kernel
theorem d1_32 : decode method_2_code 32 = .ok (.iload_n 3, 1) := by decide +kernel
theorem d1_33 : decode method_2_code 33 = .ok (.bastore, 1) := by decide +kernel
theorem d1_34 : decode method_2_code 34 = .ok (.iload_n 0, 1) := by decide +kernel
theorem d1_35 : decode method_2_code 35 = .ok (.iconst 3, 1) := by decide +kernel
theorem d1_36 : decode method_2_code 36 = .ok (.if_icmp .le 9, 3) := by decide +kernel
theorem d1_39 : decode method_2_code 39 = .ok (.aload 5, 2) := by decide +kernel
theorem d1_41 : decode method_2_code 41 = .ok (.iconst 3, 1) := by decide +kernel
theorem d1_42 : decode method_2_code 42 = .ok (.iload 4, 2) := by decide +kernel
theorem d1_44 : decode method_2_code 44 = .ok (.bastore, 1) := by decide +kernel
theorem d1_45 : decode method_2_code 45 = .ok (.aload 5, 2) := by decide +kernel
theorem d1_47 : decode method_2_code 47 = .ok (.areturn, 1) := by decide +kernel
theorem pd_3 : parseMethodDescriptor "(IBBBB)[B" = some ⟨[.int, .byte, .byte, .byte, .byte], some (.array .byte)⟩ := by decide +kernel
theorem pd_4 : parseMethodDescriptor "([B[B)Z" = some ⟨[(.array .byte), (.array .byte)], some .boolean⟩ := by decide +kernel
/-! numbers -/
theorem own_ofNat {n : Nat} (hn : n < 2147483648) : (Int32.ofNat n).toInt = (n : Int) := Int32.toInt_ofNat_of_lt hn
theorem own_and_nat (x : Int32) (m : Nat) (hm : m < 2147483648) : ∃ k : Nat, k ≤ m ∧ (x &&& Int32.ofNat m) = Int32.ofNat k := by
  refine ⟨(x &&& Int32.ofNat m).toBitVec.toNat, ?_, ?_⟩
  · simp only [Int32.toBitVec_and, BitVec.toNat_and]
    refine Nat.le_trans Nat.and_le_right ?_
    show (BitVec.ofNat 32 m).toNat ≤ m
    rw [BitVec.toNat_ofNat]
    exact Nat.mod_le _ _
  · apply Int32.toBitVec_inj.mp
    show _ = BitVec.ofNat 32 _
    rw [BitVec.ofNat_toNat]; simp
theorem own_rem (x : Int32) (n : Nat) (h1 : 0 < n) (h2 : n < 2147483648) : ∃ k : Nat, k < n ∧ ((x &&& (2147483647 : Int32)) % Int32.ofNat n).toInt = (k : Int) := by
  obtain ⟨j, hj, e⟩ := own_and_nat x 2147483647 (by decide)
  refine ⟨j % n, Nat.mod_lt _ h1, ?_⟩
  have e' : (x &&& (2147483647 : Int32)) = Int32.ofNat j := e
  rw [e', Int32.toInt_mod, own_ofNat (by omega), own_ofNat h2]
  exact (Int.ofNat_tmod j n).symm

theorem own_one (i : Nat) : Int32.ofNat i + (1 : Int32) = Int32.ofNat (i + 1) := (Int32.ofNat_add i 1).symm
theorem own_lt {i n : Nat} (hi : i < 2147483648) (hn : n < 2147483648) : Int32.ofNat i < Int32.ofNat n ↔ i < n := by
  rw [Int32.lt_iff_toInt_lt, own_ofNat hi, own_ofNat hn]; omega
theorem own_byte (x : Int32) : x.toInt8.toInt32.toInt8.toInt32 = x.toInt8.toInt32 := by simp
theorem own_mod5 (x : Int32) : ∃ k : Nat, k < 5 ∧ (x &&& 7) % (5 : Int32) = Int32.ofNat k := by
  obtain ⟨k, hk, e⟩ := own_and_nat x 7 (by decide)
  rw [show (x &&& 7) = Int32.ofNat k from e]
  have q : ∀ n : Fin 8, Int32.ofNat n.val % (5 : Int32) = Int32.ofNat (n.val % 5) := by decide +kernel
  exact ⟨k % 5, Nat.mod_lt _ (by decide), q ⟨k, by omega⟩⟩
theorem own_sub0 (x : Int32) : x - (0 : Int32) = x := by simp
theorem own_add0 (x : Int32) : (0 : Int32) + x = x := by simp
def own_same (f g : Nat → Int32) (n k : Nat) : Prop := k ≤ n ∧ ∀ j, j < k → f j = g j
def own_f (b0 b1 b2 b3 : Int32) : Nat → Int32 := fun j => match j with | 0 => b0.toInt8.toInt32 | 1 => b1.toInt8.toInt32 | 2 => b2.toInt8.toInt32 | _ => b3.toInt8.toInt32
def Q_c4 (Z : State) (n0 : Nat) (h0 : Heap) (x0 : Int32) (x1 : Int32) (x2 : Int32) : Option Value → Heap → Prop := fun v h => v = none ∧ h0 = h
abbrev rm_c4 : Room := { frames := 0, cells := 0, slots := 0, locals := 0 }
set_option maxHeartbeats 40000000 in
theorem c4 (l : Launch) (Z : State) (a0 : Array Value) (hw : ∀ d ∈ tables_1, d.before a0 Z = true) (n0 : Nat) (h0 : Heap) (hn : n0 ≤ h0.size) (x0 : Int32) (x1 : Int32) (x2 : Int32) (q1 : ¬ x2 < x1) (q2 : ¬ x1 < 0) (q3 : ¬ x0 < x2) :
    Mt l Z (⟨"java/util/Arrays", "rangeCheck", "(III)V"⟩ : MethodName) jdk_65_method_30_code 3 none rm_c4 n0 #[(.int x0), (.int x1), (.int x2)] h0 (Q_c4 Z n0 h0 x0 x1 x2) := by
  refine met_of (plainFor_of_name pn_0) (Ls := #[.val (.int x0), .val (.int x1), .val (.int x2)]) (fun m => by first | (simp [entryFrame, mkF, argsToLocals, Value.category]; done) | rfl) hn ?_
  intro p e s m below meth c T K W
  replace K : Cx p s m meth c Z "java/util/Arrays" "rangeCheck" jdk_65_method_30_code 3 none := K
  generalize eA : (#[(.int x0), (.int x1), (.int x2)] : Array Value) = args at W
  show Go p e below s n0 (Q_c4 Z n0 h0 x0 x1 x2) 0 0 T (mkF m 0 #[.val (.int x0), .val (.int x1), .val (.int x2)] [])
  refine g_iloadN K W d4_0 rfl (pc' := 1) rfl ?_
  refine g_iloadN K W d4_1 rfl (pc' := 2) rfl ?_
  refine g_icmp_le K W d4_2 (pt := 46) rfl (pf := 5) rfl (fun hc2 => absurd hc2 q1) (fun hc2 => ?_)
  refine g_iloadN K W d4_46 rfl (pc' := 47) rfl ?_
  refine g_if_ge K W d4_47 (pt := 59) rfl (pf := 50) rfl (fun hc47 => absurd hc47 q2) (fun hc47 => ?_)
  refine g_iloadN K W d4_59 rfl (pc' := 60) rfl ?_
  refine g_iloadN K W d4_60 rfl (pc' := 61) rfl ?_
  refine g_icmp_le K W d4_61 (pt := 73) rfl (pf := 64) rfl (fun hc61 => absurd hc61 q3) (fun hc61 => ?_)
  exact g_ret0 K W d4_73 (by decide) (by decide) ⟨rfl, rfl⟩
def Q_c5 (Z : State) (n0 : Nat) (h0 : Heap) (o0 : Addr) (x1 : Int32) (o2 : Addr) (x3 : Int32) (x4 : Int32) (n : Nat) (f : Nat → Int32) (r : Nat) (g : Nat → Int32) : Option Value → Heap → Prop := fun v h => (v = some (.int (-1)) ∧ h0 = h ∧ own_same f g n r) ∨ (∃ i : Nat, i < 8 ∧ v = some (.int (Int32.ofNat i)) ∧ h0 = h ∧ ¬ own_same f g n r)
abbrev rm_c5 : Room := { frames := 0, cells := 0, slots := 0, locals := 0 }
set_option maxHeartbeats 40000000 in
theorem c5 (l : Launch) (Z : State) (a0 : Array Value) (hw : ∀ d ∈ tables_1, d.before a0 Z = true) (n0 : Nat) (h0 : Heap) (hn : n0 ≤ h0.size) (o0 : Addr) (x1 : Int32) (o2 : Addr) (x3 : Int32) (x4 : Int32) (n : Nat) (f : Nat → Int32) (r : Nat) (g : Nat → Int32) (A_o0 : AyI Z h0 o0 .byte n f) (A_o2 : AyI Z h0 o2 .byte r g) (hr7 : r ≤ 7) (hrn : r ≤ n) (ex1 : x1 = 0) (ex3 : x3 = 0) (ex4 : x4 = Int32.ofNat r) :
    Mt l Z (⟨"jdk/internal/util/ArraysSupport", "mismatch", "([BI[BII)I"⟩ : MethodName) jdk_48_method_14_code 8 (some .int) rm_c5 n0 #[(.ref o0), (.int x1), (.ref o2), (.int x3), (.int x4)] h0 (Q_c5 Z n0 h0 o0 x1 o2 x3 x4 n f r g) := by
  refine met_of (plainFor_of_name pn_1) (Ls := #[.val (.ref o0), .val (.int x1), .val (.ref o2), .val (.int x3), .val (.int x4), .unset, .unset, .unset]) (fun m => by first | (simp [entryFrame, mkF, argsToLocals, Value.category]; done) | rfl) hn ?_
  intro p e s m below meth c T K W
  replace K : Cx p s m meth c Z "jdk/internal/util/ArraysSupport" "mismatch" jdk_48_method_14_code 8 (some .int) := K
  generalize eA : (#[(.ref o0), (.int x1), (.ref o2), (.int x3), (.int x4)] : Array Value) = args at W
  show Go p e below s n0 (Q_c5 Z n0 h0 o0 x1 o2 x3 x4 n f r g) 0 0 T (mkF m 0 #[.val (.ref o0), .val (.int x1), .val (.ref o2), .val (.int x3), .val (.int x4), .unset, .unset, .unset] [])
  subst ex1 ex3 ex4
  show Go p e below s n0 (Q_c5 Z n0 h0 o0 (0 : Int32) o2 (0 : Int32) (Int32.ofNat r) n f r g) 0 0 T (mkF m 0 #[.val (.ref o0), .val (.int (0 : Int32)), .val (.ref o2), .val (.int (0 : Int32)), .val (.int (Int32.ofNat r)), .unset, .unset, .unset] [])
  refine g_iconst K W (v := (0 : Int32)) d5_0 rfl (pc' := 1) rfl ?_
  refine g_istore K W d5_1 (Ls' := #[.val (.ref o0), .val (.int (0 : Int32)), .val (.ref o2), .val (.int (0 : Int32)), .val (.int (Int32.ofNat r)), .val (.int (0 : Int32)), .unset, .unset]) rfl (pc' := 3) rfl ?_
  refine g_iload K W d5_3 rfl (pc' := 5) rfl ?_
  refine g_bipush K W (v := (7 : Int32)) d5_5 rfl (pc' := 7) rfl ?_
  refine g_icmp_le K W d5_7 (pt := 70) rfl (pf := 10) rfl (fun hc7 => absurd hc7 (by rw [show (7 : Int32) = Int32.ofNat 7 from rfl, own_lt (by decide) (by omega)]; omega)) (fun hc7 => ?_)
  have loop : ∀ (k : Nat) (i : Nat) (T : State), r - i = k → i ≤ r → (∀ j, j < i → f j = g j) → Wd p l e rm_c5 s m args below meth c n0 T h0 0 0 → Go p e below s n0 (Q_c5 Z n0 h0 o0 (0 : Int32) o2 (0 : Int32) (Int32.ofNat r) n f r g) 0 0 T (mkF m 70 #[.val (.ref o0), .val (.int (0 : Int32)), .val (.ref o2), .val (.int (0 : Int32)), .val (.int (Int32.ofNat r)), .val (.int (Int32.ofNat i)), .unset, .unset] []) := by
    intro k
    induction k using Nat.strongRecOn with
    | ind k ih =>
      intro i T hk hi heq  W
      refine g_iload K W d5_70 rfl (pc' := 72) rfl ?_
      refine g_iload K W d5_72 rfl (pc' := 74) rfl ?_
      refine g_icmp_ge K W d5_74 (pt := 101) rfl (pf := 77) rfl (fun hc74 => ?_) (fun hc74 => ?_)
      · refine g_aloadN K W d5_77 rfl rfl (pc' := 78) rfl ?_
        refine g_iloadN K W d5_78 rfl (pc' := 79) rfl ?_
        refine g_iload K W d5_79 rfl (pc' := 81) rfl ?_
        refine g_iadd K W d5_81 (pc' := 82) rfl ?_
        rw [own_add0]
        refine g_baload K W A_o0 (k := i) (own_ofNat (by omega)) (by have := ((own_lt (by omega) (by omega)).mp hc74); omega) (v := (f i)) rfl d5_82 (pc' := 83) rfl ?_
        refine g_aloadN K W d5_83 rfl rfl (pc' := 84) rfl ?_
        refine g_iloadN K W d5_84 rfl (pc' := 85) rfl ?_
        refine g_iload K W d5_85 rfl (pc' := 87) rfl ?_
        refine g_iadd K W d5_87 (pc' := 88) rfl ?_
        rw [own_add0]
        refine g_baload K W A_o2 (k := i) (own_ofNat (by omega)) ((own_lt (by omega) (by omega)).mp hc74) (v := (g i)) rfl d5_88 (pc' := 89) rfl ?_
        refine g_icmp_eq K W d5_89 (pt := 95) rfl (pf := 92) rfl (fun hc89 => ?_) (fun hc89 => ?_)
        · refine g_iinc K W d5_95 rfl (Ls' := #[.val (.ref o0), .val (.int (0 : Int32)), .val (.ref o2), .val (.int (0 : Int32)), .val (.int (Int32.ofNat r)), .val (.int ((Int32.ofNat i) + (1 : Int32))), .unset, .unset]) rfl (pc' := 98) rfl ?_
          refine g_goto K W d5_98 (pt := 70) rfl ?_
          rw [own_one]
          exact ih (r - (i + 1)) (by have := ((own_lt (by omega) (by omega)).mp hc74); omega) (i + 1) T rfl (by have := ((own_lt (by omega) (by omega)).mp hc74); omega) (fun j hj => if q : j = i then q ▸ hc89 else heq j (by omega)) W
        · refine g_iload K W d5_92 rfl (pc' := 94) rfl ?_
          exact g_retI K W d5_94 (by decide) (by decide) (Or.inr ⟨i, by omega, rfl, rfl, fun q => hc89 (q.2 i ((own_lt (by omega) (by omega)).mp hc74))⟩)
      · refine g_iconst K W (v := (-1 : Int32)) d5_101 rfl (pc' := 102) rfl ?_
        exact g_retI K W d5_102 (by decide) (by decide) (Or.inl ⟨rfl, rfl, hrn, fun j hj => heq j (by have := (not_congr (own_lt (by omega) (by omega))).mp hc74; omega)⟩)
  exact loop r 0 T rfl (Nat.zero_le _) (fun j hj => absurd hj (Nat.not_lt_zero _)) W
def Q_c3 (Z : State) (n0 : Nat) (h0 : Heap) (o0 : Addr) (x1 : Int32) (x2 : Int32) (o3 : Addr) (x4 : Int32) (x5 : Int32) (n : Nat) (f : Nat → Int32) (r : Nat) (g : Nat → Int32) : Option Value → Heap → Prop := fun v h => (v = some (.int 1) ∧ h0 = h ∧ own_same f g n r) ∨ (v = some (.int 0) ∧ h0 = h ∧ ¬ own_same f g n r)
abbrev rm_c3 : Room := { frames := 1, cells := 0, slots := 0, locals := 19 }
set_option maxHeartbeats 40000000 in
theorem c3 (l : Launch) (Z : State) (a0 : Array Value) (hw : ∀ d ∈ tables_1, d.before a0 Z = true) (n0 : Nat) (h0 : Heap) (hn : n0 ≤ h0.size) (o0 : Addr) (x1 : Int32) (x2 : Int32) (o3 : Addr) (x4 : Int32) (x5 : Int32) (n : Nat) (f : Nat → Int32) (r : Nat) (g : Nat → Int32) (A_o0 : AyI Z h0 o0 .byte n f) (A_o3 : AyI Z h0 o3 .byte r g) (hr7 : r ≤ 7) (hrn : r ≤ n) (hn31 : n < 2147483648) (ex1 : x1 = 0) (ex4 : x4 = 0) (ex2 : x2 = Int32.ofNat r) (ex5 : x5 = Int32.ofNat r) :
    Mt l Z (⟨"java/util/Arrays", "equals", "([BII[BII)Z"⟩ : MethodName) jdk_65_method_90_code 8 (some .boolean) rm_c3 n0 #[(.ref o0), (.int x1), (.int x2), (.ref o3), (.int x4), (.int x5)] h0 (Q_c3 Z n0 h0 o0 x1 x2 o3 x4 x5 n f r g) := by
  refine met_of (plainFor_of_name pn_0) (Ls := #[.val (.ref o0), .val (.int x1), .val (.int x2), .val (.ref o3), .val (.int x4), .val (.int x5), .unset, .unset]) (fun m => by first | (simp [entryFrame, mkF, argsToLocals, Value.category]; done) | rfl) hn ?_
  intro p e s m below meth c T K W
  replace K : Cx p s m meth c Z "java/util/Arrays" "equals" jdk_65_method_90_code 8 (some .boolean) := K
  generalize eA : (#[(.ref o0), (.int x1), (.int x2), (.ref o3), (.int x4), (.int x5)] : Array Value) = args at W
  show Go p e below s n0 (Q_c3 Z n0 h0 o0 x1 x2 o3 x4 x5 n f r g) 0 0 T (mkF m 0 #[.val (.ref o0), .val (.int x1), .val (.int x2), .val (.ref o3), .val (.int x4), .val (.int x5), .unset, .unset] [])
  subst ex1 ex2 ex4 ex5
  show Go p e below s n0 (Q_c3 Z n0 h0 o0 (0 : Int32) (Int32.ofNat r) o3 (0 : Int32) (Int32.ofNat r) n f r g) 0 0 T (mkF m 0 #[.val (.ref o0), .val (.int (0 : Int32)), .val (.int (Int32.ofNat r)), .val (.ref o3), .val (.int (0 : Int32)), .val (.int (Int32.ofNat r)), .unset, .unset] [])
  refine g_aloadN K W d3_0 rfl rfl (pc' := 1) rfl ?_
  refine g_alenI K W A_o0 (v := (Int32.ofNat n)) rfl d3_1 (pc' := 2) rfl ?_
  refine g_iloadN K W d3_2 rfl (pc' := 3) rfl ?_
  refine g_iloadN K W d3_3 rfl (pc' := 4) rfl ?_
  refine g_callS (c4 l Z a0 hw n0 _ W.sz (Int32.ofNat n) (0 : Int32) (Int32.ofNat r) (by rw [show (0 : Int32) = Int32.ofNat 0 from rfl, own_lt (by omega) (by omega)]; omega) (by decide) (by rw [own_lt (by omega) (by omega)]; omega)) K W (hw _ (List.mem_of_getElem? (i := 13) rfl)) (hw _ (List.mem_of_getElem? (i := 14) rfl)) (hw _ (List.mem_of_getElem? (i := 11) rfl)) (hw _ (List.mem_of_getElem? (i := 15) rfl)) (by decide) (lenOf pd_0 rfl) d3_4 (pc' := 7) rfl (argsL := [(.int (Int32.ofNat n)), (.int (0 : Int32)), (.int (Int32.ofNat r))]) (rest := []) rfl rfl (by decide) (wt := 0) rfl (by decide) (by decide) (by decide) ?_
  rintro T _ _ W ⟨rfl, rfl⟩
  show Go p e below s n0 (Q_c3 Z n0 h0 o0 (0 : Int32) (Int32.ofNat r) o3 (0 : Int32) (Int32.ofNat r) n f r g) 0 0 T (mkF m 7 #[.val (.ref o0), .val (.int (0 : Int32)), .val (.int (Int32.ofNat r)), .val (.ref o3), .val (.int (0 : Int32)), .val (.int (Int32.ofNat r)), .unset, .unset] [])
  refine g_aloadN K W d3_7 rfl rfl (pc' := 8) rfl ?_
  refine g_alenI K W A_o3 (v := (Int32.ofNat r)) rfl d3_8 (pc' := 9) rfl ?_
  refine g_iload K W d3_9 rfl (pc' := 11) rfl ?_
  refine g_iload K W d3_11 rfl (pc' := 13) rfl ?_
  refine g_callS (c4 l Z a0 hw n0 _ W.sz (Int32.ofNat r) (0 : Int32) (Int32.ofNat r) (by rw [show (0 : Int32) = Int32.ofNat 0 from rfl, own_lt (by omega) (by omega)]; omega) (by decide) (by rw [own_lt (by omega) (by omega)]; omega)) K W (hw _ (List.mem_of_getElem? (i := 13) rfl)) (hw _ (List.mem_of_getElem? (i := 14) rfl)) (hw _ (List.mem_of_getElem? (i := 11) rfl)) (hw _ (List.mem_of_getElem? (i := 15) rfl)) (by decide) (lenOf pd_0 rfl) d3_13 (pc' := 16) rfl (argsL := [(.int (Int32.ofNat r)), (.int (0 : Int32)), (.int (Int32.ofNat r))]) (rest := []) rfl rfl (by decide) (wt := 0) rfl (by decide) (by decide) (by decide) ?_
  rintro T _ _ W ⟨rfl, rfl⟩
  show Go p e below s n0 (Q_c3 Z n0 h0 o0 (0 : Int32) (Int32.ofNat r) o3 (0 : Int32) (Int32.ofNat r) n f r g) 0 0 T (mkF m 16 #[.val (.ref o0), .val (.int (0 : Int32)), .val (.int (Int32.ofNat r)), .val (.ref o3), .val (.int (0 : Int32)), .val (.int (Int32.ofNat r)), .unset, .unset] [])
  refine g_iloadN K W d3_16 rfl (pc' := 17) rfl ?_
  refine g_iloadN K W d3_17 rfl (pc' := 18) rfl ?_
  refine g_isub K W d3_18 (pc' := 19) rfl ?_
  rw [own_sub0]
  refine g_istore K W d3_19 (Ls' := #[.val (.ref o0), .val (.int (0 : Int32)), .val (.int (Int32.ofNat r)), .val (.ref o3), .val (.int (0 : Int32)), .val (.int (Int32.ofNat r)), .val (.int (Int32.ofNat r)), .unset]) rfl (pc' := 21) rfl ?_
  refine g_iload K W d3_21 rfl (pc' := 23) rfl ?_
  refine g_iload K W d3_23 rfl (pc' := 25) rfl ?_
  refine g_isub K W d3_25 (pc' := 26) rfl ?_
  rw [own_sub0]
  refine g_istore K W d3_26 (Ls' := #[.val (.ref o0), .val (.int (0 : Int32)), .val (.int (Int32.ofNat r)), .val (.ref o3), .val (.int (0 : Int32)), .val (.int (Int32.ofNat r)), .val (.int (Int32.ofNat r)), .val (.int (Int32.ofNat r))]) rfl (pc' := 28) rfl ?_
  refine g_iload K W d3_28 rfl (pc' := 30) rfl ?_
  refine g_iload K W d3_30 rfl (pc' := 32) rfl ?_
  refine g_icmp_eq K W d3_32 (pt := 37) rfl (pf := 35) rfl (fun hc32 => ?_) (fun hc32 => absurd rfl hc32)
  refine g_aloadN K W d3_37 rfl rfl (pc' := 38) rfl ?_
  refine g_iloadN K W d3_38 rfl (pc' := 39) rfl ?_
  refine g_aloadN K W d3_39 rfl rfl (pc' := 40) rfl ?_
  refine g_iload K W d3_40 rfl (pc' := 42) rfl ?_
  refine g_iload K W d3_42 rfl (pc' := 44) rfl ?_
  refine g_callS (c5 l Z a0 hw n0 _ W.sz o0 (0 : Int32) o3 (0 : Int32) (Int32.ofNat r) n f r g A_o0 A_o3 hr7 hrn rfl rfl rfl) K W (hw _ (List.mem_of_getElem? (i := 16) rfl)) (hw _ (List.mem_of_getElem? (i := 17) rfl)) (hw _ (List.mem_of_getElem? (i := 18) rfl)) (hw _ (List.mem_of_getElem? (i := 19) rfl)) (by decide) (lenOf pd_1 rfl) d3_44 (pc' := 47) rfl (argsL := [(.ref o0), (.int (0 : Int32)), (.ref o3), (.int (0 : Int32)), (.int (Int32.ofNat r))]) (rest := []) rfl rfl (by decide) (wt := 0) rfl (by decide) (by decide) (by decide) ?_
  rintro T _ _ W (⟨rfl, rfl, hz⟩ | ⟨i, hi8, rfl, rfl, hz⟩)
  · show Go p e below s n0 (Q_c3 Z n0 h0 o0 (0 : Int32) (Int32.ofNat r) o3 (0 : Int32) (Int32.ofNat r) n f r g) 0 0 T (mkF m 47 #[.val (.ref o0), .val (.int (0 : Int32)), .val (.int (Int32.ofNat r)), .val (.ref o3), .val (.int (0 : Int32)), .val (.int (Int32.ofNat r)), .val (.int (Int32.ofNat r)), .val (.int (Int32.ofNat r))] [(.int (-1 : Int32))])
    refine g_if_ge K W d3_47 (pt := 54) rfl (pf := 50) rfl (fun hc47 => ?_) (fun hc47 => absurd (by decide) hc47)
    refine g_iconst K W (v := (1 : Int32)) d3_50 rfl (pc' := 51) rfl ?_
    refine g_goto K W d3_51 (pt := 55) rfl ?_
    exact g_retN K W (by simp) d3_55 (by decide) (by decide) (v := (1 : Int32)) rfl (Or.inl ⟨rfl, rfl, hz⟩)
  · show Go p e below s n0 (Q_c3 Z n0 h0 o0 (0 : Int32) (Int32.ofNat r) o3 (0 : Int32) (Int32.ofNat r) n f r g) 0 0 T (mkF m 47 #[.val (.ref o0), .val (.int (0 : Int32)), .val (.int (Int32.ofNat r)), .val (.ref o3), .val (.int (0 : Int32)), .val (.int (Int32.ofNat r)), .val (.int (Int32.ofNat r)), .val (.int (Int32.ofNat r))] [(.int (Int32.ofNat i))])
    refine g_if_ge K W d3_47 (pt := 54) rfl (pf := 50) rfl (fun hc47 => absurd hc47 (by rw [show (0 : Int32) = Int32.ofNat 0 from rfl, own_lt (by omega) (by omega)]; omega)) (fun hc47 => ?_)
    refine g_iconst K W (v := (0 : Int32)) d3_54 rfl (pc' := 55) rfl ?_
    exact g_retN K W (by simp) d3_55 (by decide) (by decide) (v := (0 : Int32)) rfl (Or.inr ⟨rfl, rfl, hz⟩)
def Q_c2 (Z : State) (n0 : Nat) (h0 : Heap) (o0 : Addr) (o1 : Addr) (n : Nat) (f : Nat → Int32) (r : Nat) (g : Nat → Int32) : Option Value → Heap → Prop := fun v h => (v = some (.int 1) ∧ h0 = h ∧ own_same f g n r) ∨ (v = some (.int 0) ∧ h0 = h ∧ ¬ own_same f g n r)
abbrev rm_c2 : Room := { frames := 2, cells := 0, slots := 0, locals := 38 }
set_option maxHeartbeats 40000000 in
theorem c2 (l : Launch) (Z : State) (a0 : Array Value) (hw : ∀ d ∈ tables_1, d.before a0 Z = true) (n0 : Nat) (h0 : Heap) (hn : n0 ≤ h0.size) (o0 : Addr) (o1 : Addr) (n : Nat) (f : Nat → Int32) (r : Nat) (g : Nat → Int32) (A_o0 : AyI Z h0 o0 .byte n f) (A_o1 : AyI Z h0 o1 .byte r g) (hr7 : r ≤ 7) (hn31 : n < 2147483648) :
    Mt l Z (⟨"com/example/bowerbird/bowerbird/store/Codec", "startsWith", "([B[B)Z"⟩ : MethodName) prog_57_method_7_code 2 (some .boolean) rm_c2 n0 #[(.ref o0), (.ref o1)] h0 (Q_c2 Z n0 h0 o0 o1 n f r g) := by
  refine met_of (plainFor_of_name pn_2) (Ls := #[.val (.ref o0), .val (.ref o1)]) (fun m => by first | (simp [entryFrame, mkF, argsToLocals, Value.category]; done) | rfl) hn ?_
  intro p e s m below meth c T K W
  replace K : Cx p s m meth c Z "com/example/bowerbird/bowerbird/store/Codec" "startsWith" prog_57_method_7_code 2 (some .boolean) := K
  generalize eA : (#[(.ref o0), (.ref o1)] : Array Value) = args at W
  show Go p e below s n0 (Q_c2 Z n0 h0 o0 o1 n f r g) 0 0 T (mkF m 0 #[.val (.ref o0), .val (.ref o1)] [])
  refine g_aloadN K W d2_0 rfl rfl (pc' := 1) rfl ?_
  refine g_alenI K W A_o0 (v := (Int32.ofNat n)) rfl d2_1 (pc' := 2) rfl ?_
  refine g_aloadN K W d2_2 rfl rfl (pc' := 3) rfl ?_
  refine g_alenI K W A_o1 (v := (Int32.ofNat r)) rfl d2_3 (pc' := 4) rfl ?_
  refine g_icmp_lt K W d2_4 (pt := 25) rfl (pf := 7) rfl (fun hc4 => ?_) (fun hc4 => ?_)
  · refine g_iconst K W (v := (0 : Int32)) d2_25 rfl (pc' := 26) rfl ?_
    exact g_retN K W (by simp) d2_26 (by decide) (by decide) (v := (0 : Int32)) rfl (Or.inr ⟨rfl, rfl, fun q => by have := (own_lt hn31 (by omega)).mp hc4; have := q.1; omega⟩)
  · refine g_aloadN K W d2_7 rfl rfl (pc' := 8) rfl ?_
    refine g_iconst K W (v := (0 : Int32)) d2_8 rfl (pc' := 9) rfl ?_
    refine g_aloadN K W d2_9 rfl rfl (pc' := 10) rfl ?_
    refine g_alenI K W A_o1 (v := (Int32.ofNat r)) rfl d2_10 (pc' := 11) rfl ?_
    refine g_aloadN K W d2_11 rfl rfl (pc' := 12) rfl ?_
    refine g_iconst K W (v := (0 : Int32)) d2_12 rfl (pc' := 13) rfl ?_
    refine g_aloadN K W d2_13 rfl rfl (pc' := 14) rfl ?_
    refine g_alenI K W A_o1 (v := (Int32.ofNat r)) rfl d2_14 (pc' := 15) rfl ?_
    refine g_callS (c3 l Z a0 hw n0 _ W.sz o0 (0 : Int32) (Int32.ofNat r) o1 (0 : Int32) (Int32.ofNat r) n f r g A_o0 A_o1 hr7 (by have := (not_congr (own_lt hn31 (by omega))).mp hc4; omega) hn31 rfl rfl rfl rfl) K W (hw _ (List.mem_of_getElem? (i := 9) rfl)) (hw _ (List.mem_of_getElem? (i := 10) rfl)) (hw _ (List.mem_of_getElem? (i := 11) rfl)) (hw _ (List.mem_of_getElem? (i := 12) rfl)) (by decide) (lenOf pd_2 rfl) d2_15 (pc' := 18) rfl (argsL := [(.ref o0), (.int (0 : Int32)), (.int (Int32.ofNat r)), (.ref o1), (.int (0 : Int32)), (.int (Int32.ofNat r))]) (rest := []) rfl rfl (by decide) (wt := 0) rfl (by decide) (by decide) (by decide) ?_
    rintro T _ _ W (⟨rfl, rfl, hz⟩ | ⟨rfl, rfl, hz⟩)
    · show Go p e below s n0 (Q_c2 Z n0 h0 o0 o1 n f r g) 0 0 T (mkF m 18 #[.val (.ref o0), .val (.ref o1)] [(.int (1 : Int32))])
      refine g_if_eq K W d2_18 (pt := 25) rfl (pf := 21) rfl (fun hc18 => absurd hc18 (by decide)) (fun hc18 => ?_)
      refine g_iconst K W (v := (1 : Int32)) d2_21 rfl (pc' := 22) rfl ?_
      refine g_goto K W d2_22 (pt := 26) rfl ?_
      exact g_retN K W (by simp) d2_26 (by decide) (by decide) (v := (1 : Int32)) rfl (Or.inl ⟨rfl, rfl, hz⟩)
    · show Go p e below s n0 (Q_c2 Z n0 h0 o0 o1 n f r g) 0 0 T (mkF m 18 #[.val (.ref o0), .val (.ref o1)] [(.int (0 : Int32))])
      refine g_if_eq K W d2_18 (pt := 25) rfl (pf := 21) rfl (fun hc18 => ?_) (fun hc18 => absurd rfl hc18)
      refine g_iconst K W (v := (0 : Int32)) d2_25 rfl (pc' := 26) rfl ?_
      exact g_retN K W (by simp) d2_26 (by decide) (by decide) (v := (0 : Int32)) rfl (Or.inr ⟨rfl, rfl, hz⟩)
def Q_c1 (Z : State) (n0 : Nat) (h0 : Heap) (x0 : Int32) (x1 : Int32) (x2 : Int32) (x3 : Int32) (x4 : Int32) (n : Nat) : Option Value → Heap → Prop := fun v h => ∃ (a : Addr) (f : Nat → Int32), v = some (.ref a) ∧ n0 ≤ a ∧ h0.size ≤ a ∧ Keep h0 h [] ∧ AyI Z h a .byte n f ∧ ∀ j, j < n → f j = own_f x1 x2 x3 x4 j
abbrev rm_c1 : Room := { frames := 0, cells := 1, slots := 4, locals := 0 }
set_option maxHeartbeats 40000000 in
theorem c1 (l : Launch) (Z : State) (a0 : Array Value) (hw : ∀ d ∈ tables_1, d.before a0 Z = true) (n0 : Nat) (h0 : Heap) (hn : n0 ≤ h0.size) (x0 : Int32) (x1 : Int32) (x2 : Int32) (x3 : Int32) (x4 : Int32) (n : Nat) (hn4 : n ≤ 4) (ex0 : x0 = Int32.ofNat n) :
    Mt l Z (⟨"com/example/bowerbird/bowerbird/store/CodecStartsWithPinLaw", "bytes", "(IBBBB)[B"⟩ : MethodName) method_2_code 6 (some (.array .byte)) rm_c1 n0 #[(.int x0), (.int x1), (.int x2), (.int x3), (.int x4)] h0 (Q_c1 Z n0 h0 x0 x1 x2 x3 x4 n) := by
  refine met_of (plainFor_of_name pn_3) (Ls := #[.val (.int x0), .val (.int x1), .val (.int x2), .val (.int x3), .val (.int x4), .unset]) (fun m => by first | (simp [entryFrame, mkF, argsToLocals, Value.category]; done) | rfl) hn ?_
  intro p e s m below meth c T K W
  replace K : Cx p s m meth c Z "com/example/bowerbird/bowerbird/store/CodecStartsWithPinLaw" "bytes" method_2_code 6 (some (.array .byte)) := K
  generalize eA : (#[(.int x0), (.int x1), (.int x2), (.int x3), (.int x4)] : Array Value) = args at W
  show Go p e below s n0 (Q_c1 Z n0 h0 x0 x1 x2 x3 x4 n) 1 4 T (mkF m 0 #[.val (.int x0), .val (.int x1), .val (.int x2), .val (.int x3), .val (.int x4), .unset] [])
  have kp := Keep.refl h0 []
  obtain rfl | rfl | rfl | rfl | rfl : n = 0 ∨ n = 1 ∨ n = 2 ∨ n = 3 ∨ n = 4 := by omega
  · obtain rfl : x0 = (0 : Int32) := ex0
    show Go p e below s n0 (Q_c1 Z n0 h0 (0 : Int32) x1 x2 x3 x4 0) 1 4 T (mkF m 0 #[.val (.int (0 : Int32)), .val (.int x1), .val (.int x2), .val (.int x3), .val (.int x4), .unset] [])
    refine g_iloadN K W d1_0 rfl (pc' := 1) rfl ?_
    refine g_newI K W (ty := .byte) (n := 0) (cap := 0) (hw _ (List.mem_of_getElem? (i := 4) rfl)) rfl rfl rfl (Nat.le_refl _) d1_1 (pc' := 3) rfl (by decide) (by decide) (by decide) (fun T h a1 W E ha_a1 ge_a1 A_a1 => ?_)
    have sz_a1 : h0.size ≤ a1 := by rw [ha_a1]; exact kp.1
    have kp := kp.ext E
    refine g_astore K W d1_3 rfl (Ls' := #[.val (.int (0 : Int32)), .val (.int x1), .val (.int x2), .val (.int x3), .val (.int x4), .val (.ref a1)]) rfl (pc' := 5) rfl ?_
    refine g_iloadN K W d1_5 rfl (pc' := 6) rfl ?_
    refine g_if_le K W d1_6 (pt := 14) rfl (pf := 9) rfl (fun hc6 => absurd hc6 (by decide)) (fun hc6 => ?_)
    refine g_iloadN K W d1_14 rfl (pc' := 15) rfl ?_
    refine g_iconst K W (v := (1 : Int32)) d1_15 rfl (pc' := 16) rfl ?_
    refine g_icmp_le K W d1_16 (pt := 24) rfl (pf := 19) rfl (fun hc16 => absurd hc16 (by decide)) (fun hc16 => ?_)
    refine g_iloadN K W d1_24 rfl (pc' := 25) rfl ?_
    refine g_iconst K W (v := (2 : Int32)) d1_25 rfl (pc' := 26) rfl ?_
    refine g_icmp_le K W d1_26 (pt := 34) rfl (pf := 29) rfl (fun hc26 => absurd hc26 (by decide)) (fun hc26 => ?_)
    refine g_iloadN K W d1_34 rfl (pc' := 35) rfl ?_
    refine g_iconst K W (v := (3 : Int32)) d1_35 rfl (pc' := 36) rfl ?_
    refine g_icmp_le K W d1_36 (pt := 45) rfl (pf := 39) rfl (fun hc36 => absurd hc36 (by decide)) (fun hc36 => ?_)
    refine g_aload K W d1_45 rfl rfl (pc' := 47) rfl ?_
    exact g_retA K W rfl rfl rfl d1_47 (by decide) (by decide) ⟨a1, _, rfl, ge_a1, sz_a1, kp, A_a1, (fun j hj => absurd hj (Nat.not_lt_zero _))⟩
  · obtain rfl : x0 = (1 : Int32) := ex0
    show Go p e below s n0 (Q_c1 Z n0 h0 (1 : Int32) x1 x2 x3 x4 1) 1 4 T (mkF m 0 #[.val (.int (1 : Int32)), .val (.int x1), .val (.int x2), .val (.int x3), .val (.int x4), .unset] [])
    refine g_iloadN K W d1_0 rfl (pc' := 1) rfl ?_
    refine g_newI K W (ty := .byte) (n := 1) (cap := 1) (hw _ (List.mem_of_getElem? (i := 4) rfl)) rfl rfl rfl (Nat.le_refl _) d1_1 (pc' := 3) rfl (by decide) (by decide) (by decide) (fun T h a1 W E ha_a1 ge_a1 A_a1 => ?_)
    have sz_a1 : h0.size ≤ a1 := by rw [ha_a1]; exact kp.1
    have kp := kp.ext E
    refine g_astore K W d1_3 rfl (Ls' := #[.val (.int (1 : Int32)), .val (.int x1), .val (.int x2), .val (.int x3), .val (.int x4), .val (.ref a1)]) rfl (pc' := 5) rfl ?_
    refine g_iloadN K W d1_5 rfl (pc' := 6) rfl ?_
    refine g_if_le K W d1_6 (pt := 14) rfl (pf := 9) rfl (fun hc6 => ?_) (fun hc6 => absurd (by decide) hc6)
    refine g_aload K W d1_9 rfl rfl (pc' := 11) rfl ?_
    refine g_iconst K W (v := (0 : Int32)) d1_11 rfl (pc' := 12) rfl ?_
    refine g_iloadN K W d1_12 rfl (pc' := 13) rfl ?_
    refine g_bastore K W A_a1 (k := 0) rfl (by decide) ge_a1 d1_13 (pc' := 14) rfl (fun T h W w A_a1 => ?_)
    have kp := kp.wr w (Or.inr sz_a1)
    refine g_iloadN K W d1_14 rfl (pc' := 15) rfl ?_
    refine g_iconst K W (v := (1 : Int32)) d1_15 rfl (pc' := 16) rfl ?_
    refine g_icmp_le K W d1_16 (pt := 24) rfl (pf := 19) rfl (fun hc16 => absurd hc16 (by decide)) (fun hc16 => ?_)
    refine g_iloadN K W d1_24 rfl (pc' := 25) rfl ?_
    refine g_iconst K W (v := (2 : Int32)) d1_25 rfl (pc' := 26) rfl ?_
    refine g_icmp_le K W d1_26 (pt := 34) rfl (pf := 29) rfl (fun hc26 => absurd hc26 (by decide)) (fun hc26 => ?_)
    refine g_iloadN K W d1_34 rfl (pc' := 35) rfl ?_
    refine g_iconst K W (v := (3 : Int32)) d1_35 rfl (pc' := 36) rfl ?_
    refine g_icmp_le K W d1_36 (pt := 45) rfl (pf := 39) rfl (fun hc36 => absurd hc36 (by decide)) (fun hc36 => ?_)
    refine g_aload K W d1_45 rfl rfl (pc' := 47) rfl ?_
    exact g_retA K W rfl rfl rfl d1_47 (by decide) (by decide) ⟨a1, _, rfl, ge_a1, sz_a1, kp, A_a1, (fun j hj => match j, hj with | 0, _ => rfl)⟩
  · obtain rfl : x0 = (2 : Int32) := ex0
    show Go p e below s n0 (Q_c1 Z n0 h0 (2 : Int32) x1 x2 x3 x4 2) 1 4 T (mkF m 0 #[.val (.int (2 : Int32)), .val (.int x1), .val (.int x2), .val (.int x3), .val (.int x4), .unset] [])
    refine g_iloadN K W d1_0 rfl (pc' := 1) rfl ?_
    refine g_newI K W (ty := .byte) (n := 2) (cap := 2) (hw _ (List.mem_of_getElem? (i := 4) rfl)) rfl rfl rfl (Nat.le_refl _) d1_1 (pc' := 3) rfl (by decide) (by decide) (by decide) (fun T h a1 W E ha_a1 ge_a1 A_a1 => ?_)
    have sz_a1 : h0.size ≤ a1 := by rw [ha_a1]; exact kp.1
    have kp := kp.ext E
    refine g_astore K W d1_3 rfl (Ls' := #[.val (.int (2 : Int32)), .val (.int x1), .val (.int x2), .val (.int x3), .val (.int x4), .val (.ref a1)]) rfl (pc' := 5) rfl ?_
    refine g_iloadN K W d1_5 rfl (pc' := 6) rfl ?_
    refine g_if_le K W d1_6 (pt := 14) rfl (pf := 9) rfl (fun hc6 => ?_) (fun hc6 => absurd (by decide) hc6)
    refine g_aload K W d1_9 rfl rfl (pc' := 11) rfl ?_
    refine g_iconst K W (v := (0 : Int32)) d1_11 rfl (pc' := 12) rfl ?_
    refine g_iloadN K W d1_12 rfl (pc' := 13) rfl ?_
    refine g_bastore K W A_a1 (k := 0) rfl (by decide) ge_a1 d1_13 (pc' := 14) rfl (fun T h W w A_a1 => ?_)
    have kp := kp.wr w (Or.inr sz_a1)
    refine g_iloadN K W d1_14 rfl (pc' := 15) rfl ?_
    refine g_iconst K W (v := (1 : Int32)) d1_15 rfl (pc' := 16) rfl ?_
    refine g_icmp_le K W d1_16 (pt := 24) rfl (pf := 19) rfl (fun hc16 => ?_) (fun hc16 => absurd (by decide) hc16)
    refine g_aload K W d1_19 rfl rfl (pc' := 21) rfl ?_
    refine g_iconst K W (v := (1 : Int32)) d1_21 rfl (pc' := 22) rfl ?_
    refine g_iloadN K W d1_22 rfl (pc' := 23) rfl ?_
    refine g_bastore K W A_a1 (k := 1) rfl (by decide) ge_a1 d1_23 (pc' := 24) rfl (fun T h W w A_a1 => ?_)
    have kp := kp.wr w (Or.inr sz_a1)
    refine g_iloadN K W d1_24 rfl (pc' := 25) rfl ?_
    refine g_iconst K W (v := (2 : Int32)) d1_25 rfl (pc' := 26) rfl ?_
    refine g_icmp_le K W d1_26 (pt := 34) rfl (pf := 29) rfl (fun hc26 => absurd hc26 (by decide)) (fun hc26 => ?_)
    refine g_iloadN K W d1_34 rfl (pc' := 35) rfl ?_
    refine g_iconst K W (v := (3 : Int32)) d1_35 rfl (pc' := 36) rfl ?_
    refine g_icmp_le K W d1_36 (pt := 45) rfl (pf := 39) rfl (fun hc36 => absurd hc36 (by decide)) (fun hc36 => ?_)
    refine g_aload K W d1_45 rfl rfl (pc' := 47) rfl ?_
    exact g_retA K W rfl rfl rfl d1_47 (by decide) (by decide) ⟨a1, _, rfl, ge_a1, sz_a1, kp, A_a1, (fun j hj => match j, hj with | 0, _ => rfl | 1, _ => rfl)⟩
  · obtain rfl : x0 = (3 : Int32) := ex0
    show Go p e below s n0 (Q_c1 Z n0 h0 (3 : Int32) x1 x2 x3 x4 3) 1 4 T (mkF m 0 #[.val (.int (3 : Int32)), .val (.int x1), .val (.int x2), .val (.int x3), .val (.int x4), .unset] [])
    refine g_iloadN K W d1_0 rfl (pc' := 1) rfl ?_
    refine g_newI K W (ty := .byte) (n := 3) (cap := 3) (hw _ (List.mem_of_getElem? (i := 4) rfl)) rfl rfl rfl (Nat.le_refl _) d1_1 (pc' := 3) rfl (by decide) (by decide) (by decide) (fun T h a1 W E ha_a1 ge_a1 A_a1 => ?_)
    have sz_a1 : h0.size ≤ a1 := by rw [ha_a1]; exact kp.1
    have kp := kp.ext E
    refine g_astore K W d1_3 rfl (Ls' := #[.val (.int (3 : Int32)), .val (.int x1), .val (.int x2), .val (.int x3), .val (.int x4), .val (.ref a1)]) rfl (pc' := 5) rfl ?_
    refine g_iloadN K W d1_5 rfl (pc' := 6) rfl ?_
    refine g_if_le K W d1_6 (pt := 14) rfl (pf := 9) rfl (fun hc6 => ?_) (fun hc6 => absurd (by decide) hc6)
    refine g_aload K W d1_9 rfl rfl (pc' := 11) rfl ?_
    refine g_iconst K W (v := (0 : Int32)) d1_11 rfl (pc' := 12) rfl ?_
    refine g_iloadN K W d1_12 rfl (pc' := 13) rfl ?_
    refine g_bastore K W A_a1 (k := 0) rfl (by decide) ge_a1 d1_13 (pc' := 14) rfl (fun T h W w A_a1 => ?_)
    have kp := kp.wr w (Or.inr sz_a1)
    refine g_iloadN K W d1_14 rfl (pc' := 15) rfl ?_
    refine g_iconst K W (v := (1 : Int32)) d1_15 rfl (pc' := 16) rfl ?_
    refine g_icmp_le K W d1_16 (pt := 24) rfl (pf := 19) rfl (fun hc16 => ?_) (fun hc16 => absurd (by decide) hc16)
    refine g_aload K W d1_19 rfl rfl (pc' := 21) rfl ?_
    refine g_iconst K W (v := (1 : Int32)) d1_21 rfl (pc' := 22) rfl ?_
    refine g_iloadN K W d1_22 rfl (pc' := 23) rfl ?_
    refine g_bastore K W A_a1 (k := 1) rfl (by decide) ge_a1 d1_23 (pc' := 24) rfl (fun T h W w A_a1 => ?_)
    have kp := kp.wr w (Or.inr sz_a1)
    refine g_iloadN K W d1_24 rfl (pc' := 25) rfl ?_
    refine g_iconst K W (v := (2 : Int32)) d1_25 rfl (pc' := 26) rfl ?_
    refine g_icmp_le K W d1_26 (pt := 34) rfl (pf := 29) rfl (fun hc26 => ?_) (fun hc26 => absurd (by decide) hc26)
    refine g_aload K W d1_29 rfl rfl (pc' := 31) rfl ?_
    refine g_iconst K W (v := (2 : Int32)) d1_31 rfl (pc' := 32) rfl ?_
    refine g_iloadN K W d1_32 rfl (pc' := 33) rfl ?_
    refine g_bastore K W A_a1 (k := 2) rfl (by decide) ge_a1 d1_33 (pc' := 34) rfl (fun T h W w A_a1 => ?_)
    have kp := kp.wr w (Or.inr sz_a1)
    refine g_iloadN K W d1_34 rfl (pc' := 35) rfl ?_
    refine g_iconst K W (v := (3 : Int32)) d1_35 rfl (pc' := 36) rfl ?_
    refine g_icmp_le K W d1_36 (pt := 45) rfl (pf := 39) rfl (fun hc36 => absurd hc36 (by decide)) (fun hc36 => ?_)
    refine g_aload K W d1_45 rfl rfl (pc' := 47) rfl ?_
    exact g_retA K W rfl rfl rfl d1_47 (by decide) (by decide) ⟨a1, _, rfl, ge_a1, sz_a1, kp, A_a1, (fun j hj => match j, hj with | 0, _ => rfl | 1, _ => rfl | 2, _ => rfl)⟩
  · obtain rfl : x0 = (4 : Int32) := ex0
    show Go p e below s n0 (Q_c1 Z n0 h0 (4 : Int32) x1 x2 x3 x4 4) 1 4 T (mkF m 0 #[.val (.int (4 : Int32)), .val (.int x1), .val (.int x2), .val (.int x3), .val (.int x4), .unset] [])
    refine g_iloadN K W d1_0 rfl (pc' := 1) rfl ?_
    refine g_newI K W (ty := .byte) (n := 4) (cap := 4) (hw _ (List.mem_of_getElem? (i := 4) rfl)) rfl rfl rfl (Nat.le_refl _) d1_1 (pc' := 3) rfl (by decide) (by decide) (by decide) (fun T h a1 W E ha_a1 ge_a1 A_a1 => ?_)
    have sz_a1 : h0.size ≤ a1 := by rw [ha_a1]; exact kp.1
    have kp := kp.ext E
    refine g_astore K W d1_3 rfl (Ls' := #[.val (.int (4 : Int32)), .val (.int x1), .val (.int x2), .val (.int x3), .val (.int x4), .val (.ref a1)]) rfl (pc' := 5) rfl ?_
    refine g_iloadN K W d1_5 rfl (pc' := 6) rfl ?_
    refine g_if_le K W d1_6 (pt := 14) rfl (pf := 9) rfl (fun hc6 => ?_) (fun hc6 => absurd (by decide) hc6)
    refine g_aload K W d1_9 rfl rfl (pc' := 11) rfl ?_
    refine g_iconst K W (v := (0 : Int32)) d1_11 rfl (pc' := 12) rfl ?_
    refine g_iloadN K W d1_12 rfl (pc' := 13) rfl ?_
    refine g_bastore K W A_a1 (k := 0) rfl (by decide) ge_a1 d1_13 (pc' := 14) rfl (fun T h W w A_a1 => ?_)
    have kp := kp.wr w (Or.inr sz_a1)
    refine g_iloadN K W d1_14 rfl (pc' := 15) rfl ?_
    refine g_iconst K W (v := (1 : Int32)) d1_15 rfl (pc' := 16) rfl ?_
    refine g_icmp_le K W d1_16 (pt := 24) rfl (pf := 19) rfl (fun hc16 => ?_) (fun hc16 => absurd (by decide) hc16)
    refine g_aload K W d1_19 rfl rfl (pc' := 21) rfl ?_
    refine g_iconst K W (v := (1 : Int32)) d1_21 rfl (pc' := 22) rfl ?_
    refine g_iloadN K W d1_22 rfl (pc' := 23) rfl ?_
    refine g_bastore K W A_a1 (k := 1) rfl (by decide) ge_a1 d1_23 (pc' := 24) rfl (fun T h W w A_a1 => ?_)
    have kp := kp.wr w (Or.inr sz_a1)
    refine g_iloadN K W d1_24 rfl (pc' := 25) rfl ?_
    refine g_iconst K W (v := (2 : Int32)) d1_25 rfl (pc' := 26) rfl ?_
    refine g_icmp_le K W d1_26 (pt := 34) rfl (pf := 29) rfl (fun hc26 => ?_) (fun hc26 => absurd (by decide) hc26)
    refine g_aload K W d1_29 rfl rfl (pc' := 31) rfl ?_
    refine g_iconst K W (v := (2 : Int32)) d1_31 rfl (pc' := 32) rfl ?_
    refine g_iloadN K W d1_32 rfl (pc' := 33) rfl ?_
    refine g_bastore K W A_a1 (k := 2) rfl (by decide) ge_a1 d1_33 (pc' := 34) rfl (fun T h W w A_a1 => ?_)
    have kp := kp.wr w (Or.inr sz_a1)
    refine g_iloadN K W d1_34 rfl (pc' := 35) rfl ?_
    refine g_iconst K W (v := (3 : Int32)) d1_35 rfl (pc' := 36) rfl ?_
    refine g_icmp_le K W d1_36 (pt := 45) rfl (pf := 39) rfl (fun hc36 => ?_) (fun hc36 => absurd (by decide) hc36)
    refine g_aload K W d1_39 rfl rfl (pc' := 41) rfl ?_
    refine g_iconst K W (v := (3 : Int32)) d1_41 rfl (pc' := 42) rfl ?_
    refine g_iload K W d1_42 rfl (pc' := 44) rfl ?_
    refine g_bastore K W A_a1 (k := 3) rfl (by decide) ge_a1 d1_44 (pc' := 45) rfl (fun T h W w A_a1 => ?_)
    have kp := kp.wr w (Or.inr sz_a1)
    refine g_aload K W d1_45 rfl rfl (pc' := 47) rfl ?_
    exact g_retA K W rfl rfl rfl d1_47 (by decide) (by decide) ⟨a1, _, rfl, ge_a1, sz_a1, kp, A_a1, (fun j hj => match j, hj with | 0, _ => rfl | 1, _ => rfl | 2, _ => rfl | 3, _ => rfl)⟩
def Q_c0 (Z : State) (n0 : Nat) (h0 : Heap) (xs : Int32) (x1 : Int32) (x2 : Int32) (x3 : Int32) : Option Value → Heap → Prop := fun v h => v = some (.int 1)
set_option maxHeartbeats 40000000 in
theorem c0 (l : Launch) (Z : State) (a0 : Array Value) (hw : ∀ d ∈ tables_1, d.before a0 Z = true) (n0 : Nat) (h0 : Heap) (hn : n0 ≤ h0.size) (xs : Int32) (x1 : Int32) (x2 : Int32) (x3 : Int32) :
    Mt l Z x code maxLocals ret room_1 n0 #[(.int xs), (.int x1), (.int x2), (.int x3)] h0 (Q_c0 Z n0 h0 xs x1 x2 x3) := by
  refine met_of (plainFor_of_name pn_3) (Ls := #[.val (.int xs), .val (.int x1), .val (.int x2), .val (.int x3), .unset, .unset, .unset, .unset, .unset, .unset, .unset, .unset, .unset, .unset, .unset, .unset, .unset]) (fun m => by first | (simp [entryFrame, mkF, argsToLocals, Value.category, maxLocals]; done) | rfl) hn ?_
  intro p e s m below meth c T K W
  replace K : Cx p s m meth c Z "com/example/bowerbird/bowerbird/store/CodecStartsWithPinLaw" "law" code 17 (some .boolean) := K
  generalize eA : (#[(.int xs), (.int x1), (.int x2), (.int x3)] : Array Value) = args at W
  show Go p e below s n0 (Q_c0 Z n0 h0 xs x1 x2 x3) 16 128 T (mkF m 0 #[.val (.int xs), .val (.int x1), .val (.int x2), .val (.int x3), .unset, .unset, .unset, .unset, .unset, .unset, .unset, .unset, .unset, .unset, .unset, .unset, .unset] [])
  refine g_iloadN K W at_0 rfl (pc' := 1) rfl ?_
  refine g_bipush K W (v := (7 : Int32)) at_1 rfl (pc' := 3) rfl ?_
  refine g_iand K W at_3 (pc' := 4) rfl ?_
  refine g_iconst K W (v := (5 : Int32)) at_4 rfl (pc' := 5) rfl ?_
  refine g_irem K W (by decide) at_5 (pc' := 6) rfl ?_
  generalize e_v6 : ((xs &&& (7 : Int32)) % (5 : Int32)) = v6
  refine g_istore K W at_6 (Ls' := #[.val (.int xs), .val (.int x1), .val (.int x2), .val (.int x3), .val (.int v6), .unset, .unset, .unset, .unset, .unset, .unset, .unset, .unset, .unset, .unset, .unset, .unset]) rfl (pc' := 8) rfl ?_
  refine g_iloadN K W at_8 rfl (pc' := 9) rfl ?_
  refine g_iconst K W (v := (3 : Int32)) at_9 rfl (pc' := 10) rfl ?_
  refine g_iushr K W at_10 (pc' := 11) rfl ?_
  refine g_bipush K W (v := (7 : Int32)) at_11 rfl (pc' := 13) rfl ?_
  refine g_iand K W at_13 (pc' := 14) rfl ?_
  refine g_iconst K W (v := (5 : Int32)) at_14 rfl (pc' := 15) rfl ?_
  refine g_irem K W (by decide) at_15 (pc' := 16) rfl ?_
  generalize e_v16 : ((((xs.toUInt32 >>> ((3 : Int32) &&& 31).toUInt32).toInt32) &&& (7 : Int32)) % (5 : Int32)) = v16
  refine g_istore K W at_16 (Ls' := #[.val (.int xs), .val (.int x1), .val (.int x2), .val (.int x3), .val (.int v6), .val (.int v16), .unset, .unset, .unset, .unset, .unset, .unset, .unset, .unset, .unset, .unset, .unset]) rfl (pc' := 18) rfl ?_
  refine g_iloadN K W at_18 rfl (pc' := 19) rfl ?_
  refine g_i2b K W at_19 (pc' := 20) rfl ?_
  generalize e_v20 : (x1.toInt8.toInt32) = v20
  refine g_istore K W at_20 (Ls' := #[.val (.int xs), .val (.int x1), .val (.int x2), .val (.int x3), .val (.int v6), .val (.int v16), .val (.int v20), .unset, .unset, .unset, .unset, .unset, .unset, .unset, .unset, .unset, .unset]) rfl (pc' := 22) rfl ?_
  have hk0 : v20.toInt8.toInt32 = v20 := by rw [← e_v20]; exact own_byte _
  refine g_iloadN K W at_22 rfl (pc' := 23) rfl ?_
  refine g_bipush K W (v := (8 : Int32)) at_23 rfl (pc' := 25) rfl ?_
  refine g_iushr K W at_25 (pc' := 26) rfl ?_
  refine g_i2b K W at_26 (pc' := 27) rfl ?_
  generalize e_v27 : (((x1.toUInt32 >>> ((8 : Int32) &&& 31).toUInt32).toInt32).toInt8.toInt32) = v27
  refine g_istore K W at_27 (Ls' := #[.val (.int xs), .val (.int x1), .val (.int x2), .val (.int x3), .val (.int v6), .val (.int v16), .val (.int v20), .val (.int v27), .unset, .unset, .unset, .unset, .unset, .unset, .unset, .unset, .unset]) rfl (pc' := 29) rfl ?_
  have hk1 : v27.toInt8.toInt32 = v27 := by rw [← e_v27]; exact own_byte _
  refine g_iloadN K W at_29 rfl (pc' := 30) rfl ?_
  refine g_bipush K W (v := (16 : Int32)) at_30 rfl (pc' := 32) rfl ?_
  refine g_iushr K W at_32 (pc' := 33) rfl ?_
  refine g_i2b K W at_33 (pc' := 34) rfl ?_
  generalize e_v34 : (((x1.toUInt32 >>> ((16 : Int32) &&& 31).toUInt32).toInt32).toInt8.toInt32) = v34
  refine g_istore K W at_34 (Ls' := #[.val (.int xs), .val (.int x1), .val (.int x2), .val (.int x3), .val (.int v6), .val (.int v16), .val (.int v20), .val (.int v27), .val (.int v34), .unset, .unset, .unset, .unset, .unset, .unset, .unset, .unset]) rfl (pc' := 36) rfl ?_
  have hk2 : v34.toInt8.toInt32 = v34 := by rw [← e_v34]; exact own_byte _
  refine g_iloadN K W at_36 rfl (pc' := 37) rfl ?_
  refine g_bipush K W (v := (24 : Int32)) at_37 rfl (pc' := 39) rfl ?_
  refine g_iushr K W at_39 (pc' := 40) rfl ?_
  refine g_i2b K W at_40 (pc' := 41) rfl ?_
  generalize e_v41 : (((x1.toUInt32 >>> ((24 : Int32) &&& 31).toUInt32).toInt32).toInt8.toInt32) = v41
  refine g_istore K W at_41 (Ls' := #[.val (.int xs), .val (.int x1), .val (.int x2), .val (.int x3), .val (.int v6), .val (.int v16), .val (.int v20), .val (.int v27), .val (.int v34), .val (.int v41), .unset, .unset, .unset, .unset, .unset, .unset, .unset]) rfl (pc' := 43) rfl ?_
  have hk3 : v41.toInt8.toInt32 = v41 := by rw [← e_v41]; exact own_byte _
  refine g_iloadN K W at_43 rfl (pc' := 44) rfl ?_
  refine g_iconst K W (v := (1 : Int32)) at_44 rfl (pc' := 45) rfl ?_
  refine g_iand K W at_45 (pc' := 46) rfl ?_
  have hJ : ∀ qp0 : Int32, qp0.toInt8.toInt32 = qp0 → Go p e below s n0 (Q_c0 Z n0 h0 xs x1 x2 x3) 16 128 T (mkF m 56 #[.val (.int xs), .val (.int x1), .val (.int x2), .val (.int x3), .val (.int v6), .val (.int v16), .val (.int v20), .val (.int v27), .val (.int v34), .val (.int v41), .unset, .unset, .unset, .unset, .unset, .unset, .unset] [(.int qp0)]) := by
    intro qp0 hJ_qp0
    refine g_istore K W at_56 (Ls' := #[.val (.int xs), .val (.int x1), .val (.int x2), .val (.int x3), .val (.int v6), .val (.int v16), .val (.int v20), .val (.int v27), .val (.int v34), .val (.int v41), .val (.int qp0), .unset, .unset, .unset, .unset, .unset, .unset]) rfl (pc' := 58) rfl ?_
    refine g_iloadN K W at_58 rfl (pc' := 59) rfl ?_
    refine g_iconst K W (v := (2 : Int32)) at_59 rfl (pc' := 60) rfl ?_
    refine g_iand K W at_60 (pc' := 61) rfl ?_
    have hJ : ∀ qp1 : Int32, qp1.toInt8.toInt32 = qp1 → Go p e below s n0 (Q_c0 Z n0 h0 xs x1 x2 x3) 16 128 T (mkF m 74 #[.val (.int xs), .val (.int x1), .val (.int x2), .val (.int x3), .val (.int v6), .val (.int v16), .val (.int v20), .val (.int v27), .val (.int v34), .val (.int v41), .val (.int qp0), .unset, .unset, .unset, .unset, .unset, .unset] [(.int qp1)]) := by
      intro qp1 hJ_qp1
      refine g_istore K W at_74 (Ls' := #[.val (.int xs), .val (.int x1), .val (.int x2), .val (.int x3), .val (.int v6), .val (.int v16), .val (.int v20), .val (.int v27), .val (.int v34), .val (.int v41), .val (.int qp0), .val (.int qp1), .unset, .unset, .unset, .unset, .unset]) rfl (pc' := 76) rfl ?_
      refine g_iloadN K W at_76 rfl (pc' := 77) rfl ?_
      refine g_iconst K W (v := (4 : Int32)) at_77 rfl (pc' := 78) rfl ?_
      refine g_iand K W at_78 (pc' := 79) rfl ?_
      have hJ : ∀ qp2 : Int32, qp2.toInt8.toInt32 = qp2 → Go p e below s n0 (Q_c0 Z n0 h0 xs x1 x2 x3) 16 128 T (mkF m 92 #[.val (.int xs), .val (.int x1), .val (.int x2), .val (.int x3), .val (.int v6), .val (.int v16), .val (.int v20), .val (.int v27), .val (.int v34), .val (.int v41), .val (.int qp0), .val (.int qp1), .unset, .unset, .unset, .unset, .unset] [(.int qp2)]) := by
        intro qp2 hJ_qp2
        refine g_istore K W at_92 (Ls' := #[.val (.int xs), .val (.int x1), .val (.int x2), .val (.int x3), .val (.int v6), .val (.int v16), .val (.int v20), .val (.int v27), .val (.int v34), .val (.int v41), .val (.int qp0), .val (.int qp1), .val (.int qp2), .unset, .unset, .unset, .unset]) rfl (pc' := 94) rfl ?_
        refine g_iloadN K W at_94 rfl (pc' := 95) rfl ?_
        refine g_bipush K W (v := (8 : Int32)) at_95 rfl (pc' := 97) rfl ?_
        refine g_iand K W at_97 (pc' := 98) rfl ?_
        have hJ : ∀ qp3 : Int32, qp3.toInt8.toInt32 = qp3 → Go p e below s n0 (Q_c0 Z n0 h0 xs x1 x2 x3) 16 128 T (mkF m 111 #[.val (.int xs), .val (.int x1), .val (.int x2), .val (.int x3), .val (.int v6), .val (.int v16), .val (.int v20), .val (.int v27), .val (.int v34), .val (.int v41), .val (.int qp0), .val (.int qp1), .val (.int qp2), .unset, .unset, .unset, .unset] [(.int qp3)]) := by
          intro qp3 hJ_qp3
          refine g_istore K W at_111 (Ls' := #[.val (.int xs), .val (.int x1), .val (.int x2), .val (.int x3), .val (.int v6), .val (.int v16), .val (.int v20), .val (.int v27), .val (.int v34), .val (.int v41), .val (.int qp0), .val (.int qp1), .val (.int qp2), .val (.int qp3), .unset, .unset, .unset]) rfl (pc' := 113) rfl ?_
          obtain ⟨kl, hkl, ekl⟩ := own_mod5 xs
          rw [e_v6] at ekl
          obtain ⟨pl, hpl, epl⟩ := own_mod5 ((xs.toUInt32 >>> ((3 : Int32) &&& 31).toUInt32).toInt32)
          rw [e_v16] at epl
          refine g_iload K W at_113 rfl (pc' := 115) rfl ?_
          refine g_iload K W at_115 rfl (pc' := 117) rfl ?_
          refine g_iload K W at_117 rfl (pc' := 119) rfl ?_
          refine g_iload K W at_119 rfl (pc' := 121) rfl ?_
          refine g_iload K W at_121 rfl (pc' := 123) rfl ?_
          refine g_callS (c1 l Z a0 hw n0 _ W.sz v6 v20 v27 v34 v41 kl (by omega) ekl) K W (hw _ (List.mem_of_getElem? (i := 0) rfl)) (hw _ (List.mem_of_getElem? (i := 1) rfl)) (hw _ (List.mem_of_getElem? (i := 2) rfl)) (hw _ (List.mem_of_getElem? (i := 3) rfl)) (by decide) (lenOf pd_3 rfl) at_123 (pc' := 126) rfl (argsL := [(.int v6), (.int v20), (.int v27), (.int v34), (.int v41)]) (rest := []) rfl rfl (by decide) (wt := 0) rfl (by decide) (by decide) (by decide) ?_
          rintro T h _ W ⟨ka, kf, rfl, ge_ka, sz_ka, kq, A_ka, Hkf⟩
          show Go p e below s n0 (Q_c0 Z n0 h0 xs x1 x2 x3) 16 128 T (mkF m 126 #[.val (.int xs), .val (.int x1), .val (.int x2), .val (.int x3), .val (.int v6), .val (.int v16), .val (.int v20), .val (.int v27), .val (.int v34), .val (.int v41), .val (.int qp0), .val (.int qp1), .val (.int qp2), .val (.int qp3), .unset, .unset, .unset] [(.ref ka)])
          have ltk := A_ka.lt
          refine g_astore K W at_126 rfl (Ls' := #[.val (.int xs), .val (.int x1), .val (.int x2), .val (.int x3), .val (.int v6), .val (.int v16), .val (.int v20), .val (.int v27), .val (.int v34), .val (.int v41), .val (.int qp0), .val (.int qp1), .val (.int qp2), .val (.int qp3), .val (.ref ka), .unset, .unset]) rfl (pc' := 128) rfl ?_
          refine g_iload K W at_128 rfl (pc' := 130) rfl ?_
          refine g_iload K W at_130 rfl (pc' := 132) rfl ?_
          refine g_iload K W at_132 rfl (pc' := 134) rfl ?_
          refine g_iload K W at_134 rfl (pc' := 136) rfl ?_
          refine g_iload K W at_136 rfl (pc' := 138) rfl ?_
          refine g_callS (c1 l Z a0 hw n0 _ W.sz v16 qp0 qp1 qp2 qp3 pl (by omega) epl) K W (hw _ (List.mem_of_getElem? (i := 0) rfl)) (hw _ (List.mem_of_getElem? (i := 1) rfl)) (hw _ (List.mem_of_getElem? (i := 2) rfl)) (hw _ (List.mem_of_getElem? (i := 3) rfl)) (by decide) (lenOf pd_3 rfl) at_138 (pc' := 141) rfl (argsL := [(.int v16), (.int qp0), (.int qp1), (.int qp2), (.int qp3)]) (rest := []) rfl rfl (by decide) (wt := 0) rfl (by decide) (by decide) (by decide) ?_
          rintro T h _ W ⟨pa, pf, rfl, ge_pa, sz_pa, kq, A_pa, Hpf⟩
          show Go p e below s n0 (Q_c0 Z n0 h0 xs x1 x2 x3) 16 128 T (mkF m 141 #[.val (.int xs), .val (.int x1), .val (.int x2), .val (.int x3), .val (.int v6), .val (.int v16), .val (.int v20), .val (.int v27), .val (.int v34), .val (.int v41), .val (.int qp0), .val (.int qp1), .val (.int qp2), .val (.int qp3), .val (.ref ka), .unset, .unset] [(.ref pa)])
          have A_ka := A_ka.keep kq nin0
          have ne_ka_pa : ka ≠ pa := Nat.ne_of_lt (Nat.lt_of_lt_of_le ltk sz_pa)
          refine g_astore K W at_141 rfl (Ls' := #[.val (.int xs), .val (.int x1), .val (.int x2), .val (.int x3), .val (.int v6), .val (.int v16), .val (.int v20), .val (.int v27), .val (.int v34), .val (.int v41), .val (.int qp0), .val (.int qp1), .val (.int qp2), .val (.int qp3), .val (.ref ka), .val (.ref pa), .unset]) rfl (pc' := 143) rfl ?_
          refine g_iload K W at_143 rfl (pc' := 145) rfl ?_
          refine g_iload K W at_145 rfl (pc' := 147) rfl ?_
          refine g_icmp_gt K W at_147 (pt := 206) rfl (pf := 150) rfl (fun hc147 => ?_) (fun hc147 => ?_)
          · refine g_iconst K W (v := (0 : Int32)) at_206 rfl (pc' := 207) rfl ?_
            refine g_istore K W at_207 (Ls' := #[.val (.int xs), .val (.int x1), .val (.int x2), .val (.int x3), .val (.int v6), .val (.int v16), .val (.int v20), .val (.int v27), .val (.int v34), .val (.int v41), .val (.int qp0), .val (.int qp1), .val (.int qp2), .val (.int qp3), .val (.ref ka), .val (.ref pa), .val (.int (0 : Int32))]) rfl (pc' := 209) rfl ?_
            refine g_aload K W at_209 rfl rfl (pc' := 211) rfl ?_
            refine g_aload K W at_211 rfl rfl (pc' := 213) rfl ?_
            refine g_callS (c2 l Z a0 hw n0 _ W.sz ka pa kl kf pl pf A_ka A_pa (by omega) (by omega)) K W (hw _ (List.mem_of_getElem? (i := 5) rfl)) (hw _ (List.mem_of_getElem? (i := 6) rfl)) (hw _ (List.mem_of_getElem? (i := 7) rfl)) (hw _ (List.mem_of_getElem? (i := 8) rfl)) (by decide) (lenOf pd_4 rfl) at_213 (pc' := 216) rfl (argsL := [(.ref ka), (.ref pa)]) (rest := []) rfl rfl (by decide) (wt := 0) rfl (by decide) (by decide) (by decide) ?_
            rintro T _ _ W (⟨-, -, hz⟩ | ⟨rfl, rfl, hz⟩)
            · exact absurd hz.1 (by have q := (own_lt (by omega) (by omega)).mp (epl ▸ ekl ▸ hc147 : Int32.ofNat kl < Int32.ofNat pl); omega)
            · show Go p e below s n0 (Q_c0 Z n0 h0 xs x1 x2 x3) 16 128 T (mkF m 216 #[.val (.int xs), .val (.int x1), .val (.int x2), .val (.int x3), .val (.int v6), .val (.int v16), .val (.int v20), .val (.int v27), .val (.int v34), .val (.int v41), .val (.int qp0), .val (.int qp1), .val (.int qp2), .val (.int qp3), .val (.ref ka), .val (.ref pa), .val (.int (0 : Int32))] [(.int (0 : Int32))])
              refine g_iload K W at_216 rfl (pc' := 218) rfl ?_
              refine g_icmp_ne K W at_218 (pt := 225) rfl (pf := 221) rfl (fun hc218 => ?_) (fun hc218 => absurd rfl hc218)
              refine g_iconst K W (v := (1 : Int32)) at_221 rfl (pc' := 222) rfl ?_
              refine g_goto K W at_222 (pt := 226) rfl ?_
              exact g_retN K W (by simp) at_226 (by decide) (by decide) (v := (1 : Int32)) rfl rfl
          · refine g_iload K W at_150 rfl (pc' := 152) rfl ?_
            refine g_iconst K W (v := (1 : Int32)) at_152 rfl (pc' := 153) rfl ?_
            refine g_icmp_lt K W at_153 (pt := 163) rfl (pf := 156) rfl (fun hc153 => ?_) (fun hc153 => ?_)
            · refine g_iload K W at_163 rfl (pc' := 165) rfl ?_
              refine g_iconst K W (v := (2 : Int32)) at_165 rfl (pc' := 166) rfl ?_
              refine g_icmp_lt K W at_166 (pt := 176) rfl (pf := 169) rfl (fun hc166 => ?_) (fun hc166 => ?_)
              · refine g_iload K W at_176 rfl (pc' := 178) rfl ?_
                refine g_iconst K W (v := (3 : Int32)) at_178 rfl (pc' := 179) rfl ?_
                refine g_icmp_lt K W at_179 (pt := 189) rfl (pf := 182) rfl (fun hc179 => ?_) (fun hc179 => ?_)
                · refine g_iload K W at_189 rfl (pc' := 191) rfl ?_
                  refine g_iconst K W (v := (4 : Int32)) at_191 rfl (pc' := 192) rfl ?_
                  refine g_icmp_lt K W at_192 (pt := 202) rfl (pf := 195) rfl (fun hc192 => ?_) (fun hc192 => ?_)
                  · refine g_iconst K W (v := (1 : Int32)) at_202 rfl (pc' := 203) rfl ?_
                    refine g_goto K W at_203 (pt := 207) rfl ?_
                    refine g_istore K W at_207 (Ls' := #[.val (.int xs), .val (.int x1), .val (.int x2), .val (.int x3), .val (.int v6), .val (.int v16), .val (.int v20), .val (.int v27), .val (.int v34), .val (.int v41), .val (.int qp0), .val (.int qp1), .val (.int qp2), .val (.int qp3), .val (.ref ka), .val (.ref pa), .val (.int (1 : Int32))]) rfl (pc' := 209) rfl ?_
                    refine g_aload K W at_209 rfl rfl (pc' := 211) rfl ?_
                    refine g_aload K W at_211 rfl rfl (pc' := 213) rfl ?_
                    refine g_callS (c2 l Z a0 hw n0 _ W.sz ka pa kl kf pl pf A_ka A_pa (by omega) (by omega)) K W (hw _ (List.mem_of_getElem? (i := 5) rfl)) (hw _ (List.mem_of_getElem? (i := 6) rfl)) (hw _ (List.mem_of_getElem? (i := 7) rfl)) (hw _ (List.mem_of_getElem? (i := 8) rfl)) (by decide) (lenOf pd_4 rfl) at_213 (pc' := 216) rfl (argsL := [(.ref ka), (.ref pa)]) (rest := []) rfl rfl (by decide) (wt := 0) rfl (by decide) (by decide) (by decide) ?_
                    rintro T _ _ W (⟨rfl, rfl, hz⟩ | ⟨-, -, hz⟩)
                    · show Go p e below s n0 (Q_c0 Z n0 h0 xs x1 x2 x3) 16 128 T (mkF m 216 #[.val (.int xs), .val (.int x1), .val (.int x2), .val (.int x3), .val (.int v6), .val (.int v16), .val (.int v20), .val (.int v27), .val (.int v34), .val (.int v41), .val (.int qp0), .val (.int qp1), .val (.int qp2), .val (.int qp3), .val (.ref ka), .val (.ref pa), .val (.int (1 : Int32))] [(.int (1 : Int32))])
                      refine g_iload K W at_216 rfl (pc' := 218) rfl ?_
                      refine g_icmp_ne K W at_218 (pt := 225) rfl (pf := 221) rfl (fun hc218 => ?_) (fun hc218 => absurd rfl hc218)
                      refine g_iconst K W (v := (1 : Int32)) at_221 rfl (pc' := 222) rfl ?_
                      refine g_goto K W at_222 (pt := 226) rfl ?_
                      exact g_retN K W (by simp) at_226 (by decide) (by decide) (v := (1 : Int32)) rfl rfl
                    · have hle : pl ≤ kl := by have q := (not_congr (own_lt (by omega) (by omega))).mp (epl ▸ ekl ▸ hc147 : ¬ Int32.ofNat kl < Int32.ofNat pl); omega
                      refine absurd ⟨hle, fun j hj => ?_⟩ hz
                      refine (Hkf j (by omega)).trans (Eq.trans ?_ (Hpf j hj).symm)
                      match j, hj with
                      | 0, hj => exact absurd hj (by have q := (own_lt (by omega) (by decide)).mp (epl ▸ hc153 : Int32.ofNat pl < Int32.ofNat 1); omega)
                      | 1, hj => exact absurd hj (by have q := (own_lt (by omega) (by decide)).mp (epl ▸ hc166 : Int32.ofNat pl < Int32.ofNat 2); omega)
                      | 2, hj => exact absurd hj (by have q := (own_lt (by omega) (by decide)).mp (epl ▸ hc179 : Int32.ofNat pl < Int32.ofNat 3); omega)
                      | 3, hj => exact absurd hj (by have q := (own_lt (by omega) (by decide)).mp (epl ▸ hc192 : Int32.ofNat pl < Int32.ofNat 4); omega)
                      | j + 4, hj => exact absurd hj (by omega)
                  · refine g_iload K W at_195 rfl (pc' := 197) rfl ?_
                    refine g_iload K W at_197 rfl (pc' := 199) rfl ?_
                    refine g_icmp_ne K W at_199 (pt := 206) rfl (pf := 202) rfl (fun hc199 => ?_) (fun hc199 => ?_)
                    · refine g_iconst K W (v := (1 : Int32)) at_202 rfl (pc' := 203) rfl ?_
                      refine g_goto K W at_203 (pt := 207) rfl ?_
                      refine g_istore K W at_207 (Ls' := #[.val (.int xs), .val (.int x1), .val (.int x2), .val (.int x3), .val (.int v6), .val (.int v16), .val (.int v20), .val (.int v27), .val (.int v34), .val (.int v41), .val (.int qp0), .val (.int qp1), .val (.int qp2), .val (.int qp3), .val (.ref ka), .val (.ref pa), .val (.int (1 : Int32))]) rfl (pc' := 209) rfl ?_
                      refine g_aload K W at_209 rfl rfl (pc' := 211) rfl ?_
                      refine g_aload K W at_211 rfl rfl (pc' := 213) rfl ?_
                      refine g_callS (c2 l Z a0 hw n0 _ W.sz ka pa kl kf pl pf A_ka A_pa (by omega) (by omega)) K W (hw _ (List.mem_of_getElem? (i := 5) rfl)) (hw _ (List.mem_of_getElem? (i := 6) rfl)) (hw _ (List.mem_of_getElem? (i := 7) rfl)) (hw _ (List.mem_of_getElem? (i := 8) rfl)) (by decide) (lenOf pd_4 rfl) at_213 (pc' := 216) rfl (argsL := [(.ref ka), (.ref pa)]) (rest := []) rfl rfl (by decide) (wt := 0) rfl (by decide) (by decide) (by decide) ?_
                      rintro T _ _ W (⟨rfl, rfl, hz⟩ | ⟨-, -, hz⟩)
                      · show Go p e below s n0 (Q_c0 Z n0 h0 xs x1 x2 x3) 16 128 T (mkF m 216 #[.val (.int xs), .val (.int x1), .val (.int x2), .val (.int x3), .val (.int v6), .val (.int v16), .val (.int v20), .val (.int v27), .val (.int v34), .val (.int v41), .val (.int qp0), .val (.int qp1), .val (.int qp2), .val (.int qp3), .val (.ref ka), .val (.ref pa), .val (.int (1 : Int32))] [(.int (1 : Int32))])
                        refine g_iload K W at_216 rfl (pc' := 218) rfl ?_
                        refine g_icmp_ne K W at_218 (pt := 225) rfl (pf := 221) rfl (fun hc218 => ?_) (fun hc218 => absurd rfl hc218)
                        refine g_iconst K W (v := (1 : Int32)) at_221 rfl (pc' := 222) rfl ?_
                        refine g_goto K W at_222 (pt := 226) rfl ?_
                        exact g_retN K W (by simp) at_226 (by decide) (by decide) (v := (1 : Int32)) rfl rfl
                      · have hle : pl ≤ kl := by have q := (not_congr (own_lt (by omega) (by omega))).mp (epl ▸ ekl ▸ hc147 : ¬ Int32.ofNat kl < Int32.ofNat pl); omega
                        refine absurd ⟨hle, fun j hj => ?_⟩ hz
                        refine (Hkf j (by omega)).trans (Eq.trans ?_ (Hpf j hj).symm)
                        match j, hj with
                        | 0, hj => exact absurd hj (by have q := (own_lt (by omega) (by decide)).mp (epl ▸ hc153 : Int32.ofNat pl < Int32.ofNat 1); omega)
                        | 1, hj => exact absurd hj (by have q := (own_lt (by omega) (by decide)).mp (epl ▸ hc166 : Int32.ofNat pl < Int32.ofNat 2); omega)
                        | 2, hj => exact absurd hj (by have q := (own_lt (by omega) (by decide)).mp (epl ▸ hc179 : Int32.ofNat pl < Int32.ofNat 3); omega)
                        | 3, hj => exact congrArg (fun z : Int32 => z.toInt8.toInt32) hc199
                        | j + 4, hj => exact absurd hj (by omega)
                    · refine g_iconst K W (v := (0 : Int32)) at_206 rfl (pc' := 207) rfl ?_
                      refine g_istore K W at_207 (Ls' := #[.val (.int xs), .val (.int x1), .val (.int x2), .val (.int x3), .val (.int v6), .val (.int v16), .val (.int v20), .val (.int v27), .val (.int v34), .val (.int v41), .val (.int qp0), .val (.int qp1), .val (.int qp2), .val (.int qp3), .val (.ref ka), .val (.ref pa), .val (.int (0 : Int32))]) rfl (pc' := 209) rfl ?_
                      refine g_aload K W at_209 rfl rfl (pc' := 211) rfl ?_
                      refine g_aload K W at_211 rfl rfl (pc' := 213) rfl ?_
                      refine g_callS (c2 l Z a0 hw n0 _ W.sz ka pa kl kf pl pf A_ka A_pa (by omega) (by omega)) K W (hw _ (List.mem_of_getElem? (i := 5) rfl)) (hw _ (List.mem_of_getElem? (i := 6) rfl)) (hw _ (List.mem_of_getElem? (i := 7) rfl)) (hw _ (List.mem_of_getElem? (i := 8) rfl)) (by decide) (lenOf pd_4 rfl) at_213 (pc' := 216) rfl (argsL := [(.ref ka), (.ref pa)]) (rest := []) rfl rfl (by decide) (wt := 0) rfl (by decide) (by decide) (by decide) ?_
                      rintro T _ _ W (⟨-, -, hz⟩ | ⟨rfl, rfl, hz⟩)
                      · have hj : 3 < pl := (by have q := (not_congr (own_lt (by omega) (by decide))).mp (epl ▸ hc192 : ¬ Int32.ofNat pl < Int32.ofNat 4); omega)
                        have hj' : 3 < kl := by have := hz.1; omega
                        exact absurd (hk3.symm.trans ((Hkf 3 hj').symm.trans ((hz.2 3 hj).trans ((Hpf 3 hj).trans hJ_qp3)))) hc199
                      · show Go p e below s n0 (Q_c0 Z n0 h0 xs x1 x2 x3) 16 128 T (mkF m 216 #[.val (.int xs), .val (.int x1), .val (.int x2), .val (.int x3), .val (.int v6), .val (.int v16), .val (.int v20), .val (.int v27), .val (.int v34), .val (.int v41), .val (.int qp0), .val (.int qp1), .val (.int qp2), .val (.int qp3), .val (.ref ka), .val (.ref pa), .val (.int (0 : Int32))] [(.int (0 : Int32))])
                        refine g_iload K W at_216 rfl (pc' := 218) rfl ?_
                        refine g_icmp_ne K W at_218 (pt := 225) rfl (pf := 221) rfl (fun hc218 => ?_) (fun hc218 => absurd rfl hc218)
                        refine g_iconst K W (v := (1 : Int32)) at_221 rfl (pc' := 222) rfl ?_
                        refine g_goto K W at_222 (pt := 226) rfl ?_
                        exact g_retN K W (by simp) at_226 (by decide) (by decide) (v := (1 : Int32)) rfl rfl
                · refine g_iload K W at_182 rfl (pc' := 184) rfl ?_
                  refine g_iload K W at_184 rfl (pc' := 186) rfl ?_
                  refine g_icmp_ne K W at_186 (pt := 206) rfl (pf := 189) rfl (fun hc186 => ?_) (fun hc186 => ?_)
                  · refine g_iload K W at_189 rfl (pc' := 191) rfl ?_
                    refine g_iconst K W (v := (4 : Int32)) at_191 rfl (pc' := 192) rfl ?_
                    refine g_icmp_lt K W at_192 (pt := 202) rfl (pf := 195) rfl (fun hc192 => ?_) (fun hc192 => ?_)
                    · refine g_iconst K W (v := (1 : Int32)) at_202 rfl (pc' := 203) rfl ?_
                      refine g_goto K W at_203 (pt := 207) rfl ?_
                      refine g_istore K W at_207 (Ls' := #[.val (.int xs), .val (.int x1), .val (.int x2), .val (.int x3), .val (.int v6), .val (.int v16), .val (.int v20), .val (.int v27), .val (.int v34), .val (.int v41), .val (.int qp0), .val (.int qp1), .val (.int qp2), .val (.int qp3), .val (.ref ka), .val (.ref pa), .val (.int (1 : Int32))]) rfl (pc' := 209) rfl ?_
                      refine g_aload K W at_209 rfl rfl (pc' := 211) rfl ?_
                      refine g_aload K W at_211 rfl rfl (pc' := 213) rfl ?_
                      refine g_callS (c2 l Z a0 hw n0 _ W.sz ka pa kl kf pl pf A_ka A_pa (by omega) (by omega)) K W (hw _ (List.mem_of_getElem? (i := 5) rfl)) (hw _ (List.mem_of_getElem? (i := 6) rfl)) (hw _ (List.mem_of_getElem? (i := 7) rfl)) (hw _ (List.mem_of_getElem? (i := 8) rfl)) (by decide) (lenOf pd_4 rfl) at_213 (pc' := 216) rfl (argsL := [(.ref ka), (.ref pa)]) (rest := []) rfl rfl (by decide) (wt := 0) rfl (by decide) (by decide) (by decide) ?_
                      rintro T _ _ W (⟨rfl, rfl, hz⟩ | ⟨-, -, hz⟩)
                      · show Go p e below s n0 (Q_c0 Z n0 h0 xs x1 x2 x3) 16 128 T (mkF m 216 #[.val (.int xs), .val (.int x1), .val (.int x2), .val (.int x3), .val (.int v6), .val (.int v16), .val (.int v20), .val (.int v27), .val (.int v34), .val (.int v41), .val (.int qp0), .val (.int qp1), .val (.int qp2), .val (.int qp3), .val (.ref ka), .val (.ref pa), .val (.int (1 : Int32))] [(.int (1 : Int32))])
                        refine g_iload K W at_216 rfl (pc' := 218) rfl ?_
                        refine g_icmp_ne K W at_218 (pt := 225) rfl (pf := 221) rfl (fun hc218 => ?_) (fun hc218 => absurd rfl hc218)
                        refine g_iconst K W (v := (1 : Int32)) at_221 rfl (pc' := 222) rfl ?_
                        refine g_goto K W at_222 (pt := 226) rfl ?_
                        exact g_retN K W (by simp) at_226 (by decide) (by decide) (v := (1 : Int32)) rfl rfl
                      · have hle : pl ≤ kl := by have q := (not_congr (own_lt (by omega) (by omega))).mp (epl ▸ ekl ▸ hc147 : ¬ Int32.ofNat kl < Int32.ofNat pl); omega
                        refine absurd ⟨hle, fun j hj => ?_⟩ hz
                        refine (Hkf j (by omega)).trans (Eq.trans ?_ (Hpf j hj).symm)
                        match j, hj with
                        | 0, hj => exact absurd hj (by have q := (own_lt (by omega) (by decide)).mp (epl ▸ hc153 : Int32.ofNat pl < Int32.ofNat 1); omega)
                        | 1, hj => exact absurd hj (by have q := (own_lt (by omega) (by decide)).mp (epl ▸ hc166 : Int32.ofNat pl < Int32.ofNat 2); omega)
                        | 2, hj => exact congrArg (fun z : Int32 => z.toInt8.toInt32) hc186
                        | 3, hj => exact absurd hj (by have q := (own_lt (by omega) (by decide)).mp (epl ▸ hc192 : Int32.ofNat pl < Int32.ofNat 4); omega)
                        | j + 4, hj => exact absurd hj (by omega)
                    · refine g_iload K W at_195 rfl (pc' := 197) rfl ?_
                      refine g_iload K W at_197 rfl (pc' := 199) rfl ?_
                      refine g_icmp_ne K W at_199 (pt := 206) rfl (pf := 202) rfl (fun hc199 => ?_) (fun hc199 => ?_)
                      · refine g_iconst K W (v := (1 : Int32)) at_202 rfl (pc' := 203) rfl ?_
                        refine g_goto K W at_203 (pt := 207) rfl ?_
                        refine g_istore K W at_207 (Ls' := #[.val (.int xs), .val (.int x1), .val (.int x2), .val (.int x3), .val (.int v6), .val (.int v16), .val (.int v20), .val (.int v27), .val (.int v34), .val (.int v41), .val (.int qp0), .val (.int qp1), .val (.int qp2), .val (.int qp3), .val (.ref ka), .val (.ref pa), .val (.int (1 : Int32))]) rfl (pc' := 209) rfl ?_
                        refine g_aload K W at_209 rfl rfl (pc' := 211) rfl ?_
                        refine g_aload K W at_211 rfl rfl (pc' := 213) rfl ?_
                        refine g_callS (c2 l Z a0 hw n0 _ W.sz ka pa kl kf pl pf A_ka A_pa (by omega) (by omega)) K W (hw _ (List.mem_of_getElem? (i := 5) rfl)) (hw _ (List.mem_of_getElem? (i := 6) rfl)) (hw _ (List.mem_of_getElem? (i := 7) rfl)) (hw _ (List.mem_of_getElem? (i := 8) rfl)) (by decide) (lenOf pd_4 rfl) at_213 (pc' := 216) rfl (argsL := [(.ref ka), (.ref pa)]) (rest := []) rfl rfl (by decide) (wt := 0) rfl (by decide) (by decide) (by decide) ?_
                        rintro T _ _ W (⟨rfl, rfl, hz⟩ | ⟨-, -, hz⟩)
                        · show Go p e below s n0 (Q_c0 Z n0 h0 xs x1 x2 x3) 16 128 T (mkF m 216 #[.val (.int xs), .val (.int x1), .val (.int x2), .val (.int x3), .val (.int v6), .val (.int v16), .val (.int v20), .val (.int v27), .val (.int v34), .val (.int v41), .val (.int qp0), .val (.int qp1), .val (.int qp2), .val (.int qp3), .val (.ref ka), .val (.ref pa), .val (.int (1 : Int32))] [(.int (1 : Int32))])
                          refine g_iload K W at_216 rfl (pc' := 218) rfl ?_
                          refine g_icmp_ne K W at_218 (pt := 225) rfl (pf := 221) rfl (fun hc218 => ?_) (fun hc218 => absurd rfl hc218)
                          refine g_iconst K W (v := (1 : Int32)) at_221 rfl (pc' := 222) rfl ?_
                          refine g_goto K W at_222 (pt := 226) rfl ?_
                          exact g_retN K W (by simp) at_226 (by decide) (by decide) (v := (1 : Int32)) rfl rfl
                        · have hle : pl ≤ kl := by have q := (not_congr (own_lt (by omega) (by omega))).mp (epl ▸ ekl ▸ hc147 : ¬ Int32.ofNat kl < Int32.ofNat pl); omega
                          refine absurd ⟨hle, fun j hj => ?_⟩ hz
                          refine (Hkf j (by omega)).trans (Eq.trans ?_ (Hpf j hj).symm)
                          match j, hj with
                          | 0, hj => exact absurd hj (by have q := (own_lt (by omega) (by decide)).mp (epl ▸ hc153 : Int32.ofNat pl < Int32.ofNat 1); omega)
                          | 1, hj => exact absurd hj (by have q := (own_lt (by omega) (by decide)).mp (epl ▸ hc166 : Int32.ofNat pl < Int32.ofNat 2); omega)
                          | 2, hj => exact congrArg (fun z : Int32 => z.toInt8.toInt32) hc186
                          | 3, hj => exact congrArg (fun z : Int32 => z.toInt8.toInt32) hc199
                          | j + 4, hj => exact absurd hj (by omega)
                      · refine g_iconst K W (v := (0 : Int32)) at_206 rfl (pc' := 207) rfl ?_
                        refine g_istore K W at_207 (Ls' := #[.val (.int xs), .val (.int x1), .val (.int x2), .val (.int x3), .val (.int v6), .val (.int v16), .val (.int v20), .val (.int v27), .val (.int v34), .val (.int v41), .val (.int qp0), .val (.int qp1), .val (.int qp2), .val (.int qp3), .val (.ref ka), .val (.ref pa), .val (.int (0 : Int32))]) rfl (pc' := 209) rfl ?_
                        refine g_aload K W at_209 rfl rfl (pc' := 211) rfl ?_
                        refine g_aload K W at_211 rfl rfl (pc' := 213) rfl ?_
                        refine g_callS (c2 l Z a0 hw n0 _ W.sz ka pa kl kf pl pf A_ka A_pa (by omega) (by omega)) K W (hw _ (List.mem_of_getElem? (i := 5) rfl)) (hw _ (List.mem_of_getElem? (i := 6) rfl)) (hw _ (List.mem_of_getElem? (i := 7) rfl)) (hw _ (List.mem_of_getElem? (i := 8) rfl)) (by decide) (lenOf pd_4 rfl) at_213 (pc' := 216) rfl (argsL := [(.ref ka), (.ref pa)]) (rest := []) rfl rfl (by decide) (wt := 0) rfl (by decide) (by decide) (by decide) ?_
                        rintro T _ _ W (⟨-, -, hz⟩ | ⟨rfl, rfl, hz⟩)
                        · have hj : 3 < pl := (by have q := (not_congr (own_lt (by omega) (by decide))).mp (epl ▸ hc192 : ¬ Int32.ofNat pl < Int32.ofNat 4); omega)
                          have hj' : 3 < kl := by have := hz.1; omega
                          exact absurd (hk3.symm.trans ((Hkf 3 hj').symm.trans ((hz.2 3 hj).trans ((Hpf 3 hj).trans hJ_qp3)))) hc199
                        · show Go p e below s n0 (Q_c0 Z n0 h0 xs x1 x2 x3) 16 128 T (mkF m 216 #[.val (.int xs), .val (.int x1), .val (.int x2), .val (.int x3), .val (.int v6), .val (.int v16), .val (.int v20), .val (.int v27), .val (.int v34), .val (.int v41), .val (.int qp0), .val (.int qp1), .val (.int qp2), .val (.int qp3), .val (.ref ka), .val (.ref pa), .val (.int (0 : Int32))] [(.int (0 : Int32))])
                          refine g_iload K W at_216 rfl (pc' := 218) rfl ?_
                          refine g_icmp_ne K W at_218 (pt := 225) rfl (pf := 221) rfl (fun hc218 => ?_) (fun hc218 => absurd rfl hc218)
                          refine g_iconst K W (v := (1 : Int32)) at_221 rfl (pc' := 222) rfl ?_
                          refine g_goto K W at_222 (pt := 226) rfl ?_
                          exact g_retN K W (by simp) at_226 (by decide) (by decide) (v := (1 : Int32)) rfl rfl
                  · refine g_iconst K W (v := (0 : Int32)) at_206 rfl (pc' := 207) rfl ?_
                    refine g_istore K W at_207 (Ls' := #[.val (.int xs), .val (.int x1), .val (.int x2), .val (.int x3), .val (.int v6), .val (.int v16), .val (.int v20), .val (.int v27), .val (.int v34), .val (.int v41), .val (.int qp0), .val (.int qp1), .val (.int qp2), .val (.int qp3), .val (.ref ka), .val (.ref pa), .val (.int (0 : Int32))]) rfl (pc' := 209) rfl ?_
                    refine g_aload K W at_209 rfl rfl (pc' := 211) rfl ?_
                    refine g_aload K W at_211 rfl rfl (pc' := 213) rfl ?_
                    refine g_callS (c2 l Z a0 hw n0 _ W.sz ka pa kl kf pl pf A_ka A_pa (by omega) (by omega)) K W (hw _ (List.mem_of_getElem? (i := 5) rfl)) (hw _ (List.mem_of_getElem? (i := 6) rfl)) (hw _ (List.mem_of_getElem? (i := 7) rfl)) (hw _ (List.mem_of_getElem? (i := 8) rfl)) (by decide) (lenOf pd_4 rfl) at_213 (pc' := 216) rfl (argsL := [(.ref ka), (.ref pa)]) (rest := []) rfl rfl (by decide) (wt := 0) rfl (by decide) (by decide) (by decide) ?_
                    rintro T _ _ W (⟨-, -, hz⟩ | ⟨rfl, rfl, hz⟩)
                    · have hj : 2 < pl := (by have q := (not_congr (own_lt (by omega) (by decide))).mp (epl ▸ hc179 : ¬ Int32.ofNat pl < Int32.ofNat 3); omega)
                      have hj' : 2 < kl := by have := hz.1; omega
                      exact absurd (hk2.symm.trans ((Hkf 2 hj').symm.trans ((hz.2 2 hj).trans ((Hpf 2 hj).trans hJ_qp2)))) hc186
                    · show Go p e below s n0 (Q_c0 Z n0 h0 xs x1 x2 x3) 16 128 T (mkF m 216 #[.val (.int xs), .val (.int x1), .val (.int x2), .val (.int x3), .val (.int v6), .val (.int v16), .val (.int v20), .val (.int v27), .val (.int v34), .val (.int v41), .val (.int qp0), .val (.int qp1), .val (.int qp2), .val (.int qp3), .val (.ref ka), .val (.ref pa), .val (.int (0 : Int32))] [(.int (0 : Int32))])
                      refine g_iload K W at_216 rfl (pc' := 218) rfl ?_
                      refine g_icmp_ne K W at_218 (pt := 225) rfl (pf := 221) rfl (fun hc218 => ?_) (fun hc218 => absurd rfl hc218)
                      refine g_iconst K W (v := (1 : Int32)) at_221 rfl (pc' := 222) rfl ?_
                      refine g_goto K W at_222 (pt := 226) rfl ?_
                      exact g_retN K W (by simp) at_226 (by decide) (by decide) (v := (1 : Int32)) rfl rfl
              · refine g_iload K W at_169 rfl (pc' := 171) rfl ?_
                refine g_iload K W at_171 rfl (pc' := 173) rfl ?_
                refine g_icmp_ne K W at_173 (pt := 206) rfl (pf := 176) rfl (fun hc173 => ?_) (fun hc173 => ?_)
                · refine g_iload K W at_176 rfl (pc' := 178) rfl ?_
                  refine g_iconst K W (v := (3 : Int32)) at_178 rfl (pc' := 179) rfl ?_
                  refine g_icmp_lt K W at_179 (pt := 189) rfl (pf := 182) rfl (fun hc179 => ?_) (fun hc179 => ?_)
                  · refine g_iload K W at_189 rfl (pc' := 191) rfl ?_
                    refine g_iconst K W (v := (4 : Int32)) at_191 rfl (pc' := 192) rfl ?_
                    refine g_icmp_lt K W at_192 (pt := 202) rfl (pf := 195) rfl (fun hc192 => ?_) (fun hc192 => ?_)
                    · refine g_iconst K W (v := (1 : Int32)) at_202 rfl (pc' := 203) rfl ?_
                      refine g_goto K W at_203 (pt := 207) rfl ?_
                      refine g_istore K W at_207 (Ls' := #[.val (.int xs), .val (.int x1), .val (.int x2), .val (.int x3), .val (.int v6), .val (.int v16), .val (.int v20), .val (.int v27), .val (.int v34), .val (.int v41), .val (.int qp0), .val (.int qp1), .val (.int qp2), .val (.int qp3), .val (.ref ka), .val (.ref pa), .val (.int (1 : Int32))]) rfl (pc' := 209) rfl ?_
                      refine g_aload K W at_209 rfl rfl (pc' := 211) rfl ?_
                      refine g_aload K W at_211 rfl rfl (pc' := 213) rfl ?_
                      refine g_callS (c2 l Z a0 hw n0 _ W.sz ka pa kl kf pl pf A_ka A_pa (by omega) (by omega)) K W (hw _ (List.mem_of_getElem? (i := 5) rfl)) (hw _ (List.mem_of_getElem? (i := 6) rfl)) (hw _ (List.mem_of_getElem? (i := 7) rfl)) (hw _ (List.mem_of_getElem? (i := 8) rfl)) (by decide) (lenOf pd_4 rfl) at_213 (pc' := 216) rfl (argsL := [(.ref ka), (.ref pa)]) (rest := []) rfl rfl (by decide) (wt := 0) rfl (by decide) (by decide) (by decide) ?_
                      rintro T _ _ W (⟨rfl, rfl, hz⟩ | ⟨-, -, hz⟩)
                      · show Go p e below s n0 (Q_c0 Z n0 h0 xs x1 x2 x3) 16 128 T (mkF m 216 #[.val (.int xs), .val (.int x1), .val (.int x2), .val (.int x3), .val (.int v6), .val (.int v16), .val (.int v20), .val (.int v27), .val (.int v34), .val (.int v41), .val (.int qp0), .val (.int qp1), .val (.int qp2), .val (.int qp3), .val (.ref ka), .val (.ref pa), .val (.int (1 : Int32))] [(.int (1 : Int32))])
                        refine g_iload K W at_216 rfl (pc' := 218) rfl ?_
                        refine g_icmp_ne K W at_218 (pt := 225) rfl (pf := 221) rfl (fun hc218 => ?_) (fun hc218 => absurd rfl hc218)
                        refine g_iconst K W (v := (1 : Int32)) at_221 rfl (pc' := 222) rfl ?_
                        refine g_goto K W at_222 (pt := 226) rfl ?_
                        exact g_retN K W (by simp) at_226 (by decide) (by decide) (v := (1 : Int32)) rfl rfl
                      · have hle : pl ≤ kl := by have q := (not_congr (own_lt (by omega) (by omega))).mp (epl ▸ ekl ▸ hc147 : ¬ Int32.ofNat kl < Int32.ofNat pl); omega
                        refine absurd ⟨hle, fun j hj => ?_⟩ hz
                        refine (Hkf j (by omega)).trans (Eq.trans ?_ (Hpf j hj).symm)
                        match j, hj with
                        | 0, hj => exact absurd hj (by have q := (own_lt (by omega) (by decide)).mp (epl ▸ hc153 : Int32.ofNat pl < Int32.ofNat 1); omega)
                        | 1, hj => exact congrArg (fun z : Int32 => z.toInt8.toInt32) hc173
                        | 2, hj => exact absurd hj (by have q := (own_lt (by omega) (by decide)).mp (epl ▸ hc179 : Int32.ofNat pl < Int32.ofNat 3); omega)
                        | 3, hj => exact absurd hj (by have q := (own_lt (by omega) (by decide)).mp (epl ▸ hc192 : Int32.ofNat pl < Int32.ofNat 4); omega)
                        | j + 4, hj => exact absurd hj (by omega)
                    · refine g_iload K W at_195 rfl (pc' := 197) rfl ?_
                      refine g_iload K W at_197 rfl (pc' := 199) rfl ?_
                      refine g_icmp_ne K W at_199 (pt := 206) rfl (pf := 202) rfl (fun hc199 => ?_) (fun hc199 => ?_)
                      · refine g_iconst K W (v := (1 : Int32)) at_202 rfl (pc' := 203) rfl ?_
                        refine g_goto K W at_203 (pt := 207) rfl ?_
                        refine g_istore K W at_207 (Ls' := #[.val (.int xs), .val (.int x1), .val (.int x2), .val (.int x3), .val (.int v6), .val (.int v16), .val (.int v20), .val (.int v27), .val (.int v34), .val (.int v41), .val (.int qp0), .val (.int qp1), .val (.int qp2), .val (.int qp3), .val (.ref ka), .val (.ref pa), .val (.int (1 : Int32))]) rfl (pc' := 209) rfl ?_
                        refine g_aload K W at_209 rfl rfl (pc' := 211) rfl ?_
                        refine g_aload K W at_211 rfl rfl (pc' := 213) rfl ?_
                        refine g_callS (c2 l Z a0 hw n0 _ W.sz ka pa kl kf pl pf A_ka A_pa (by omega) (by omega)) K W (hw _ (List.mem_of_getElem? (i := 5) rfl)) (hw _ (List.mem_of_getElem? (i := 6) rfl)) (hw _ (List.mem_of_getElem? (i := 7) rfl)) (hw _ (List.mem_of_getElem? (i := 8) rfl)) (by decide) (lenOf pd_4 rfl) at_213 (pc' := 216) rfl (argsL := [(.ref ka), (.ref pa)]) (rest := []) rfl rfl (by decide) (wt := 0) rfl (by decide) (by decide) (by decide) ?_
                        rintro T _ _ W (⟨rfl, rfl, hz⟩ | ⟨-, -, hz⟩)
                        · show Go p e below s n0 (Q_c0 Z n0 h0 xs x1 x2 x3) 16 128 T (mkF m 216 #[.val (.int xs), .val (.int x1), .val (.int x2), .val (.int x3), .val (.int v6), .val (.int v16), .val (.int v20), .val (.int v27), .val (.int v34), .val (.int v41), .val (.int qp0), .val (.int qp1), .val (.int qp2), .val (.int qp3), .val (.ref ka), .val (.ref pa), .val (.int (1 : Int32))] [(.int (1 : Int32))])
                          refine g_iload K W at_216 rfl (pc' := 218) rfl ?_
                          refine g_icmp_ne K W at_218 (pt := 225) rfl (pf := 221) rfl (fun hc218 => ?_) (fun hc218 => absurd rfl hc218)
                          refine g_iconst K W (v := (1 : Int32)) at_221 rfl (pc' := 222) rfl ?_
                          refine g_goto K W at_222 (pt := 226) rfl ?_
                          exact g_retN K W (by simp) at_226 (by decide) (by decide) (v := (1 : Int32)) rfl rfl
                        · have hle : pl ≤ kl := by have q := (not_congr (own_lt (by omega) (by omega))).mp (epl ▸ ekl ▸ hc147 : ¬ Int32.ofNat kl < Int32.ofNat pl); omega
                          refine absurd ⟨hle, fun j hj => ?_⟩ hz
                          refine (Hkf j (by omega)).trans (Eq.trans ?_ (Hpf j hj).symm)
                          match j, hj with
                          | 0, hj => exact absurd hj (by have q := (own_lt (by omega) (by decide)).mp (epl ▸ hc153 : Int32.ofNat pl < Int32.ofNat 1); omega)
                          | 1, hj => exact congrArg (fun z : Int32 => z.toInt8.toInt32) hc173
                          | 2, hj => exact absurd hj (by have q := (own_lt (by omega) (by decide)).mp (epl ▸ hc179 : Int32.ofNat pl < Int32.ofNat 3); omega)
                          | 3, hj => exact congrArg (fun z : Int32 => z.toInt8.toInt32) hc199
                          | j + 4, hj => exact absurd hj (by omega)
                      · refine g_iconst K W (v := (0 : Int32)) at_206 rfl (pc' := 207) rfl ?_
                        refine g_istore K W at_207 (Ls' := #[.val (.int xs), .val (.int x1), .val (.int x2), .val (.int x3), .val (.int v6), .val (.int v16), .val (.int v20), .val (.int v27), .val (.int v34), .val (.int v41), .val (.int qp0), .val (.int qp1), .val (.int qp2), .val (.int qp3), .val (.ref ka), .val (.ref pa), .val (.int (0 : Int32))]) rfl (pc' := 209) rfl ?_
                        refine g_aload K W at_209 rfl rfl (pc' := 211) rfl ?_
                        refine g_aload K W at_211 rfl rfl (pc' := 213) rfl ?_
                        refine g_callS (c2 l Z a0 hw n0 _ W.sz ka pa kl kf pl pf A_ka A_pa (by omega) (by omega)) K W (hw _ (List.mem_of_getElem? (i := 5) rfl)) (hw _ (List.mem_of_getElem? (i := 6) rfl)) (hw _ (List.mem_of_getElem? (i := 7) rfl)) (hw _ (List.mem_of_getElem? (i := 8) rfl)) (by decide) (lenOf pd_4 rfl) at_213 (pc' := 216) rfl (argsL := [(.ref ka), (.ref pa)]) (rest := []) rfl rfl (by decide) (wt := 0) rfl (by decide) (by decide) (by decide) ?_
                        rintro T _ _ W (⟨-, -, hz⟩ | ⟨rfl, rfl, hz⟩)
                        · have hj : 3 < pl := (by have q := (not_congr (own_lt (by omega) (by decide))).mp (epl ▸ hc192 : ¬ Int32.ofNat pl < Int32.ofNat 4); omega)
                          have hj' : 3 < kl := by have := hz.1; omega
                          exact absurd (hk3.symm.trans ((Hkf 3 hj').symm.trans ((hz.2 3 hj).trans ((Hpf 3 hj).trans hJ_qp3)))) hc199
                        · show Go p e below s n0 (Q_c0 Z n0 h0 xs x1 x2 x3) 16 128 T (mkF m 216 #[.val (.int xs), .val (.int x1), .val (.int x2), .val (.int x3), .val (.int v6), .val (.int v16), .val (.int v20), .val (.int v27), .val (.int v34), .val (.int v41), .val (.int qp0), .val (.int qp1), .val (.int qp2), .val (.int qp3), .val (.ref ka), .val (.ref pa), .val (.int (0 : Int32))] [(.int (0 : Int32))])
                          refine g_iload K W at_216 rfl (pc' := 218) rfl ?_
                          refine g_icmp_ne K W at_218 (pt := 225) rfl (pf := 221) rfl (fun hc218 => ?_) (fun hc218 => absurd rfl hc218)
                          refine g_iconst K W (v := (1 : Int32)) at_221 rfl (pc' := 222) rfl ?_
                          refine g_goto K W at_222 (pt := 226) rfl ?_
                          exact g_retN K W (by simp) at_226 (by decide) (by decide) (v := (1 : Int32)) rfl rfl
                  · refine g_iload K W at_182 rfl (pc' := 184) rfl ?_
                    refine g_iload K W at_184 rfl (pc' := 186) rfl ?_
                    refine g_icmp_ne K W at_186 (pt := 206) rfl (pf := 189) rfl (fun hc186 => ?_) (fun hc186 => ?_)
                    · refine g_iload K W at_189 rfl (pc' := 191) rfl ?_
                      refine g_iconst K W (v := (4 : Int32)) at_191 rfl (pc' := 192) rfl ?_
                      refine g_icmp_lt K W at_192 (pt := 202) rfl (pf := 195) rfl (fun hc192 => ?_) (fun hc192 => ?_)
                      · refine g_iconst K W (v := (1 : Int32)) at_202 rfl (pc' := 203) rfl ?_
                        refine g_goto K W at_203 (pt := 207) rfl ?_
                        refine g_istore K W at_207 (Ls' := #[.val (.int xs), .val (.int x1), .val (.int x2), .val (.int x3), .val (.int v6), .val (.int v16), .val (.int v20), .val (.int v27), .val (.int v34), .val (.int v41), .val (.int qp0), .val (.int qp1), .val (.int qp2), .val (.int qp3), .val (.ref ka), .val (.ref pa), .val (.int (1 : Int32))]) rfl (pc' := 209) rfl ?_
                        refine g_aload K W at_209 rfl rfl (pc' := 211) rfl ?_
                        refine g_aload K W at_211 rfl rfl (pc' := 213) rfl ?_
                        refine g_callS (c2 l Z a0 hw n0 _ W.sz ka pa kl kf pl pf A_ka A_pa (by omega) (by omega)) K W (hw _ (List.mem_of_getElem? (i := 5) rfl)) (hw _ (List.mem_of_getElem? (i := 6) rfl)) (hw _ (List.mem_of_getElem? (i := 7) rfl)) (hw _ (List.mem_of_getElem? (i := 8) rfl)) (by decide) (lenOf pd_4 rfl) at_213 (pc' := 216) rfl (argsL := [(.ref ka), (.ref pa)]) (rest := []) rfl rfl (by decide) (wt := 0) rfl (by decide) (by decide) (by decide) ?_
                        rintro T _ _ W (⟨rfl, rfl, hz⟩ | ⟨-, -, hz⟩)
                        · show Go p e below s n0 (Q_c0 Z n0 h0 xs x1 x2 x3) 16 128 T (mkF m 216 #[.val (.int xs), .val (.int x1), .val (.int x2), .val (.int x3), .val (.int v6), .val (.int v16), .val (.int v20), .val (.int v27), .val (.int v34), .val (.int v41), .val (.int qp0), .val (.int qp1), .val (.int qp2), .val (.int qp3), .val (.ref ka), .val (.ref pa), .val (.int (1 : Int32))] [(.int (1 : Int32))])
                          refine g_iload K W at_216 rfl (pc' := 218) rfl ?_
                          refine g_icmp_ne K W at_218 (pt := 225) rfl (pf := 221) rfl (fun hc218 => ?_) (fun hc218 => absurd rfl hc218)
                          refine g_iconst K W (v := (1 : Int32)) at_221 rfl (pc' := 222) rfl ?_
                          refine g_goto K W at_222 (pt := 226) rfl ?_
                          exact g_retN K W (by simp) at_226 (by decide) (by decide) (v := (1 : Int32)) rfl rfl
                        · have hle : pl ≤ kl := by have q := (not_congr (own_lt (by omega) (by omega))).mp (epl ▸ ekl ▸ hc147 : ¬ Int32.ofNat kl < Int32.ofNat pl); omega
                          refine absurd ⟨hle, fun j hj => ?_⟩ hz
                          refine (Hkf j (by omega)).trans (Eq.trans ?_ (Hpf j hj).symm)
                          match j, hj with
                          | 0, hj => exact absurd hj (by have q := (own_lt (by omega) (by decide)).mp (epl ▸ hc153 : Int32.ofNat pl < Int32.ofNat 1); omega)
                          | 1, hj => exact congrArg (fun z : Int32 => z.toInt8.toInt32) hc173
                          | 2, hj => exact congrArg (fun z : Int32 => z.toInt8.toInt32) hc186
                          | 3, hj => exact absurd hj (by have q := (own_lt (by omega) (by decide)).mp (epl ▸ hc192 : Int32.ofNat pl < Int32.ofNat 4); omega)
                          | j + 4, hj => exact absurd hj (by omega)
                      · refine g_iload K W at_195 rfl (pc' := 197) rfl ?_
                        refine g_iload K W at_197 rfl (pc' := 199) rfl ?_
                        refine g_icmp_ne K W at_199 (pt := 206) rfl (pf := 202) rfl (fun hc199 => ?_) (fun hc199 => ?_)
                        · refine g_iconst K W (v := (1 : Int32)) at_202 rfl (pc' := 203) rfl ?_
                          refine g_goto K W at_203 (pt := 207) rfl ?_
                          refine g_istore K W at_207 (Ls' := #[.val (.int xs), .val (.int x1), .val (.int x2), .val (.int x3), .val (.int v6), .val (.int v16), .val (.int v20), .val (.int v27), .val (.int v34), .val (.int v41), .val (.int qp0), .val (.int qp1), .val (.int qp2), .val (.int qp3), .val (.ref ka), .val (.ref pa), .val (.int (1 : Int32))]) rfl (pc' := 209) rfl ?_
                          refine g_aload K W at_209 rfl rfl (pc' := 211) rfl ?_
                          refine g_aload K W at_211 rfl rfl (pc' := 213) rfl ?_
                          refine g_callS (c2 l Z a0 hw n0 _ W.sz ka pa kl kf pl pf A_ka A_pa (by omega) (by omega)) K W (hw _ (List.mem_of_getElem? (i := 5) rfl)) (hw _ (List.mem_of_getElem? (i := 6) rfl)) (hw _ (List.mem_of_getElem? (i := 7) rfl)) (hw _ (List.mem_of_getElem? (i := 8) rfl)) (by decide) (lenOf pd_4 rfl) at_213 (pc' := 216) rfl (argsL := [(.ref ka), (.ref pa)]) (rest := []) rfl rfl (by decide) (wt := 0) rfl (by decide) (by decide) (by decide) ?_
                          rintro T _ _ W (⟨rfl, rfl, hz⟩ | ⟨-, -, hz⟩)
                          · show Go p e below s n0 (Q_c0 Z n0 h0 xs x1 x2 x3) 16 128 T (mkF m 216 #[.val (.int xs), .val (.int x1), .val (.int x2), .val (.int x3), .val (.int v6), .val (.int v16), .val (.int v20), .val (.int v27), .val (.int v34), .val (.int v41), .val (.int qp0), .val (.int qp1), .val (.int qp2), .val (.int qp3), .val (.ref ka), .val (.ref pa), .val (.int (1 : Int32))] [(.int (1 : Int32))])
                            refine g_iload K W at_216 rfl (pc' := 218) rfl ?_
                            refine g_icmp_ne K W at_218 (pt := 225) rfl (pf := 221) rfl (fun hc218 => ?_) (fun hc218 => absurd rfl hc218)
                            refine g_iconst K W (v := (1 : Int32)) at_221 rfl (pc' := 222) rfl ?_
                            refine g_goto K W at_222 (pt := 226) rfl ?_
                            exact g_retN K W (by simp) at_226 (by decide) (by decide) (v := (1 : Int32)) rfl rfl
                          · have hle : pl ≤ kl := by have q := (not_congr (own_lt (by omega) (by omega))).mp (epl ▸ ekl ▸ hc147 : ¬ Int32.ofNat kl < Int32.ofNat pl); omega
                            refine absurd ⟨hle, fun j hj => ?_⟩ hz
                            refine (Hkf j (by omega)).trans (Eq.trans ?_ (Hpf j hj).symm)
                            match j, hj with
                            | 0, hj => exact absurd hj (by have q := (own_lt (by omega) (by decide)).mp (epl ▸ hc153 : Int32.ofNat pl < Int32.ofNat 1); omega)
                            | 1, hj => exact congrArg (fun z : Int32 => z.toInt8.toInt32) hc173
                            | 2, hj => exact congrArg (fun z : Int32 => z.toInt8.toInt32) hc186
                            | 3, hj => exact congrArg (fun z : Int32 => z.toInt8.toInt32) hc199
                            | j + 4, hj => exact absurd hj (by omega)
                        · refine g_iconst K W (v := (0 : Int32)) at_206 rfl (pc' := 207) rfl ?_
                          refine g_istore K W at_207 (Ls' := #[.val (.int xs), .val (.int x1), .val (.int x2), .val (.int x3), .val (.int v6), .val (.int v16), .val (.int v20), .val (.int v27), .val (.int v34), .val (.int v41), .val (.int qp0), .val (.int qp1), .val (.int qp2), .val (.int qp3), .val (.ref ka), .val (.ref pa), .val (.int (0 : Int32))]) rfl (pc' := 209) rfl ?_
                          refine g_aload K W at_209 rfl rfl (pc' := 211) rfl ?_
                          refine g_aload K W at_211 rfl rfl (pc' := 213) rfl ?_
                          refine g_callS (c2 l Z a0 hw n0 _ W.sz ka pa kl kf pl pf A_ka A_pa (by omega) (by omega)) K W (hw _ (List.mem_of_getElem? (i := 5) rfl)) (hw _ (List.mem_of_getElem? (i := 6) rfl)) (hw _ (List.mem_of_getElem? (i := 7) rfl)) (hw _ (List.mem_of_getElem? (i := 8) rfl)) (by decide) (lenOf pd_4 rfl) at_213 (pc' := 216) rfl (argsL := [(.ref ka), (.ref pa)]) (rest := []) rfl rfl (by decide) (wt := 0) rfl (by decide) (by decide) (by decide) ?_
                          rintro T _ _ W (⟨-, -, hz⟩ | ⟨rfl, rfl, hz⟩)
                          · have hj : 3 < pl := (by have q := (not_congr (own_lt (by omega) (by decide))).mp (epl ▸ hc192 : ¬ Int32.ofNat pl < Int32.ofNat 4); omega)
                            have hj' : 3 < kl := by have := hz.1; omega
                            exact absurd (hk3.symm.trans ((Hkf 3 hj').symm.trans ((hz.2 3 hj).trans ((Hpf 3 hj).trans hJ_qp3)))) hc199
                          · show Go p e below s n0 (Q_c0 Z n0 h0 xs x1 x2 x3) 16 128 T (mkF m 216 #[.val (.int xs), .val (.int x1), .val (.int x2), .val (.int x3), .val (.int v6), .val (.int v16), .val (.int v20), .val (.int v27), .val (.int v34), .val (.int v41), .val (.int qp0), .val (.int qp1), .val (.int qp2), .val (.int qp3), .val (.ref ka), .val (.ref pa), .val (.int (0 : Int32))] [(.int (0 : Int32))])
                            refine g_iload K W at_216 rfl (pc' := 218) rfl ?_
                            refine g_icmp_ne K W at_218 (pt := 225) rfl (pf := 221) rfl (fun hc218 => ?_) (fun hc218 => absurd rfl hc218)
                            refine g_iconst K W (v := (1 : Int32)) at_221 rfl (pc' := 222) rfl ?_
                            refine g_goto K W at_222 (pt := 226) rfl ?_
                            exact g_retN K W (by simp) at_226 (by decide) (by decide) (v := (1 : Int32)) rfl rfl
                    · refine g_iconst K W (v := (0 : Int32)) at_206 rfl (pc' := 207) rfl ?_
                      refine g_istore K W at_207 (Ls' := #[.val (.int xs), .val (.int x1), .val (.int x2), .val (.int x3), .val (.int v6), .val (.int v16), .val (.int v20), .val (.int v27), .val (.int v34), .val (.int v41), .val (.int qp0), .val (.int qp1), .val (.int qp2), .val (.int qp3), .val (.ref ka), .val (.ref pa), .val (.int (0 : Int32))]) rfl (pc' := 209) rfl ?_
                      refine g_aload K W at_209 rfl rfl (pc' := 211) rfl ?_
                      refine g_aload K W at_211 rfl rfl (pc' := 213) rfl ?_
                      refine g_callS (c2 l Z a0 hw n0 _ W.sz ka pa kl kf pl pf A_ka A_pa (by omega) (by omega)) K W (hw _ (List.mem_of_getElem? (i := 5) rfl)) (hw _ (List.mem_of_getElem? (i := 6) rfl)) (hw _ (List.mem_of_getElem? (i := 7) rfl)) (hw _ (List.mem_of_getElem? (i := 8) rfl)) (by decide) (lenOf pd_4 rfl) at_213 (pc' := 216) rfl (argsL := [(.ref ka), (.ref pa)]) (rest := []) rfl rfl (by decide) (wt := 0) rfl (by decide) (by decide) (by decide) ?_
                      rintro T _ _ W (⟨-, -, hz⟩ | ⟨rfl, rfl, hz⟩)
                      · have hj : 2 < pl := (by have q := (not_congr (own_lt (by omega) (by decide))).mp (epl ▸ hc179 : ¬ Int32.ofNat pl < Int32.ofNat 3); omega)
                        have hj' : 2 < kl := by have := hz.1; omega
                        exact absurd (hk2.symm.trans ((Hkf 2 hj').symm.trans ((hz.2 2 hj).trans ((Hpf 2 hj).trans hJ_qp2)))) hc186
                      · show Go p e below s n0 (Q_c0 Z n0 h0 xs x1 x2 x3) 16 128 T (mkF m 216 #[.val (.int xs), .val (.int x1), .val (.int x2), .val (.int x3), .val (.int v6), .val (.int v16), .val (.int v20), .val (.int v27), .val (.int v34), .val (.int v41), .val (.int qp0), .val (.int qp1), .val (.int qp2), .val (.int qp3), .val (.ref ka), .val (.ref pa), .val (.int (0 : Int32))] [(.int (0 : Int32))])
                        refine g_iload K W at_216 rfl (pc' := 218) rfl ?_
                        refine g_icmp_ne K W at_218 (pt := 225) rfl (pf := 221) rfl (fun hc218 => ?_) (fun hc218 => absurd rfl hc218)
                        refine g_iconst K W (v := (1 : Int32)) at_221 rfl (pc' := 222) rfl ?_
                        refine g_goto K W at_222 (pt := 226) rfl ?_
                        exact g_retN K W (by simp) at_226 (by decide) (by decide) (v := (1 : Int32)) rfl rfl
                · refine g_iconst K W (v := (0 : Int32)) at_206 rfl (pc' := 207) rfl ?_
                  refine g_istore K W at_207 (Ls' := #[.val (.int xs), .val (.int x1), .val (.int x2), .val (.int x3), .val (.int v6), .val (.int v16), .val (.int v20), .val (.int v27), .val (.int v34), .val (.int v41), .val (.int qp0), .val (.int qp1), .val (.int qp2), .val (.int qp3), .val (.ref ka), .val (.ref pa), .val (.int (0 : Int32))]) rfl (pc' := 209) rfl ?_
                  refine g_aload K W at_209 rfl rfl (pc' := 211) rfl ?_
                  refine g_aload K W at_211 rfl rfl (pc' := 213) rfl ?_
                  refine g_callS (c2 l Z a0 hw n0 _ W.sz ka pa kl kf pl pf A_ka A_pa (by omega) (by omega)) K W (hw _ (List.mem_of_getElem? (i := 5) rfl)) (hw _ (List.mem_of_getElem? (i := 6) rfl)) (hw _ (List.mem_of_getElem? (i := 7) rfl)) (hw _ (List.mem_of_getElem? (i := 8) rfl)) (by decide) (lenOf pd_4 rfl) at_213 (pc' := 216) rfl (argsL := [(.ref ka), (.ref pa)]) (rest := []) rfl rfl (by decide) (wt := 0) rfl (by decide) (by decide) (by decide) ?_
                  rintro T _ _ W (⟨-, -, hz⟩ | ⟨rfl, rfl, hz⟩)
                  · have hj : 1 < pl := (by have q := (not_congr (own_lt (by omega) (by decide))).mp (epl ▸ hc166 : ¬ Int32.ofNat pl < Int32.ofNat 2); omega)
                    have hj' : 1 < kl := by have := hz.1; omega
                    exact absurd (hk1.symm.trans ((Hkf 1 hj').symm.trans ((hz.2 1 hj).trans ((Hpf 1 hj).trans hJ_qp1)))) hc173
                  · show Go p e below s n0 (Q_c0 Z n0 h0 xs x1 x2 x3) 16 128 T (mkF m 216 #[.val (.int xs), .val (.int x1), .val (.int x2), .val (.int x3), .val (.int v6), .val (.int v16), .val (.int v20), .val (.int v27), .val (.int v34), .val (.int v41), .val (.int qp0), .val (.int qp1), .val (.int qp2), .val (.int qp3), .val (.ref ka), .val (.ref pa), .val (.int (0 : Int32))] [(.int (0 : Int32))])
                    refine g_iload K W at_216 rfl (pc' := 218) rfl ?_
                    refine g_icmp_ne K W at_218 (pt := 225) rfl (pf := 221) rfl (fun hc218 => ?_) (fun hc218 => absurd rfl hc218)
                    refine g_iconst K W (v := (1 : Int32)) at_221 rfl (pc' := 222) rfl ?_
                    refine g_goto K W at_222 (pt := 226) rfl ?_
                    exact g_retN K W (by simp) at_226 (by decide) (by decide) (v := (1 : Int32)) rfl rfl
            · refine g_iload K W at_156 rfl (pc' := 158) rfl ?_
              refine g_iload K W at_158 rfl (pc' := 160) rfl ?_
              refine g_icmp_ne K W at_160 (pt := 206) rfl (pf := 163) rfl (fun hc160 => ?_) (fun hc160 => ?_)
              · refine g_iload K W at_163 rfl (pc' := 165) rfl ?_
                refine g_iconst K W (v := (2 : Int32)) at_165 rfl (pc' := 166) rfl ?_
                refine g_icmp_lt K W at_166 (pt := 176) rfl (pf := 169) rfl (fun hc166 => ?_) (fun hc166 => ?_)
                · refine g_iload K W at_176 rfl (pc' := 178) rfl ?_
                  refine g_iconst K W (v := (3 : Int32)) at_178 rfl (pc' := 179) rfl ?_
                  refine g_icmp_lt K W at_179 (pt := 189) rfl (pf := 182) rfl (fun hc179 => ?_) (fun hc179 => ?_)
                  · refine g_iload K W at_189 rfl (pc' := 191) rfl ?_
                    refine g_iconst K W (v := (4 : Int32)) at_191 rfl (pc' := 192) rfl ?_
                    refine g_icmp_lt K W at_192 (pt := 202) rfl (pf := 195) rfl (fun hc192 => ?_) (fun hc192 => ?_)
                    · refine g_iconst K W (v := (1 : Int32)) at_202 rfl (pc' := 203) rfl ?_
                      refine g_goto K W at_203 (pt := 207) rfl ?_
                      refine g_istore K W at_207 (Ls' := #[.val (.int xs), .val (.int x1), .val (.int x2), .val (.int x3), .val (.int v6), .val (.int v16), .val (.int v20), .val (.int v27), .val (.int v34), .val (.int v41), .val (.int qp0), .val (.int qp1), .val (.int qp2), .val (.int qp3), .val (.ref ka), .val (.ref pa), .val (.int (1 : Int32))]) rfl (pc' := 209) rfl ?_
                      refine g_aload K W at_209 rfl rfl (pc' := 211) rfl ?_
                      refine g_aload K W at_211 rfl rfl (pc' := 213) rfl ?_
                      refine g_callS (c2 l Z a0 hw n0 _ W.sz ka pa kl kf pl pf A_ka A_pa (by omega) (by omega)) K W (hw _ (List.mem_of_getElem? (i := 5) rfl)) (hw _ (List.mem_of_getElem? (i := 6) rfl)) (hw _ (List.mem_of_getElem? (i := 7) rfl)) (hw _ (List.mem_of_getElem? (i := 8) rfl)) (by decide) (lenOf pd_4 rfl) at_213 (pc' := 216) rfl (argsL := [(.ref ka), (.ref pa)]) (rest := []) rfl rfl (by decide) (wt := 0) rfl (by decide) (by decide) (by decide) ?_
                      rintro T _ _ W (⟨rfl, rfl, hz⟩ | ⟨-, -, hz⟩)
                      · show Go p e below s n0 (Q_c0 Z n0 h0 xs x1 x2 x3) 16 128 T (mkF m 216 #[.val (.int xs), .val (.int x1), .val (.int x2), .val (.int x3), .val (.int v6), .val (.int v16), .val (.int v20), .val (.int v27), .val (.int v34), .val (.int v41), .val (.int qp0), .val (.int qp1), .val (.int qp2), .val (.int qp3), .val (.ref ka), .val (.ref pa), .val (.int (1 : Int32))] [(.int (1 : Int32))])
                        refine g_iload K W at_216 rfl (pc' := 218) rfl ?_
                        refine g_icmp_ne K W at_218 (pt := 225) rfl (pf := 221) rfl (fun hc218 => ?_) (fun hc218 => absurd rfl hc218)
                        refine g_iconst K W (v := (1 : Int32)) at_221 rfl (pc' := 222) rfl ?_
                        refine g_goto K W at_222 (pt := 226) rfl ?_
                        exact g_retN K W (by simp) at_226 (by decide) (by decide) (v := (1 : Int32)) rfl rfl
                      · have hle : pl ≤ kl := by have q := (not_congr (own_lt (by omega) (by omega))).mp (epl ▸ ekl ▸ hc147 : ¬ Int32.ofNat kl < Int32.ofNat pl); omega
                        refine absurd ⟨hle, fun j hj => ?_⟩ hz
                        refine (Hkf j (by omega)).trans (Eq.trans ?_ (Hpf j hj).symm)
                        match j, hj with
                        | 0, hj => exact congrArg (fun z : Int32 => z.toInt8.toInt32) hc160
                        | 1, hj => exact absurd hj (by have q := (own_lt (by omega) (by decide)).mp (epl ▸ hc166 : Int32.ofNat pl < Int32.ofNat 2); omega)
                        | 2, hj => exact absurd hj (by have q := (own_lt (by omega) (by decide)).mp (epl ▸ hc179 : Int32.ofNat pl < Int32.ofNat 3); omega)
                        | 3, hj => exact absurd hj (by have q := (own_lt (by omega) (by decide)).mp (epl ▸ hc192 : Int32.ofNat pl < Int32.ofNat 4); omega)
                        | j + 4, hj => exact absurd hj (by omega)
                    · refine g_iload K W at_195 rfl (pc' := 197) rfl ?_
                      refine g_iload K W at_197 rfl (pc' := 199) rfl ?_
                      refine g_icmp_ne K W at_199 (pt := 206) rfl (pf := 202) rfl (fun hc199 => ?_) (fun hc199 => ?_)
                      · refine g_iconst K W (v := (1 : Int32)) at_202 rfl (pc' := 203) rfl ?_
                        refine g_goto K W at_203 (pt := 207) rfl ?_
                        refine g_istore K W at_207 (Ls' := #[.val (.int xs), .val (.int x1), .val (.int x2), .val (.int x3), .val (.int v6), .val (.int v16), .val (.int v20), .val (.int v27), .val (.int v34), .val (.int v41), .val (.int qp0), .val (.int qp1), .val (.int qp2), .val (.int qp3), .val (.ref ka), .val (.ref pa), .val (.int (1 : Int32))]) rfl (pc' := 209) rfl ?_
                        refine g_aload K W at_209 rfl rfl (pc' := 211) rfl ?_
                        refine g_aload K W at_211 rfl rfl (pc' := 213) rfl ?_
                        refine g_callS (c2 l Z a0 hw n0 _ W.sz ka pa kl kf pl pf A_ka A_pa (by omega) (by omega)) K W (hw _ (List.mem_of_getElem? (i := 5) rfl)) (hw _ (List.mem_of_getElem? (i := 6) rfl)) (hw _ (List.mem_of_getElem? (i := 7) rfl)) (hw _ (List.mem_of_getElem? (i := 8) rfl)) (by decide) (lenOf pd_4 rfl) at_213 (pc' := 216) rfl (argsL := [(.ref ka), (.ref pa)]) (rest := []) rfl rfl (by decide) (wt := 0) rfl (by decide) (by decide) (by decide) ?_
                        rintro T _ _ W (⟨rfl, rfl, hz⟩ | ⟨-, -, hz⟩)
                        · show Go p e below s n0 (Q_c0 Z n0 h0 xs x1 x2 x3) 16 128 T (mkF m 216 #[.val (.int xs), .val (.int x1), .val (.int x2), .val (.int x3), .val (.int v6), .val (.int v16), .val (.int v20), .val (.int v27), .val (.int v34), .val (.int v41), .val (.int qp0), .val (.int qp1), .val (.int qp2), .val (.int qp3), .val (.ref ka), .val (.ref pa), .val (.int (1 : Int32))] [(.int (1 : Int32))])
                          refine g_iload K W at_216 rfl (pc' := 218) rfl ?_
                          refine g_icmp_ne K W at_218 (pt := 225) rfl (pf := 221) rfl (fun hc218 => ?_) (fun hc218 => absurd rfl hc218)
                          refine g_iconst K W (v := (1 : Int32)) at_221 rfl (pc' := 222) rfl ?_
                          refine g_goto K W at_222 (pt := 226) rfl ?_
                          exact g_retN K W (by simp) at_226 (by decide) (by decide) (v := (1 : Int32)) rfl rfl
                        · have hle : pl ≤ kl := by have q := (not_congr (own_lt (by omega) (by omega))).mp (epl ▸ ekl ▸ hc147 : ¬ Int32.ofNat kl < Int32.ofNat pl); omega
                          refine absurd ⟨hle, fun j hj => ?_⟩ hz
                          refine (Hkf j (by omega)).trans (Eq.trans ?_ (Hpf j hj).symm)
                          match j, hj with
                          | 0, hj => exact congrArg (fun z : Int32 => z.toInt8.toInt32) hc160
                          | 1, hj => exact absurd hj (by have q := (own_lt (by omega) (by decide)).mp (epl ▸ hc166 : Int32.ofNat pl < Int32.ofNat 2); omega)
                          | 2, hj => exact absurd hj (by have q := (own_lt (by omega) (by decide)).mp (epl ▸ hc179 : Int32.ofNat pl < Int32.ofNat 3); omega)
                          | 3, hj => exact congrArg (fun z : Int32 => z.toInt8.toInt32) hc199
                          | j + 4, hj => exact absurd hj (by omega)
                      · refine g_iconst K W (v := (0 : Int32)) at_206 rfl (pc' := 207) rfl ?_
                        refine g_istore K W at_207 (Ls' := #[.val (.int xs), .val (.int x1), .val (.int x2), .val (.int x3), .val (.int v6), .val (.int v16), .val (.int v20), .val (.int v27), .val (.int v34), .val (.int v41), .val (.int qp0), .val (.int qp1), .val (.int qp2), .val (.int qp3), .val (.ref ka), .val (.ref pa), .val (.int (0 : Int32))]) rfl (pc' := 209) rfl ?_
                        refine g_aload K W at_209 rfl rfl (pc' := 211) rfl ?_
                        refine g_aload K W at_211 rfl rfl (pc' := 213) rfl ?_
                        refine g_callS (c2 l Z a0 hw n0 _ W.sz ka pa kl kf pl pf A_ka A_pa (by omega) (by omega)) K W (hw _ (List.mem_of_getElem? (i := 5) rfl)) (hw _ (List.mem_of_getElem? (i := 6) rfl)) (hw _ (List.mem_of_getElem? (i := 7) rfl)) (hw _ (List.mem_of_getElem? (i := 8) rfl)) (by decide) (lenOf pd_4 rfl) at_213 (pc' := 216) rfl (argsL := [(.ref ka), (.ref pa)]) (rest := []) rfl rfl (by decide) (wt := 0) rfl (by decide) (by decide) (by decide) ?_
                        rintro T _ _ W (⟨-, -, hz⟩ | ⟨rfl, rfl, hz⟩)
                        · have hj : 3 < pl := (by have q := (not_congr (own_lt (by omega) (by decide))).mp (epl ▸ hc192 : ¬ Int32.ofNat pl < Int32.ofNat 4); omega)
                          have hj' : 3 < kl := by have := hz.1; omega
                          exact absurd (hk3.symm.trans ((Hkf 3 hj').symm.trans ((hz.2 3 hj).trans ((Hpf 3 hj).trans hJ_qp3)))) hc199
                        · show Go p e below s n0 (Q_c0 Z n0 h0 xs x1 x2 x3) 16 128 T (mkF m 216 #[.val (.int xs), .val (.int x1), .val (.int x2), .val (.int x3), .val (.int v6), .val (.int v16), .val (.int v20), .val (.int v27), .val (.int v34), .val (.int v41), .val (.int qp0), .val (.int qp1), .val (.int qp2), .val (.int qp3), .val (.ref ka), .val (.ref pa), .val (.int (0 : Int32))] [(.int (0 : Int32))])
                          refine g_iload K W at_216 rfl (pc' := 218) rfl ?_
                          refine g_icmp_ne K W at_218 (pt := 225) rfl (pf := 221) rfl (fun hc218 => ?_) (fun hc218 => absurd rfl hc218)
                          refine g_iconst K W (v := (1 : Int32)) at_221 rfl (pc' := 222) rfl ?_
                          refine g_goto K W at_222 (pt := 226) rfl ?_
                          exact g_retN K W (by simp) at_226 (by decide) (by decide) (v := (1 : Int32)) rfl rfl
                  · refine g_iload K W at_182 rfl (pc' := 184) rfl ?_
                    refine g_iload K W at_184 rfl (pc' := 186) rfl ?_
                    refine g_icmp_ne K W at_186 (pt := 206) rfl (pf := 189) rfl (fun hc186 => ?_) (fun hc186 => ?_)
                    · refine g_iload K W at_189 rfl (pc' := 191) rfl ?_
                      refine g_iconst K W (v := (4 : Int32)) at_191 rfl (pc' := 192) rfl ?_
                      refine g_icmp_lt K W at_192 (pt := 202) rfl (pf := 195) rfl (fun hc192 => ?_) (fun hc192 => ?_)
                      · refine g_iconst K W (v := (1 : Int32)) at_202 rfl (pc' := 203) rfl ?_
                        refine g_goto K W at_203 (pt := 207) rfl ?_
                        refine g_istore K W at_207 (Ls' := #[.val (.int xs), .val (.int x1), .val (.int x2), .val (.int x3), .val (.int v6), .val (.int v16), .val (.int v20), .val (.int v27), .val (.int v34), .val (.int v41), .val (.int qp0), .val (.int qp1), .val (.int qp2), .val (.int qp3), .val (.ref ka), .val (.ref pa), .val (.int (1 : Int32))]) rfl (pc' := 209) rfl ?_
                        refine g_aload K W at_209 rfl rfl (pc' := 211) rfl ?_
                        refine g_aload K W at_211 rfl rfl (pc' := 213) rfl ?_
                        refine g_callS (c2 l Z a0 hw n0 _ W.sz ka pa kl kf pl pf A_ka A_pa (by omega) (by omega)) K W (hw _ (List.mem_of_getElem? (i := 5) rfl)) (hw _ (List.mem_of_getElem? (i := 6) rfl)) (hw _ (List.mem_of_getElem? (i := 7) rfl)) (hw _ (List.mem_of_getElem? (i := 8) rfl)) (by decide) (lenOf pd_4 rfl) at_213 (pc' := 216) rfl (argsL := [(.ref ka), (.ref pa)]) (rest := []) rfl rfl (by decide) (wt := 0) rfl (by decide) (by decide) (by decide) ?_
                        rintro T _ _ W (⟨rfl, rfl, hz⟩ | ⟨-, -, hz⟩)
                        · show Go p e below s n0 (Q_c0 Z n0 h0 xs x1 x2 x3) 16 128 T (mkF m 216 #[.val (.int xs), .val (.int x1), .val (.int x2), .val (.int x3), .val (.int v6), .val (.int v16), .val (.int v20), .val (.int v27), .val (.int v34), .val (.int v41), .val (.int qp0), .val (.int qp1), .val (.int qp2), .val (.int qp3), .val (.ref ka), .val (.ref pa), .val (.int (1 : Int32))] [(.int (1 : Int32))])
                          refine g_iload K W at_216 rfl (pc' := 218) rfl ?_
                          refine g_icmp_ne K W at_218 (pt := 225) rfl (pf := 221) rfl (fun hc218 => ?_) (fun hc218 => absurd rfl hc218)
                          refine g_iconst K W (v := (1 : Int32)) at_221 rfl (pc' := 222) rfl ?_
                          refine g_goto K W at_222 (pt := 226) rfl ?_
                          exact g_retN K W (by simp) at_226 (by decide) (by decide) (v := (1 : Int32)) rfl rfl
                        · have hle : pl ≤ kl := by have q := (not_congr (own_lt (by omega) (by omega))).mp (epl ▸ ekl ▸ hc147 : ¬ Int32.ofNat kl < Int32.ofNat pl); omega
                          refine absurd ⟨hle, fun j hj => ?_⟩ hz
                          refine (Hkf j (by omega)).trans (Eq.trans ?_ (Hpf j hj).symm)
                          match j, hj with
                          | 0, hj => exact congrArg (fun z : Int32 => z.toInt8.toInt32) hc160
                          | 1, hj => exact absurd hj (by have q := (own_lt (by omega) (by decide)).mp (epl ▸ hc166 : Int32.ofNat pl < Int32.ofNat 2); omega)
                          | 2, hj => exact congrArg (fun z : Int32 => z.toInt8.toInt32) hc186
                          | 3, hj => exact absurd hj (by have q := (own_lt (by omega) (by decide)).mp (epl ▸ hc192 : Int32.ofNat pl < Int32.ofNat 4); omega)
                          | j + 4, hj => exact absurd hj (by omega)
                      · refine g_iload K W at_195 rfl (pc' := 197) rfl ?_
                        refine g_iload K W at_197 rfl (pc' := 199) rfl ?_
                        refine g_icmp_ne K W at_199 (pt := 206) rfl (pf := 202) rfl (fun hc199 => ?_) (fun hc199 => ?_)
                        · refine g_iconst K W (v := (1 : Int32)) at_202 rfl (pc' := 203) rfl ?_
                          refine g_goto K W at_203 (pt := 207) rfl ?_
                          refine g_istore K W at_207 (Ls' := #[.val (.int xs), .val (.int x1), .val (.int x2), .val (.int x3), .val (.int v6), .val (.int v16), .val (.int v20), .val (.int v27), .val (.int v34), .val (.int v41), .val (.int qp0), .val (.int qp1), .val (.int qp2), .val (.int qp3), .val (.ref ka), .val (.ref pa), .val (.int (1 : Int32))]) rfl (pc' := 209) rfl ?_
                          refine g_aload K W at_209 rfl rfl (pc' := 211) rfl ?_
                          refine g_aload K W at_211 rfl rfl (pc' := 213) rfl ?_
                          refine g_callS (c2 l Z a0 hw n0 _ W.sz ka pa kl kf pl pf A_ka A_pa (by omega) (by omega)) K W (hw _ (List.mem_of_getElem? (i := 5) rfl)) (hw _ (List.mem_of_getElem? (i := 6) rfl)) (hw _ (List.mem_of_getElem? (i := 7) rfl)) (hw _ (List.mem_of_getElem? (i := 8) rfl)) (by decide) (lenOf pd_4 rfl) at_213 (pc' := 216) rfl (argsL := [(.ref ka), (.ref pa)]) (rest := []) rfl rfl (by decide) (wt := 0) rfl (by decide) (by decide) (by decide) ?_
                          rintro T _ _ W (⟨rfl, rfl, hz⟩ | ⟨-, -, hz⟩)
                          · show Go p e below s n0 (Q_c0 Z n0 h0 xs x1 x2 x3) 16 128 T (mkF m 216 #[.val (.int xs), .val (.int x1), .val (.int x2), .val (.int x3), .val (.int v6), .val (.int v16), .val (.int v20), .val (.int v27), .val (.int v34), .val (.int v41), .val (.int qp0), .val (.int qp1), .val (.int qp2), .val (.int qp3), .val (.ref ka), .val (.ref pa), .val (.int (1 : Int32))] [(.int (1 : Int32))])
                            refine g_iload K W at_216 rfl (pc' := 218) rfl ?_
                            refine g_icmp_ne K W at_218 (pt := 225) rfl (pf := 221) rfl (fun hc218 => ?_) (fun hc218 => absurd rfl hc218)
                            refine g_iconst K W (v := (1 : Int32)) at_221 rfl (pc' := 222) rfl ?_
                            refine g_goto K W at_222 (pt := 226) rfl ?_
                            exact g_retN K W (by simp) at_226 (by decide) (by decide) (v := (1 : Int32)) rfl rfl
                          · have hle : pl ≤ kl := by have q := (not_congr (own_lt (by omega) (by omega))).mp (epl ▸ ekl ▸ hc147 : ¬ Int32.ofNat kl < Int32.ofNat pl); omega
                            refine absurd ⟨hle, fun j hj => ?_⟩ hz
                            refine (Hkf j (by omega)).trans (Eq.trans ?_ (Hpf j hj).symm)
                            match j, hj with
                            | 0, hj => exact congrArg (fun z : Int32 => z.toInt8.toInt32) hc160
                            | 1, hj => exact absurd hj (by have q := (own_lt (by omega) (by decide)).mp (epl ▸ hc166 : Int32.ofNat pl < Int32.ofNat 2); omega)
                            | 2, hj => exact congrArg (fun z : Int32 => z.toInt8.toInt32) hc186
                            | 3, hj => exact congrArg (fun z : Int32 => z.toInt8.toInt32) hc199
                            | j + 4, hj => exact absurd hj (by omega)
                        · refine g_iconst K W (v := (0 : Int32)) at_206 rfl (pc' := 207) rfl ?_
                          refine g_istore K W at_207 (Ls' := #[.val (.int xs), .val (.int x1), .val (.int x2), .val (.int x3), .val (.int v6), .val (.int v16), .val (.int v20), .val (.int v27), .val (.int v34), .val (.int v41), .val (.int qp0), .val (.int qp1), .val (.int qp2), .val (.int qp3), .val (.ref ka), .val (.ref pa), .val (.int (0 : Int32))]) rfl (pc' := 209) rfl ?_
                          refine g_aload K W at_209 rfl rfl (pc' := 211) rfl ?_
                          refine g_aload K W at_211 rfl rfl (pc' := 213) rfl ?_
                          refine g_callS (c2 l Z a0 hw n0 _ W.sz ka pa kl kf pl pf A_ka A_pa (by omega) (by omega)) K W (hw _ (List.mem_of_getElem? (i := 5) rfl)) (hw _ (List.mem_of_getElem? (i := 6) rfl)) (hw _ (List.mem_of_getElem? (i := 7) rfl)) (hw _ (List.mem_of_getElem? (i := 8) rfl)) (by decide) (lenOf pd_4 rfl) at_213 (pc' := 216) rfl (argsL := [(.ref ka), (.ref pa)]) (rest := []) rfl rfl (by decide) (wt := 0) rfl (by decide) (by decide) (by decide) ?_
                          rintro T _ _ W (⟨-, -, hz⟩ | ⟨rfl, rfl, hz⟩)
                          · have hj : 3 < pl := (by have q := (not_congr (own_lt (by omega) (by decide))).mp (epl ▸ hc192 : ¬ Int32.ofNat pl < Int32.ofNat 4); omega)
                            have hj' : 3 < kl := by have := hz.1; omega
                            exact absurd (hk3.symm.trans ((Hkf 3 hj').symm.trans ((hz.2 3 hj).trans ((Hpf 3 hj).trans hJ_qp3)))) hc199
                          · show Go p e below s n0 (Q_c0 Z n0 h0 xs x1 x2 x3) 16 128 T (mkF m 216 #[.val (.int xs), .val (.int x1), .val (.int x2), .val (.int x3), .val (.int v6), .val (.int v16), .val (.int v20), .val (.int v27), .val (.int v34), .val (.int v41), .val (.int qp0), .val (.int qp1), .val (.int qp2), .val (.int qp3), .val (.ref ka), .val (.ref pa), .val (.int (0 : Int32))] [(.int (0 : Int32))])
                            refine g_iload K W at_216 rfl (pc' := 218) rfl ?_
                            refine g_icmp_ne K W at_218 (pt := 225) rfl (pf := 221) rfl (fun hc218 => ?_) (fun hc218 => absurd rfl hc218)
                            refine g_iconst K W (v := (1 : Int32)) at_221 rfl (pc' := 222) rfl ?_
                            refine g_goto K W at_222 (pt := 226) rfl ?_
                            exact g_retN K W (by simp) at_226 (by decide) (by decide) (v := (1 : Int32)) rfl rfl
                    · refine g_iconst K W (v := (0 : Int32)) at_206 rfl (pc' := 207) rfl ?_
                      refine g_istore K W at_207 (Ls' := #[.val (.int xs), .val (.int x1), .val (.int x2), .val (.int x3), .val (.int v6), .val (.int v16), .val (.int v20), .val (.int v27), .val (.int v34), .val (.int v41), .val (.int qp0), .val (.int qp1), .val (.int qp2), .val (.int qp3), .val (.ref ka), .val (.ref pa), .val (.int (0 : Int32))]) rfl (pc' := 209) rfl ?_
                      refine g_aload K W at_209 rfl rfl (pc' := 211) rfl ?_
                      refine g_aload K W at_211 rfl rfl (pc' := 213) rfl ?_
                      refine g_callS (c2 l Z a0 hw n0 _ W.sz ka pa kl kf pl pf A_ka A_pa (by omega) (by omega)) K W (hw _ (List.mem_of_getElem? (i := 5) rfl)) (hw _ (List.mem_of_getElem? (i := 6) rfl)) (hw _ (List.mem_of_getElem? (i := 7) rfl)) (hw _ (List.mem_of_getElem? (i := 8) rfl)) (by decide) (lenOf pd_4 rfl) at_213 (pc' := 216) rfl (argsL := [(.ref ka), (.ref pa)]) (rest := []) rfl rfl (by decide) (wt := 0) rfl (by decide) (by decide) (by decide) ?_
                      rintro T _ _ W (⟨-, -, hz⟩ | ⟨rfl, rfl, hz⟩)
                      · have hj : 2 < pl := (by have q := (not_congr (own_lt (by omega) (by decide))).mp (epl ▸ hc179 : ¬ Int32.ofNat pl < Int32.ofNat 3); omega)
                        have hj' : 2 < kl := by have := hz.1; omega
                        exact absurd (hk2.symm.trans ((Hkf 2 hj').symm.trans ((hz.2 2 hj).trans ((Hpf 2 hj).trans hJ_qp2)))) hc186
                      · show Go p e below s n0 (Q_c0 Z n0 h0 xs x1 x2 x3) 16 128 T (mkF m 216 #[.val (.int xs), .val (.int x1), .val (.int x2), .val (.int x3), .val (.int v6), .val (.int v16), .val (.int v20), .val (.int v27), .val (.int v34), .val (.int v41), .val (.int qp0), .val (.int qp1), .val (.int qp2), .val (.int qp3), .val (.ref ka), .val (.ref pa), .val (.int (0 : Int32))] [(.int (0 : Int32))])
                        refine g_iload K W at_216 rfl (pc' := 218) rfl ?_
                        refine g_icmp_ne K W at_218 (pt := 225) rfl (pf := 221) rfl (fun hc218 => ?_) (fun hc218 => absurd rfl hc218)
                        refine g_iconst K W (v := (1 : Int32)) at_221 rfl (pc' := 222) rfl ?_
                        refine g_goto K W at_222 (pt := 226) rfl ?_
                        exact g_retN K W (by simp) at_226 (by decide) (by decide) (v := (1 : Int32)) rfl rfl
                · refine g_iload K W at_169 rfl (pc' := 171) rfl ?_
                  refine g_iload K W at_171 rfl (pc' := 173) rfl ?_
                  refine g_icmp_ne K W at_173 (pt := 206) rfl (pf := 176) rfl (fun hc173 => ?_) (fun hc173 => ?_)
                  · refine g_iload K W at_176 rfl (pc' := 178) rfl ?_
                    refine g_iconst K W (v := (3 : Int32)) at_178 rfl (pc' := 179) rfl ?_
                    refine g_icmp_lt K W at_179 (pt := 189) rfl (pf := 182) rfl (fun hc179 => ?_) (fun hc179 => ?_)
                    · refine g_iload K W at_189 rfl (pc' := 191) rfl ?_
                      refine g_iconst K W (v := (4 : Int32)) at_191 rfl (pc' := 192) rfl ?_
                      refine g_icmp_lt K W at_192 (pt := 202) rfl (pf := 195) rfl (fun hc192 => ?_) (fun hc192 => ?_)
                      · refine g_iconst K W (v := (1 : Int32)) at_202 rfl (pc' := 203) rfl ?_
                        refine g_goto K W at_203 (pt := 207) rfl ?_
                        refine g_istore K W at_207 (Ls' := #[.val (.int xs), .val (.int x1), .val (.int x2), .val (.int x3), .val (.int v6), .val (.int v16), .val (.int v20), .val (.int v27), .val (.int v34), .val (.int v41), .val (.int qp0), .val (.int qp1), .val (.int qp2), .val (.int qp3), .val (.ref ka), .val (.ref pa), .val (.int (1 : Int32))]) rfl (pc' := 209) rfl ?_
                        refine g_aload K W at_209 rfl rfl (pc' := 211) rfl ?_
                        refine g_aload K W at_211 rfl rfl (pc' := 213) rfl ?_
                        refine g_callS (c2 l Z a0 hw n0 _ W.sz ka pa kl kf pl pf A_ka A_pa (by omega) (by omega)) K W (hw _ (List.mem_of_getElem? (i := 5) rfl)) (hw _ (List.mem_of_getElem? (i := 6) rfl)) (hw _ (List.mem_of_getElem? (i := 7) rfl)) (hw _ (List.mem_of_getElem? (i := 8) rfl)) (by decide) (lenOf pd_4 rfl) at_213 (pc' := 216) rfl (argsL := [(.ref ka), (.ref pa)]) (rest := []) rfl rfl (by decide) (wt := 0) rfl (by decide) (by decide) (by decide) ?_
                        rintro T _ _ W (⟨rfl, rfl, hz⟩ | ⟨-, -, hz⟩)
                        · show Go p e below s n0 (Q_c0 Z n0 h0 xs x1 x2 x3) 16 128 T (mkF m 216 #[.val (.int xs), .val (.int x1), .val (.int x2), .val (.int x3), .val (.int v6), .val (.int v16), .val (.int v20), .val (.int v27), .val (.int v34), .val (.int v41), .val (.int qp0), .val (.int qp1), .val (.int qp2), .val (.int qp3), .val (.ref ka), .val (.ref pa), .val (.int (1 : Int32))] [(.int (1 : Int32))])
                          refine g_iload K W at_216 rfl (pc' := 218) rfl ?_
                          refine g_icmp_ne K W at_218 (pt := 225) rfl (pf := 221) rfl (fun hc218 => ?_) (fun hc218 => absurd rfl hc218)
                          refine g_iconst K W (v := (1 : Int32)) at_221 rfl (pc' := 222) rfl ?_
                          refine g_goto K W at_222 (pt := 226) rfl ?_
                          exact g_retN K W (by simp) at_226 (by decide) (by decide) (v := (1 : Int32)) rfl rfl
                        · have hle : pl ≤ kl := by have q := (not_congr (own_lt (by omega) (by omega))).mp (epl ▸ ekl ▸ hc147 : ¬ Int32.ofNat kl < Int32.ofNat pl); omega
                          refine absurd ⟨hle, fun j hj => ?_⟩ hz
                          refine (Hkf j (by omega)).trans (Eq.trans ?_ (Hpf j hj).symm)
                          match j, hj with
                          | 0, hj => exact congrArg (fun z : Int32 => z.toInt8.toInt32) hc160
                          | 1, hj => exact congrArg (fun z : Int32 => z.toInt8.toInt32) hc173
                          | 2, hj => exact absurd hj (by have q := (own_lt (by omega) (by decide)).mp (epl ▸ hc179 : Int32.ofNat pl < Int32.ofNat 3); omega)
                          | 3, hj => exact absurd hj (by have q := (own_lt (by omega) (by decide)).mp (epl ▸ hc192 : Int32.ofNat pl < Int32.ofNat 4); omega)
                          | j + 4, hj => exact absurd hj (by omega)
                      · refine g_iload K W at_195 rfl (pc' := 197) rfl ?_
                        refine g_iload K W at_197 rfl (pc' := 199) rfl ?_
                        refine g_icmp_ne K W at_199 (pt := 206) rfl (pf := 202) rfl (fun hc199 => ?_) (fun hc199 => ?_)
                        · refine g_iconst K W (v := (1 : Int32)) at_202 rfl (pc' := 203) rfl ?_
                          refine g_goto K W at_203 (pt := 207) rfl ?_
                          refine g_istore K W at_207 (Ls' := #[.val (.int xs), .val (.int x1), .val (.int x2), .val (.int x3), .val (.int v6), .val (.int v16), .val (.int v20), .val (.int v27), .val (.int v34), .val (.int v41), .val (.int qp0), .val (.int qp1), .val (.int qp2), .val (.int qp3), .val (.ref ka), .val (.ref pa), .val (.int (1 : Int32))]) rfl (pc' := 209) rfl ?_
                          refine g_aload K W at_209 rfl rfl (pc' := 211) rfl ?_
                          refine g_aload K W at_211 rfl rfl (pc' := 213) rfl ?_
                          refine g_callS (c2 l Z a0 hw n0 _ W.sz ka pa kl kf pl pf A_ka A_pa (by omega) (by omega)) K W (hw _ (List.mem_of_getElem? (i := 5) rfl)) (hw _ (List.mem_of_getElem? (i := 6) rfl)) (hw _ (List.mem_of_getElem? (i := 7) rfl)) (hw _ (List.mem_of_getElem? (i := 8) rfl)) (by decide) (lenOf pd_4 rfl) at_213 (pc' := 216) rfl (argsL := [(.ref ka), (.ref pa)]) (rest := []) rfl rfl (by decide) (wt := 0) rfl (by decide) (by decide) (by decide) ?_
                          rintro T _ _ W (⟨rfl, rfl, hz⟩ | ⟨-, -, hz⟩)
                          · show Go p e below s n0 (Q_c0 Z n0 h0 xs x1 x2 x3) 16 128 T (mkF m 216 #[.val (.int xs), .val (.int x1), .val (.int x2), .val (.int x3), .val (.int v6), .val (.int v16), .val (.int v20), .val (.int v27), .val (.int v34), .val (.int v41), .val (.int qp0), .val (.int qp1), .val (.int qp2), .val (.int qp3), .val (.ref ka), .val (.ref pa), .val (.int (1 : Int32))] [(.int (1 : Int32))])
                            refine g_iload K W at_216 rfl (pc' := 218) rfl ?_
                            refine g_icmp_ne K W at_218 (pt := 225) rfl (pf := 221) rfl (fun hc218 => ?_) (fun hc218 => absurd rfl hc218)
                            refine g_iconst K W (v := (1 : Int32)) at_221 rfl (pc' := 222) rfl ?_
                            refine g_goto K W at_222 (pt := 226) rfl ?_
                            exact g_retN K W (by simp) at_226 (by decide) (by decide) (v := (1 : Int32)) rfl rfl
                          · have hle : pl ≤ kl := by have q := (not_congr (own_lt (by omega) (by omega))).mp (epl ▸ ekl ▸ hc147 : ¬ Int32.ofNat kl < Int32.ofNat pl); omega
                            refine absurd ⟨hle, fun j hj => ?_⟩ hz
                            refine (Hkf j (by omega)).trans (Eq.trans ?_ (Hpf j hj).symm)
                            match j, hj with
                            | 0, hj => exact congrArg (fun z : Int32 => z.toInt8.toInt32) hc160
                            | 1, hj => exact congrArg (fun z : Int32 => z.toInt8.toInt32) hc173
                            | 2, hj => exact absurd hj (by have q := (own_lt (by omega) (by decide)).mp (epl ▸ hc179 : Int32.ofNat pl < Int32.ofNat 3); omega)
                            | 3, hj => exact congrArg (fun z : Int32 => z.toInt8.toInt32) hc199
                            | j + 4, hj => exact absurd hj (by omega)
                        · refine g_iconst K W (v := (0 : Int32)) at_206 rfl (pc' := 207) rfl ?_
                          refine g_istore K W at_207 (Ls' := #[.val (.int xs), .val (.int x1), .val (.int x2), .val (.int x3), .val (.int v6), .val (.int v16), .val (.int v20), .val (.int v27), .val (.int v34), .val (.int v41), .val (.int qp0), .val (.int qp1), .val (.int qp2), .val (.int qp3), .val (.ref ka), .val (.ref pa), .val (.int (0 : Int32))]) rfl (pc' := 209) rfl ?_
                          refine g_aload K W at_209 rfl rfl (pc' := 211) rfl ?_
                          refine g_aload K W at_211 rfl rfl (pc' := 213) rfl ?_
                          refine g_callS (c2 l Z a0 hw n0 _ W.sz ka pa kl kf pl pf A_ka A_pa (by omega) (by omega)) K W (hw _ (List.mem_of_getElem? (i := 5) rfl)) (hw _ (List.mem_of_getElem? (i := 6) rfl)) (hw _ (List.mem_of_getElem? (i := 7) rfl)) (hw _ (List.mem_of_getElem? (i := 8) rfl)) (by decide) (lenOf pd_4 rfl) at_213 (pc' := 216) rfl (argsL := [(.ref ka), (.ref pa)]) (rest := []) rfl rfl (by decide) (wt := 0) rfl (by decide) (by decide) (by decide) ?_
                          rintro T _ _ W (⟨-, -, hz⟩ | ⟨rfl, rfl, hz⟩)
                          · have hj : 3 < pl := (by have q := (not_congr (own_lt (by omega) (by decide))).mp (epl ▸ hc192 : ¬ Int32.ofNat pl < Int32.ofNat 4); omega)
                            have hj' : 3 < kl := by have := hz.1; omega
                            exact absurd (hk3.symm.trans ((Hkf 3 hj').symm.trans ((hz.2 3 hj).trans ((Hpf 3 hj).trans hJ_qp3)))) hc199
                          · show Go p e below s n0 (Q_c0 Z n0 h0 xs x1 x2 x3) 16 128 T (mkF m 216 #[.val (.int xs), .val (.int x1), .val (.int x2), .val (.int x3), .val (.int v6), .val (.int v16), .val (.int v20), .val (.int v27), .val (.int v34), .val (.int v41), .val (.int qp0), .val (.int qp1), .val (.int qp2), .val (.int qp3), .val (.ref ka), .val (.ref pa), .val (.int (0 : Int32))] [(.int (0 : Int32))])
                            refine g_iload K W at_216 rfl (pc' := 218) rfl ?_
                            refine g_icmp_ne K W at_218 (pt := 225) rfl (pf := 221) rfl (fun hc218 => ?_) (fun hc218 => absurd rfl hc218)
                            refine g_iconst K W (v := (1 : Int32)) at_221 rfl (pc' := 222) rfl ?_
                            refine g_goto K W at_222 (pt := 226) rfl ?_
                            exact g_retN K W (by simp) at_226 (by decide) (by decide) (v := (1 : Int32)) rfl rfl
                    · refine g_iload K W at_182 rfl (pc' := 184) rfl ?_
                      refine g_iload K W at_184 rfl (pc' := 186) rfl ?_
                      refine g_icmp_ne K W at_186 (pt := 206) rfl (pf := 189) rfl (fun hc186 => ?_) (fun hc186 => ?_)
                      · refine g_iload K W at_189 rfl (pc' := 191) rfl ?_
                        refine g_iconst K W (v := (4 : Int32)) at_191 rfl (pc' := 192) rfl ?_
                        refine g_icmp_lt K W at_192 (pt := 202) rfl (pf := 195) rfl (fun hc192 => ?_) (fun hc192 => ?_)
                        · refine g_iconst K W (v := (1 : Int32)) at_202 rfl (pc' := 203) rfl ?_
                          refine g_goto K W at_203 (pt := 207) rfl ?_
                          refine g_istore K W at_207 (Ls' := #[.val (.int xs), .val (.int x1), .val (.int x2), .val (.int x3), .val (.int v6), .val (.int v16), .val (.int v20), .val (.int v27), .val (.int v34), .val (.int v41), .val (.int qp0), .val (.int qp1), .val (.int qp2), .val (.int qp3), .val (.ref ka), .val (.ref pa), .val (.int (1 : Int32))]) rfl (pc' := 209) rfl ?_
                          refine g_aload K W at_209 rfl rfl (pc' := 211) rfl ?_
                          refine g_aload K W at_211 rfl rfl (pc' := 213) rfl ?_
                          refine g_callS (c2 l Z a0 hw n0 _ W.sz ka pa kl kf pl pf A_ka A_pa (by omega) (by omega)) K W (hw _ (List.mem_of_getElem? (i := 5) rfl)) (hw _ (List.mem_of_getElem? (i := 6) rfl)) (hw _ (List.mem_of_getElem? (i := 7) rfl)) (hw _ (List.mem_of_getElem? (i := 8) rfl)) (by decide) (lenOf pd_4 rfl) at_213 (pc' := 216) rfl (argsL := [(.ref ka), (.ref pa)]) (rest := []) rfl rfl (by decide) (wt := 0) rfl (by decide) (by decide) (by decide) ?_
                          rintro T _ _ W (⟨rfl, rfl, hz⟩ | ⟨-, -, hz⟩)
                          · show Go p e below s n0 (Q_c0 Z n0 h0 xs x1 x2 x3) 16 128 T (mkF m 216 #[.val (.int xs), .val (.int x1), .val (.int x2), .val (.int x3), .val (.int v6), .val (.int v16), .val (.int v20), .val (.int v27), .val (.int v34), .val (.int v41), .val (.int qp0), .val (.int qp1), .val (.int qp2), .val (.int qp3), .val (.ref ka), .val (.ref pa), .val (.int (1 : Int32))] [(.int (1 : Int32))])
                            refine g_iload K W at_216 rfl (pc' := 218) rfl ?_
                            refine g_icmp_ne K W at_218 (pt := 225) rfl (pf := 221) rfl (fun hc218 => ?_) (fun hc218 => absurd rfl hc218)
                            refine g_iconst K W (v := (1 : Int32)) at_221 rfl (pc' := 222) rfl ?_
                            refine g_goto K W at_222 (pt := 226) rfl ?_
                            exact g_retN K W (by simp) at_226 (by decide) (by decide) (v := (1 : Int32)) rfl rfl
                          · have hle : pl ≤ kl := by have q := (not_congr (own_lt (by omega) (by omega))).mp (epl ▸ ekl ▸ hc147 : ¬ Int32.ofNat kl < Int32.ofNat pl); omega
                            refine absurd ⟨hle, fun j hj => ?_⟩ hz
                            refine (Hkf j (by omega)).trans (Eq.trans ?_ (Hpf j hj).symm)
                            match j, hj with
                            | 0, hj => exact congrArg (fun z : Int32 => z.toInt8.toInt32) hc160
                            | 1, hj => exact congrArg (fun z : Int32 => z.toInt8.toInt32) hc173
                            | 2, hj => exact congrArg (fun z : Int32 => z.toInt8.toInt32) hc186
                            | 3, hj => exact absurd hj (by have q := (own_lt (by omega) (by decide)).mp (epl ▸ hc192 : Int32.ofNat pl < Int32.ofNat 4); omega)
                            | j + 4, hj => exact absurd hj (by omega)
                        · refine g_iload K W at_195 rfl (pc' := 197) rfl ?_
                          refine g_iload K W at_197 rfl (pc' := 199) rfl ?_
                          refine g_icmp_ne K W at_199 (pt := 206) rfl (pf := 202) rfl (fun hc199 => ?_) (fun hc199 => ?_)
                          · refine g_iconst K W (v := (1 : Int32)) at_202 rfl (pc' := 203) rfl ?_
                            refine g_goto K W at_203 (pt := 207) rfl ?_
                            refine g_istore K W at_207 (Ls' := #[.val (.int xs), .val (.int x1), .val (.int x2), .val (.int x3), .val (.int v6), .val (.int v16), .val (.int v20), .val (.int v27), .val (.int v34), .val (.int v41), .val (.int qp0), .val (.int qp1), .val (.int qp2), .val (.int qp3), .val (.ref ka), .val (.ref pa), .val (.int (1 : Int32))]) rfl (pc' := 209) rfl ?_
                            refine g_aload K W at_209 rfl rfl (pc' := 211) rfl ?_
                            refine g_aload K W at_211 rfl rfl (pc' := 213) rfl ?_
                            refine g_callS (c2 l Z a0 hw n0 _ W.sz ka pa kl kf pl pf A_ka A_pa (by omega) (by omega)) K W (hw _ (List.mem_of_getElem? (i := 5) rfl)) (hw _ (List.mem_of_getElem? (i := 6) rfl)) (hw _ (List.mem_of_getElem? (i := 7) rfl)) (hw _ (List.mem_of_getElem? (i := 8) rfl)) (by decide) (lenOf pd_4 rfl) at_213 (pc' := 216) rfl (argsL := [(.ref ka), (.ref pa)]) (rest := []) rfl rfl (by decide) (wt := 0) rfl (by decide) (by decide) (by decide) ?_
                            rintro T _ _ W (⟨rfl, rfl, hz⟩ | ⟨-, -, hz⟩)
                            · show Go p e below s n0 (Q_c0 Z n0 h0 xs x1 x2 x3) 16 128 T (mkF m 216 #[.val (.int xs), .val (.int x1), .val (.int x2), .val (.int x3), .val (.int v6), .val (.int v16), .val (.int v20), .val (.int v27), .val (.int v34), .val (.int v41), .val (.int qp0), .val (.int qp1), .val (.int qp2), .val (.int qp3), .val (.ref ka), .val (.ref pa), .val (.int (1 : Int32))] [(.int (1 : Int32))])
                              refine g_iload K W at_216 rfl (pc' := 218) rfl ?_
                              refine g_icmp_ne K W at_218 (pt := 225) rfl (pf := 221) rfl (fun hc218 => ?_) (fun hc218 => absurd rfl hc218)
                              refine g_iconst K W (v := (1 : Int32)) at_221 rfl (pc' := 222) rfl ?_
                              refine g_goto K W at_222 (pt := 226) rfl ?_
                              exact g_retN K W (by simp) at_226 (by decide) (by decide) (v := (1 : Int32)) rfl rfl
                            · have hle : pl ≤ kl := by have q := (not_congr (own_lt (by omega) (by omega))).mp (epl ▸ ekl ▸ hc147 : ¬ Int32.ofNat kl < Int32.ofNat pl); omega
                              refine absurd ⟨hle, fun j hj => ?_⟩ hz
                              refine (Hkf j (by omega)).trans (Eq.trans ?_ (Hpf j hj).symm)
                              match j, hj with
                              | 0, hj => exact congrArg (fun z : Int32 => z.toInt8.toInt32) hc160
                              | 1, hj => exact congrArg (fun z : Int32 => z.toInt8.toInt32) hc173
                              | 2, hj => exact congrArg (fun z : Int32 => z.toInt8.toInt32) hc186
                              | 3, hj => exact congrArg (fun z : Int32 => z.toInt8.toInt32) hc199
                              | j + 4, hj => exact absurd hj (by omega)
                          · refine g_iconst K W (v := (0 : Int32)) at_206 rfl (pc' := 207) rfl ?_
                            refine g_istore K W at_207 (Ls' := #[.val (.int xs), .val (.int x1), .val (.int x2), .val (.int x3), .val (.int v6), .val (.int v16), .val (.int v20), .val (.int v27), .val (.int v34), .val (.int v41), .val (.int qp0), .val (.int qp1), .val (.int qp2), .val (.int qp3), .val (.ref ka), .val (.ref pa), .val (.int (0 : Int32))]) rfl (pc' := 209) rfl ?_
                            refine g_aload K W at_209 rfl rfl (pc' := 211) rfl ?_
                            refine g_aload K W at_211 rfl rfl (pc' := 213) rfl ?_
                            refine g_callS (c2 l Z a0 hw n0 _ W.sz ka pa kl kf pl pf A_ka A_pa (by omega) (by omega)) K W (hw _ (List.mem_of_getElem? (i := 5) rfl)) (hw _ (List.mem_of_getElem? (i := 6) rfl)) (hw _ (List.mem_of_getElem? (i := 7) rfl)) (hw _ (List.mem_of_getElem? (i := 8) rfl)) (by decide) (lenOf pd_4 rfl) at_213 (pc' := 216) rfl (argsL := [(.ref ka), (.ref pa)]) (rest := []) rfl rfl (by decide) (wt := 0) rfl (by decide) (by decide) (by decide) ?_
                            rintro T _ _ W (⟨-, -, hz⟩ | ⟨rfl, rfl, hz⟩)
                            · have hj : 3 < pl := (by have q := (not_congr (own_lt (by omega) (by decide))).mp (epl ▸ hc192 : ¬ Int32.ofNat pl < Int32.ofNat 4); omega)
                              have hj' : 3 < kl := by have := hz.1; omega
                              exact absurd (hk3.symm.trans ((Hkf 3 hj').symm.trans ((hz.2 3 hj).trans ((Hpf 3 hj).trans hJ_qp3)))) hc199
                            · show Go p e below s n0 (Q_c0 Z n0 h0 xs x1 x2 x3) 16 128 T (mkF m 216 #[.val (.int xs), .val (.int x1), .val (.int x2), .val (.int x3), .val (.int v6), .val (.int v16), .val (.int v20), .val (.int v27), .val (.int v34), .val (.int v41), .val (.int qp0), .val (.int qp1), .val (.int qp2), .val (.int qp3), .val (.ref ka), .val (.ref pa), .val (.int (0 : Int32))] [(.int (0 : Int32))])
                              refine g_iload K W at_216 rfl (pc' := 218) rfl ?_
                              refine g_icmp_ne K W at_218 (pt := 225) rfl (pf := 221) rfl (fun hc218 => ?_) (fun hc218 => absurd rfl hc218)
                              refine g_iconst K W (v := (1 : Int32)) at_221 rfl (pc' := 222) rfl ?_
                              refine g_goto K W at_222 (pt := 226) rfl ?_
                              exact g_retN K W (by simp) at_226 (by decide) (by decide) (v := (1 : Int32)) rfl rfl
                      · refine g_iconst K W (v := (0 : Int32)) at_206 rfl (pc' := 207) rfl ?_
                        refine g_istore K W at_207 (Ls' := #[.val (.int xs), .val (.int x1), .val (.int x2), .val (.int x3), .val (.int v6), .val (.int v16), .val (.int v20), .val (.int v27), .val (.int v34), .val (.int v41), .val (.int qp0), .val (.int qp1), .val (.int qp2), .val (.int qp3), .val (.ref ka), .val (.ref pa), .val (.int (0 : Int32))]) rfl (pc' := 209) rfl ?_
                        refine g_aload K W at_209 rfl rfl (pc' := 211) rfl ?_
                        refine g_aload K W at_211 rfl rfl (pc' := 213) rfl ?_
                        refine g_callS (c2 l Z a0 hw n0 _ W.sz ka pa kl kf pl pf A_ka A_pa (by omega) (by omega)) K W (hw _ (List.mem_of_getElem? (i := 5) rfl)) (hw _ (List.mem_of_getElem? (i := 6) rfl)) (hw _ (List.mem_of_getElem? (i := 7) rfl)) (hw _ (List.mem_of_getElem? (i := 8) rfl)) (by decide) (lenOf pd_4 rfl) at_213 (pc' := 216) rfl (argsL := [(.ref ka), (.ref pa)]) (rest := []) rfl rfl (by decide) (wt := 0) rfl (by decide) (by decide) (by decide) ?_
                        rintro T _ _ W (⟨-, -, hz⟩ | ⟨rfl, rfl, hz⟩)
                        · have hj : 2 < pl := (by have q := (not_congr (own_lt (by omega) (by decide))).mp (epl ▸ hc179 : ¬ Int32.ofNat pl < Int32.ofNat 3); omega)
                          have hj' : 2 < kl := by have := hz.1; omega
                          exact absurd (hk2.symm.trans ((Hkf 2 hj').symm.trans ((hz.2 2 hj).trans ((Hpf 2 hj).trans hJ_qp2)))) hc186
                        · show Go p e below s n0 (Q_c0 Z n0 h0 xs x1 x2 x3) 16 128 T (mkF m 216 #[.val (.int xs), .val (.int x1), .val (.int x2), .val (.int x3), .val (.int v6), .val (.int v16), .val (.int v20), .val (.int v27), .val (.int v34), .val (.int v41), .val (.int qp0), .val (.int qp1), .val (.int qp2), .val (.int qp3), .val (.ref ka), .val (.ref pa), .val (.int (0 : Int32))] [(.int (0 : Int32))])
                          refine g_iload K W at_216 rfl (pc' := 218) rfl ?_
                          refine g_icmp_ne K W at_218 (pt := 225) rfl (pf := 221) rfl (fun hc218 => ?_) (fun hc218 => absurd rfl hc218)
                          refine g_iconst K W (v := (1 : Int32)) at_221 rfl (pc' := 222) rfl ?_
                          refine g_goto K W at_222 (pt := 226) rfl ?_
                          exact g_retN K W (by simp) at_226 (by decide) (by decide) (v := (1 : Int32)) rfl rfl
                  · refine g_iconst K W (v := (0 : Int32)) at_206 rfl (pc' := 207) rfl ?_
                    refine g_istore K W at_207 (Ls' := #[.val (.int xs), .val (.int x1), .val (.int x2), .val (.int x3), .val (.int v6), .val (.int v16), .val (.int v20), .val (.int v27), .val (.int v34), .val (.int v41), .val (.int qp0), .val (.int qp1), .val (.int qp2), .val (.int qp3), .val (.ref ka), .val (.ref pa), .val (.int (0 : Int32))]) rfl (pc' := 209) rfl ?_
                    refine g_aload K W at_209 rfl rfl (pc' := 211) rfl ?_
                    refine g_aload K W at_211 rfl rfl (pc' := 213) rfl ?_
                    refine g_callS (c2 l Z a0 hw n0 _ W.sz ka pa kl kf pl pf A_ka A_pa (by omega) (by omega)) K W (hw _ (List.mem_of_getElem? (i := 5) rfl)) (hw _ (List.mem_of_getElem? (i := 6) rfl)) (hw _ (List.mem_of_getElem? (i := 7) rfl)) (hw _ (List.mem_of_getElem? (i := 8) rfl)) (by decide) (lenOf pd_4 rfl) at_213 (pc' := 216) rfl (argsL := [(.ref ka), (.ref pa)]) (rest := []) rfl rfl (by decide) (wt := 0) rfl (by decide) (by decide) (by decide) ?_
                    rintro T _ _ W (⟨-, -, hz⟩ | ⟨rfl, rfl, hz⟩)
                    · have hj : 1 < pl := (by have q := (not_congr (own_lt (by omega) (by decide))).mp (epl ▸ hc166 : ¬ Int32.ofNat pl < Int32.ofNat 2); omega)
                      have hj' : 1 < kl := by have := hz.1; omega
                      exact absurd (hk1.symm.trans ((Hkf 1 hj').symm.trans ((hz.2 1 hj).trans ((Hpf 1 hj).trans hJ_qp1)))) hc173
                    · show Go p e below s n0 (Q_c0 Z n0 h0 xs x1 x2 x3) 16 128 T (mkF m 216 #[.val (.int xs), .val (.int x1), .val (.int x2), .val (.int x3), .val (.int v6), .val (.int v16), .val (.int v20), .val (.int v27), .val (.int v34), .val (.int v41), .val (.int qp0), .val (.int qp1), .val (.int qp2), .val (.int qp3), .val (.ref ka), .val (.ref pa), .val (.int (0 : Int32))] [(.int (0 : Int32))])
                      refine g_iload K W at_216 rfl (pc' := 218) rfl ?_
                      refine g_icmp_ne K W at_218 (pt := 225) rfl (pf := 221) rfl (fun hc218 => ?_) (fun hc218 => absurd rfl hc218)
                      refine g_iconst K W (v := (1 : Int32)) at_221 rfl (pc' := 222) rfl ?_
                      refine g_goto K W at_222 (pt := 226) rfl ?_
                      exact g_retN K W (by simp) at_226 (by decide) (by decide) (v := (1 : Int32)) rfl rfl
              · refine g_iconst K W (v := (0 : Int32)) at_206 rfl (pc' := 207) rfl ?_
                refine g_istore K W at_207 (Ls' := #[.val (.int xs), .val (.int x1), .val (.int x2), .val (.int x3), .val (.int v6), .val (.int v16), .val (.int v20), .val (.int v27), .val (.int v34), .val (.int v41), .val (.int qp0), .val (.int qp1), .val (.int qp2), .val (.int qp3), .val (.ref ka), .val (.ref pa), .val (.int (0 : Int32))]) rfl (pc' := 209) rfl ?_
                refine g_aload K W at_209 rfl rfl (pc' := 211) rfl ?_
                refine g_aload K W at_211 rfl rfl (pc' := 213) rfl ?_
                refine g_callS (c2 l Z a0 hw n0 _ W.sz ka pa kl kf pl pf A_ka A_pa (by omega) (by omega)) K W (hw _ (List.mem_of_getElem? (i := 5) rfl)) (hw _ (List.mem_of_getElem? (i := 6) rfl)) (hw _ (List.mem_of_getElem? (i := 7) rfl)) (hw _ (List.mem_of_getElem? (i := 8) rfl)) (by decide) (lenOf pd_4 rfl) at_213 (pc' := 216) rfl (argsL := [(.ref ka), (.ref pa)]) (rest := []) rfl rfl (by decide) (wt := 0) rfl (by decide) (by decide) (by decide) ?_
                rintro T _ _ W (⟨-, -, hz⟩ | ⟨rfl, rfl, hz⟩)
                · have hj : 0 < pl := (by have q := (not_congr (own_lt (by omega) (by decide))).mp (epl ▸ hc153 : ¬ Int32.ofNat pl < Int32.ofNat 1); omega)
                  have hj' : 0 < kl := by have := hz.1; omega
                  exact absurd (hk0.symm.trans ((Hkf 0 hj').symm.trans ((hz.2 0 hj).trans ((Hpf 0 hj).trans hJ_qp0)))) hc160
                · show Go p e below s n0 (Q_c0 Z n0 h0 xs x1 x2 x3) 16 128 T (mkF m 216 #[.val (.int xs), .val (.int x1), .val (.int x2), .val (.int x3), .val (.int v6), .val (.int v16), .val (.int v20), .val (.int v27), .val (.int v34), .val (.int v41), .val (.int qp0), .val (.int qp1), .val (.int qp2), .val (.int qp3), .val (.ref ka), .val (.ref pa), .val (.int (0 : Int32))] [(.int (0 : Int32))])
                  refine g_iload K W at_216 rfl (pc' := 218) rfl ?_
                  refine g_icmp_ne K W at_218 (pt := 225) rfl (pf := 221) rfl (fun hc218 => ?_) (fun hc218 => absurd rfl hc218)
                  refine g_iconst K W (v := (1 : Int32)) at_221 rfl (pc' := 222) rfl ?_
                  refine g_goto K W at_222 (pt := 226) rfl ?_
                  exact g_retN K W (by simp) at_226 (by decide) (by decide) (v := (1 : Int32)) rfl rfl
        refine g_if_eq K W at_98 (pt := 106) rfl (pf := 101) rfl (fun hc98 => ?_) (fun hc98 => ?_)
        · refine g_iloadN K W at_106 rfl (pc' := 107) rfl ?_
          refine g_bipush K W (v := (24 : Int32)) at_107 rfl (pc' := 109) rfl ?_
          refine g_iushr K W at_109 (pc' := 110) rfl ?_
          refine g_i2b K W at_110 (pc' := 111) rfl ?_
          exact hJ _ (own_byte _)
        · refine g_iload K W at_101 rfl (pc' := 103) rfl ?_
          refine g_goto K W at_103 (pt := 111) rfl ?_
          exact hJ _ hk3
      refine g_if_eq K W at_79 (pt := 87) rfl (pf := 82) rfl (fun hc79 => ?_) (fun hc79 => ?_)
      · refine g_iloadN K W at_87 rfl (pc' := 88) rfl ?_
        refine g_bipush K W (v := (16 : Int32)) at_88 rfl (pc' := 90) rfl ?_
        refine g_iushr K W at_90 (pc' := 91) rfl ?_
        refine g_i2b K W at_91 (pc' := 92) rfl ?_
        exact hJ _ (own_byte _)
      · refine g_iload K W at_82 rfl (pc' := 84) rfl ?_
        refine g_goto K W at_84 (pt := 92) rfl ?_
        exact hJ _ hk2
    refine g_if_eq K W at_61 (pt := 69) rfl (pf := 64) rfl (fun hc61 => ?_) (fun hc61 => ?_)
    · refine g_iloadN K W at_69 rfl (pc' := 70) rfl ?_
      refine g_bipush K W (v := (8 : Int32)) at_70 rfl (pc' := 72) rfl ?_
      refine g_iushr K W at_72 (pc' := 73) rfl ?_
      refine g_i2b K W at_73 (pc' := 74) rfl ?_
      exact hJ _ (own_byte _)
    · refine g_iload K W at_64 rfl (pc' := 66) rfl ?_
      refine g_goto K W at_66 (pt := 74) rfl ?_
      exact hJ _ hk1
  refine g_if_eq K W at_46 (pt := 54) rfl (pf := 49) rfl (fun hc46 => ?_) (fun hc46 => ?_)
  · refine g_iloadN K W at_54 rfl (pc' := 55) rfl ?_
    refine g_i2b K W at_55 (pc' := 56) rfl ?_
    exact hJ _ (own_byte _)
  · refine g_iload K W at_49 rfl (pc' := 51) rfl ?_
    refine g_goto K W at_51 (pt := 56) rfl ?_
    exact hJ _ hk0
set_option maxHeartbeats 40000000 in
theorem comes_1 {Post : Tables → Env → Array Value → State → Outcome → State → Prop} (hpost : ∀ tb e args s v u, (limb_1_1.after args s (.returned v) u = true ∧ limb_1_2.after args s (.returned v) u = true ∧ True) → FrameEnd s (.returned v) u (Jvm.fieldLocs frame_1_writes args s ++ Jvm.arrayLocs frame_1_arrays args s ++ Jvm.staticLocs frame_1_statics s) 16 128 → Post tb e args s (.returned v) u) :
    ArmFor flags0 classFile x code maxLocals ret World_1 tables_1 room_1 Calls_1 rest_1 Pre_1 Post := by
  intro l hfl _ _ p e ha hc hk s m args below hf hA hF happ hP
  obtain ⟨hcalls, hrest, hpre⟩ := hP
  obtain ⟨-, -, -, hnamed, -, -, -, hat⟩ := (Spec.applies_iff hf).mp happ
  obtain ⟨hg, hn⟩ := and_e (Cond.before_iff.mp (show (Jvm.Cond.and given_1 narrow_1).before args s = true from hpre))
  obtain ⟨hcnt, hg⟩ := and_e hg
  obtain ⟨hi0, hg⟩ := and_e hg
  obtain ⟨hi1, hg⟩ := and_e hg
  obtain ⟨hi2, hg⟩ := and_e hg
  have hi3 := hg
  obtain ⟨w0, w1, w2, w3, rfl⟩ : ∃ w0 w1 w2 w3 : Value, args = #[w0, w1, w2, w3] := by
    have hs : args.size = 4 := by simpa [Cond.value, given_1] using hcnt
    obtain ⟨L⟩ := args
    match L, hs with
    | [w0, w1, w2, w3], _ => exact ⟨w0, w1, w2, w3, rfl⟩
  have hw := fun d (hd : d ∈ tables_1) => atoms_spec (ws := Jvm.Cond.code x code maxLocals ret :: tables_1) hat d (List.mem_cons_of_mem _ hd)
  obtain ⟨i0, ei0⟩ := is_v hi0
  obtain rfl : w0 = (.int i0) := Option.some.inj ei0
  obtain ⟨i1, ei1⟩ := is_v hi1
  obtain rfl : w1 = (.int i1) := Option.some.inj ei1
  obtain ⟨i2, ei2⟩ := is_v hi2
  obtain rfl : w2 = (.int i2) := Option.some.inj ei2
  obtain ⟨i3, ei3⟩ := is_v hi3
  obtain rfl : w3 = (.int i3) := Option.some.inj ei3
  obtain ⟨n, o, h1, h2, h3, v, L, rfl, ⟨hv, N⟩, hq⟩ := c0 l s _ hw s.heap.size s.heap (Nat.le_refl _) i0 i1 i2 i3 tables_1 p e ha hc hk s m _ below hf ((Spec.applies_iff_loose hf).mp happ).1 ⟨rfl, State.Warmed39.refl s, rfl⟩ trivial
  obtain rfl : v = some (.int 1) := hv
  refine ⟨n, _, h1, h2, h3, hpost _ _ _ _ _ _ ⟨Cond.after_iff.mpr rfl, Cond.after_iff.mpr (eq_i res_at (Term.int_eval (1)) rfl), trivial⟩ ⟨hq.1, hq.2.1, (hq.2.2.sift fun y hy => Or.inr (N y hy)).mono (by decide) (by decide)⟩⟩
theorem main_1_1 : Claimed_1_1 := comes_1 fun _ _ _ _ _ _ h hF => ⟨h.1, hF⟩
theorem main_1_2 : Claimed_1_2 := comes_1 fun _ _ _ _ _ _ h hF => ⟨h.2.1, hF⟩
end Jvm.Pilot.@@N@@
namespace Jvm.Pilot.@@N@@
open Jvm Jvm.ClassFile Sem Op Lib Jvm.Free Jvm.Stand Jvm.Pilot.@@N@@.Jvm.D
/-! MADE BY PROGRAM (witnessworld.py) out of the Statement's table words and the real class files: 11 classes; the members and pool entries that the words name. The judged class is class 1, her method 2. -/
namespace start1
open Jvm.ClassFile
def u (s : String) : CpInfo := .utf8 (stringToUtf16 s)
/-- a pool by its gaps: so many unusable entries, then the entry; so many at the end -/
def gap : Nat → List CpInfo → List CpInfo
  | 0, r => r
  | n + 1, r => .unusable :: gap n r
def poolList (es : List (Nat × CpInfo)) (last : Nat) : List CpInfo := es.foldr (fun e r => gap e.1 (e.2 :: r)) (gap last [])
def pool (es : List (Nat × CpInfo)) (last : Nat) : Array CpInfo := ⟨poolList es last⟩
def fileOf (pool : Array CpInfo) (this : Nat) (attrs : Array Attribute := #[]) (ms : Array MethodInfo := #[]) (fl : Nat := 33) (sup : Nat := 0) (ifs : Array Nat := #[]) (fds : Array FieldInfo := #[]) : ClassFile where
  minorVersion := 0
  majorVersion := 65
  constantPool := pool
  accessFlags := fl
  thisClass := this
  superClass := sup
  interfaces := ifs
  fields := fds
  methods := ms
  attributes := attrs
def plain (name : String) (sup : Option ClassId) : Class where
  name := name
  kind := .ordinary
  loader := none
  accessFlags := 33
  super := sup
  interfaces := #[]
  cf := none
  fields := #[]
  methods := #[]
  instanceTypes := #[]
  staticTypes := #[]
  resolved := #[]
  callSites := []
  init := .initialized
  statics := none
  mirror := none

def pool0 : Array CpInfo := pool [(5, u "<init>"), (0, u "()V"), (1, .class_ 10), (1, u "java/lang/Object")] 113

def k0m0 : Method := { name := "<init>", desc := "()V", sig := { parameters := [], returnType := none }, accessFlags := 1, code := none }
/-- java/lang/Object -/
def k0 : Class := { plain "java/lang/Object" none with
  accessFlags := 33
  interfaces := #[]
  cf := some (fileOf pool0 8 #[] #[{ accessFlags := 1, nameIndex := 5, descriptorIndex := 6, attributes := #[] }] 33 0 #[] #[])
  fields := #[]
  methods := #[k0m0]
  instanceTypes := #[]
  staticTypes := #[]
  resolved := Array.replicate 124 none
  statics := none }

def pool1 : Array CpInfo := pool [(2, .class_ 4), (1, u "java/lang/Object"), (0, u "<init>"), (0, u "()V"), (0, .methodref 8 9), (0, .class_ 10), (0, .nameAndType 11 12), (0, u "com/example/bowerbird/bowerbird/store/CodecStartsWithPinLaw"), (0, u "bytes"), (0, u "(IBBBB)[B"), (0, .methodref 14 15), (0, .class_ 16), (0, .nameAndType 17 18), (0, u "com/example/bowerbird/bowerbird/store/Codec"), (0, u "startsWith"), (0, u "([B[B)Z"), (5, u "law"), (0, u "(IIII)Z")] 2

def k1m0 : Method := { name := "<init>", desc := "()V", sig := { parameters := [], returnType := none }, accessFlags := 1, code := none }
def k1c1 : Code := { maxStack := 3, maxLocals := 6, code := method_2_code, exceptionTable := #[], attributes := #[] }
def k1m1 : Method := { name := "bytes", desc := "(IBBBB)[B", sig := { parameters := [.int, .byte, .byte, .byte, .byte], returnType := some (.array .byte) }, accessFlags := 10, code := some k1c1 }
def k1c2 : Code := { maxStack := 5, maxLocals := 17, code := code, exceptionTable := #[], attributes := #[] }
def k1m2 : Method := { name := "law", desc := "(IIII)Z", sig := { parameters := [.int, .int, .int, .int], returnType := some .boolean }, accessFlags := 9, code := some k1c2 }
/-- com/example/bowerbird/bowerbird/store/CodecStartsWithPinLaw -/
def k1 : Class := { plain "com/example/bowerbird/bowerbird/store/CodecStartsWithPinLaw" (some 0) with
  accessFlags := 49
  interfaces := #[]
  cf := some (fileOf pool1 8 #[] #[{ accessFlags := 1, nameIndex := 5, descriptorIndex := 6, attributes := #[] }, { accessFlags := 10, nameIndex := 11, descriptorIndex := 12, attributes := #[] }, { accessFlags := 9, nameIndex := 24, descriptorIndex := 25, attributes := #[] }] 49 2 #[] #[])
  fields := #[]
  methods := #[k1m0, k1m1, k1m2]
  instanceTypes := #[]
  staticTypes := #[]
  resolved := Array.replicate 28 none
  statics := none }

def pool2 : Array CpInfo := pool [(2, .class_ 4), (1, u "java/lang/Object"), (0, u "<init>"), (0, u "()V"), (32, .class_ 41), (1, u "com/example/bowerbird/bowerbird/store/Codec"), (2, .methodref 45 46), (0, .class_ 47), (0, .nameAndType 48 49), (0, u "java/util/Arrays"), (0, u "equals"), (0, u "([BII[BII)Z"), (221, u "startsWith"), (0, u "([B[B)Z")] 36

def k2m0 : Method := { name := "<init>", desc := "()V", sig := { parameters := [], returnType := none }, accessFlags := 2, code := none }
def k2c1 : Code := { maxStack := 6, maxLocals := 2, code := prog_57_method_7_code, exceptionTable := #[], attributes := #[] }
def k2m1 : Method := { name := "startsWith", desc := "([B[B)Z", sig := { parameters := [(.array .byte), (.array .byte)], returnType := some .boolean }, accessFlags := 8, code := some k2c1 }
/-- com/example/bowerbird/bowerbird/store/Codec -/
def k2 : Class := { plain "com/example/bowerbird/bowerbird/store/Codec" (some 0) with
  accessFlags := 32
  interfaces := #[]
  cf := some (fileOf pool2 39 #[] #[{ accessFlags := 2, nameIndex := 5, descriptorIndex := 6, attributes := #[] }, { accessFlags := 8, nameIndex := 271, descriptorIndex := 272, attributes := #[] }] 32 2 #[] #[])
  fields := #[]
  methods := #[k2m0, k2m1]
  instanceTypes := #[]
  staticTypes := #[]
  resolved := Array.replicate 309 none
  statics := none }

def pool3 : Array CpInfo := pool [(2, .class_ 4), (1, u "java/lang/Object"), (0, u "<init>"), (0, u "()V"), (6, .methodref 14 15), (0, .class_ 16), (0, .nameAndType 17 18), (0, u "java/util/Arrays"), (0, u "rangeCheck"), (0, u "(III)V"), (55, .class_ 76), (1, u "java/util/Arrays$NaturalOrder"), (36, .class_ 115), (1, u "java/util/Arrays$LegacyMergeSort"), (1, u "Z"), (128, .class_ 248), (1, u "jdk/internal/util/ArraysSupport"), (0, u "mismatch"), (25, .methodref 246 276), (0, .nameAndType 249 277), (0, u "([BI[BII)I"), (20, u "equals"), (76, .class_ 376), (0, u "java/util/Arrays$ArrayList"), (68, u "$assertionsDisabled"), (269, u "MIN_ARRAY_SORT_GRAN"), (0, u "I"), (2, u "INSERTIONSORT_THRESHOLD"), (111, u "([BII[BII)Z"), (143, .class_ 976), (0, u "java/util/Arrays$ArrayItr")] 52

def k3m0 : Method := { name := "<init>", desc := "()V", sig := { parameters := [], returnType := none }, accessFlags := 2, code := none }
def k3c1 : Code := { maxStack := 4, maxLocals := 3, code := jdk_65_method_30_code, exceptionTable := #[], attributes := #[] }
def k3m1 : Method := { name := "rangeCheck", desc := "(III)V", sig := { parameters := [.int, .int, .int], returnType := none }, accessFlags := 8, code := some k3c1 }
def k3c2 : Code := { maxStack := 5, maxLocals := 8, code := jdk_65_method_90_code, exceptionTable := #[], attributes := #[] }
def k3m2 : Method := { name := "equals", desc := "([BII[BII)Z", sig := { parameters := [(.array .byte), .int, .int, (.array .byte), .int, .int], returnType := some .boolean }, accessFlags := 9, code := some k3c2 }
/-- java/util/Arrays -/
def k3 : Class := { plain "java/util/Arrays" (some 0) with
  accessFlags := 49
  interfaces := #[]
  cf := some (fileOf pool3 14 #[.nestMembers #[975, 375, 113, 74]] #[{ accessFlags := 2, nameIndex := 5, descriptorIndex := 6, attributes := #[] }, { accessFlags := 8, nameIndex := 17, descriptorIndex := 18, attributes := #[] }, { accessFlags := 9, nameIndex := 298, descriptorIndex := 831, attributes := #[] }] 49 2 #[] #[{ accessFlags := 26, nameIndex := 715, descriptorIndex := 716, attributes := #[] }, { accessFlags := 26, nameIndex := 719, descriptorIndex := 716, attributes := #[] }, { accessFlags := 4120, nameIndex := 445, descriptorIndex := 117, attributes := #[] }])
  fields := #[{ name := "MIN_ARRAY_SORT_GRAN", type := .int, accessFlags := 26, slot := 0, constantValue := 0 }, { name := "INSERTIONSORT_THRESHOLD", type := .int, accessFlags := 26, slot := 1, constantValue := 0 }, { name := "$assertionsDisabled", type := .boolean, accessFlags := 4120, slot := 2, constantValue := 0 }]
  methods := #[k3m0, k3m1, k3m2]
  instanceTypes := #[]
  staticTypes := #[.int, .int, .boolean]
  resolved := Array.replicate 1029 none
  statics := none }

def pool4 : Array CpInfo := pool [(9, u "<init>"), (6, .class_ 18), (1, u "java/lang/Object"), (0, u "()V"), (1, .class_ 23), (1, u "jdk/internal/util/ArraysSupport"), (0, u "LOG2_ARRAY_LONG_INDEX_SCALE"), (0, u "I"), (2, u "U"), (0, u "Ljdk/internal/misc/Unsafe;"), (8, u "BIG_ENDIAN"), (0, u "Z"), (8, u "LOG2_BYTE_BIT_SIZE"), (4, u "LOG2_ARRAY_INT_INDEX_SCALE"), (54, u "JLA"), (0, u "Ljdk/internal/access/JavaLangAccess;"), (11, u "LOG2_ARRAY_BOOLEAN_INDEX_SCALE"), (9, u "LOG2_ARRAY_BYTE_INDEX_SCALE"), (5, u "LOG2_ARRAY_CHAR_INDEX_SCALE"), (5, u "LOG2_ARRAY_SHORT_INDEX_SCALE"), (5, u "mismatch"), (12, u "LOG2_ARRAY_FLOAT_INDEX_SCALE"), (24, u "LOG2_ARRAY_DOUBLE_INDEX_SCALE"), (89, u "T_BOOLEAN"), (2, u "T_CHAR"), (1, u "T_FLOAT"), (1, u "T_DOUBLE"), (1, u "T_BYTE"), (1, u "T_SHORT"), (1, u "T_INT"), (1, u "T_LONG"), (1, u "SOFT_MAX_ARRAY_LENGTH"), (42, u "([BI[BII)I")] 40

def k4m0 : Method := { name := "<init>", desc := "()V", sig := { parameters := [], returnType := none }, accessFlags := 2, code := none }
def k4c1 : Code := { maxStack := 8, maxLocals := 8, code := jdk_48_method_14_code, exceptionTable := #[], attributes := #[] }
def k4m1 : Method := { name := "mismatch", desc := "([BI[BII)I", sig := { parameters := [(.array .byte), .int, (.array .byte), .int, .int], returnType := some .int }, accessFlags := 9, code := some k4c1 }
/-- jdk/internal/util/ArraysSupport -/
def k4 : Class := { plain "jdk/internal/util/ArraysSupport" (some 0) with
  accessFlags := 33
  interfaces := #[]
  cf := some (fileOf pool4 21 #[] #[{ accessFlags := 2, nameIndex := 9, descriptorIndex := 19, attributes := #[] }, { accessFlags := 9, nameIndex := 149, descriptorIndex := 337, attributes := #[] }] 33 16 #[] #[{ accessFlags := 24, nameIndex := 28, descriptorIndex := 29, attributes := #[] }, { accessFlags := 26, nameIndex := 38, descriptorIndex := 39, attributes := #[] }, { accessFlags := 25, nameIndex := 121, descriptorIndex := 25, attributes := #[] }, { accessFlags := 25, nameIndex := 131, descriptorIndex := 25, attributes := #[] }, { accessFlags := 25, nameIndex := 137, descriptorIndex := 25, attributes := #[] }, { accessFlags := 25, nameIndex := 143, descriptorIndex := 25, attributes := #[] }, { accessFlags := 25, nameIndex := 53, descriptorIndex := 25, attributes := #[] }, { accessFlags := 25, nameIndex := 24, descriptorIndex := 25, attributes := #[] }, { accessFlags := 25, nameIndex := 162, descriptorIndex := 25, attributes := #[] }, { accessFlags := 25, nameIndex := 187, descriptorIndex := 25, attributes := #[] }, { accessFlags := 26, nameIndex := 48, descriptorIndex := 25, attributes := #[] }, { accessFlags := 25, nameIndex := 277, descriptorIndex := 25, attributes := #[] }, { accessFlags := 25, nameIndex := 280, descriptorIndex := 25, attributes := #[] }, { accessFlags := 25, nameIndex := 282, descriptorIndex := 25, attributes := #[] }, { accessFlags := 25, nameIndex := 284, descriptorIndex := 25, attributes := #[] }, { accessFlags := 25, nameIndex := 286, descriptorIndex := 25, attributes := #[] }, { accessFlags := 25, nameIndex := 288, descriptorIndex := 25, attributes := #[] }, { accessFlags := 25, nameIndex := 290, descriptorIndex := 25, attributes := #[] }, { accessFlags := 25, nameIndex := 292, descriptorIndex := 25, attributes := #[] }, { accessFlags := 26, nameIndex := 108, descriptorIndex := 109, attributes := #[] }, { accessFlags := 25, nameIndex := 294, descriptorIndex := 25, attributes := #[] }])
  fields := #[{ name := "U", type := (.object "jdk/internal/misc/Unsafe"), accessFlags := 24, slot := 0, constantValue := 0 }, { name := "BIG_ENDIAN", type := .boolean, accessFlags := 26, slot := 1, constantValue := 0 }, { name := "LOG2_ARRAY_BOOLEAN_INDEX_SCALE", type := .int, accessFlags := 25, slot := 2, constantValue := 0 }, { name := "LOG2_ARRAY_BYTE_INDEX_SCALE", type := .int, accessFlags := 25, slot := 3, constantValue := 0 }, { name := "LOG2_ARRAY_CHAR_INDEX_SCALE", type := .int, accessFlags := 25, slot := 4, constantValue := 0 }, { name := "LOG2_ARRAY_SHORT_INDEX_SCALE", type := .int, accessFlags := 25, slot := 5, constantValue := 0 }, { name := "LOG2_ARRAY_INT_INDEX_SCALE", type := .int, accessFlags := 25, slot := 6, constantValue := 0 }, { name := "LOG2_ARRAY_LONG_INDEX_SCALE", type := .int, accessFlags := 25, slot := 7, constantValue := 0 }, { name := "LOG2_ARRAY_FLOAT_INDEX_SCALE", type := .int, accessFlags := 25, slot := 8, constantValue := 0 }, { name := "LOG2_ARRAY_DOUBLE_INDEX_SCALE", type := .int, accessFlags := 25, slot := 9, constantValue := 0 }, { name := "LOG2_BYTE_BIT_SIZE", type := .int, accessFlags := 26, slot := 10, constantValue := 0 }, { name := "T_BOOLEAN", type := .int, accessFlags := 25, slot := 11, constantValue := 0 }, { name := "T_CHAR", type := .int, accessFlags := 25, slot := 12, constantValue := 0 }, { name := "T_FLOAT", type := .int, accessFlags := 25, slot := 13, constantValue := 0 }, { name := "T_DOUBLE", type := .int, accessFlags := 25, slot := 14, constantValue := 0 }, { name := "T_BYTE", type := .int, accessFlags := 25, slot := 15, constantValue := 0 }, { name := "T_SHORT", type := .int, accessFlags := 25, slot := 16, constantValue := 0 }, { name := "T_INT", type := .int, accessFlags := 25, slot := 17, constantValue := 0 }, { name := "T_LONG", type := .int, accessFlags := 25, slot := 18, constantValue := 0 }, { name := "JLA", type := (.object "jdk/internal/access/JavaLangAccess"), accessFlags := 26, slot := 19, constantValue := 0 }, { name := "SOFT_MAX_ARRAY_LENGTH", type := .int, accessFlags := 25, slot := 20, constantValue := 0 }]
  methods := #[k4m0, k4m1]
  instanceTypes := #[]
  staticTypes := #[(.object "jdk/internal/misc/Unsafe"), .boolean, .int, .int, .int, .int, .int, .int, .int, .int, .int, .int, .int, .int, .int, .int, .int, .int, .int, (.object "jdk/internal/access/JavaLangAccess"), .int]
  resolved := Array.replicate 378 none
  statics := none }

def pool5 : Array CpInfo := pool [(1, u "java/lang/Cloneable"), (0, .class_ 1), (0, u "java/lang/Object"), (0, .class_ 3)] 3

/-- java/lang/Cloneable -/
def k5 : Class := { plain "java/lang/Cloneable" (some 0) with
  accessFlags := 1537
  interfaces := #[]
  cf := some (fileOf pool5 2 #[] #[] 1537 4 #[] #[])
  fields := #[]
  methods := #[]
  instanceTypes := #[]
  staticTypes := #[]
  resolved := Array.replicate 8 none
  statics := none }

def pool6 : Array CpInfo := pool [(1, u "java/io/Serializable"), (0, .class_ 1), (0, u "java/lang/Object"), (0, .class_ 3)] 3

/-- java/io/Serializable -/
def k6 : Class := { plain "java/io/Serializable" (some 0) with
  accessFlags := 1537
  interfaces := #[]
  cf := some (fileOf pool6 2 #[] #[] 1537 4 #[] #[])
  fields := #[]
  methods := #[]
  instanceTypes := #[]
  staticTypes := #[]
  resolved := Array.replicate 8 none
  statics := none }

/-- the primitive byte -/
def k7 : Class := { plain "byte" none with kind := .primitive 'B', accessFlags := 0x411 }
/-- [B -/
def k8 : Class := { plain "[B" (some 0) with kind := .array 7 .byte, interfaces := #[5, 6], accessFlags := 1041 }

/-- the primitive int -/
def k9 : Class := { plain "int" none with kind := .primitive 'I', accessFlags := 0x411 }
/-- [I -/
def k10 : Class := { plain "[I" (some 0) with kind := .array 9 .int, interfaces := #[5, 6], accessFlags := 1041 }

def heap : Heap := #[]
def classes : Array Class := #[k0, k1, k2, k3, k4, k5, k6, k7, k8, k9, k10]
def interned : List (Array UInt16 × Addr) := []
def slotsUsed : Nat := 0
def theMethod : MethodId := ⟨1, 2⟩
def args0 : Array Value := #[.int 3, .int 0, .int 7, .int 0]
def aboutOver (below : List Frame) : State where
  vm := { classes := classes, interned := interned.toArray }
  heap := heap
  slotsUsed := slotsUsed
  threads := #[{ frames := .invoking theMethod args0 :: below }]
def below0 : List Frame := [.native { method := ⟨0, 0⟩, args := #[] }]
def about1 : State := aboutOver below0
def p0 : Program := .bare "" "" ""
def e0 : Env := launch0.env 0 0 0
theorem w_frames : about1.frames = Frame.invoking theMethod args0 :: below0 := rfl
set_option maxRecDepth 65536 in
theorem w_args : argsFit about1.vm theMethod args0 = true := by decide +kernel
set_option maxRecDepth 65536 in
theorem w_heap : heapFits about1 = true := by decide +kernel
set_option maxRecDepth 65536 in
theorem w_runnable : about1.curStatus? = some .runnable := by decide +kernel
set_option maxRecDepth 65536 in
theorem w_alone : about1.alone = true := by decide +kernel
set_option maxRecDepth 65536 in
theorem w_named : about1.methodNamed? x = some theMethod := by decide +kernel
set_option maxRecDepth 65536 in
theorem w_hears : about1.hears theMethod below0 = true := by decide +kernel
set_option maxRecDepth 65536 in
theorem w_ripe : about1.ripe theMethod args0 below0 = true := by decide +kernel
theorem w_running : about1.status = .running := rfl
set_option maxRecDepth 65536 in
theorem w_room : about1.hasRoom e0.platform room_1 = true :=
  launch0.hasRoom_least _ room_1 (by decide +kernel) (by decide +kernel) (by decide +kernel) (by decide +kernel) (by decide +kernel) (by decide +kernel)
theorem allAtoms_all (ts : List Jvm.Cond) (a : Array Jvm.Value) (st : Jvm.State) : (allAtoms ts).before a st = ts.all (fun c => c.before a st) := by
  induction ts with
  | nil => rfl
  | cons c t ih =>
    show (Jvm.Cond.and c (allAtoms t)).before a st = _
    rw [Jvm.Cond.before_and, ih, List.all_cons]
def words1 : List Jvm.Cond := Jvm.Cond.code x code maxLocals ret :: tables_1
/-- a 'code' word, met by the world's own term for the bytes: nothing is compared byte by byte -/
theorem code_word {y : MethodName} {bytes : ByteArray} {mx : Nat} {rt : Option FieldType} {a : Array Value} {s : State} {m : MethodId} {meth : Method} {c : Code} (h1 : s.methodNamed? y = some m) (h2 : s.vm.method? m = some meth) (h3 : meth.code = some c) (h4 : c.code = bytes)
    (h5 : (c.maxLocals == mx && c.exceptionTable.isEmpty && decide (c.maxStack ≤ mostOperands) && decide (meth.sig.returnType = rt) && !meth.locks && decide (parseMethodDescriptor y.desc = some meth.sig)) = true) : (Jvm.Cond.code y bytes mx rt).before a s = true := by
  simp only [Bool.and_eq_true, beq_iff_eq, Bool.not_eq_true', decide_eq_true_eq] at h5
  obtain ⟨⟨⟨⟨⟨g1, g2⟩, g3⟩, g4⟩, g5⟩, g6⟩ := h5
  simp [Cond.before, Cond.holds, Cond.value, h1, h2, h3, h4, g1, g2, g3, g4, g5, g6]
def isCode : Jvm.Cond → Bool
  | .code _ _ _ _ => true
  | _ => false
theorem all_split {L : List Jvm.Cond} {P : Jvm.Cond → Bool} (h1 : L.all (fun c => isCode c || P c) = true) (h2 : ∀ c ∈ L.filter isCode, P c = true) : L.all P = true := by
  refine List.all_eq_true.mpr fun c hc => ?_
  have h := List.all_eq_true.mp h1 c hc
  rcases Bool.eq_false_or_eq_true (isCode c) with hi | hi
  · exact h2 c (List.mem_filter.mpr ⟨hc, hi⟩)
  · simpa [hi] using h
set_option maxRecDepth 65536 in
theorem w_c0 : (Jvm.Cond.code x code maxLocals ret).before args0 about1 = true := code_word (m := ⟨1, 2⟩) (meth := k1m2) (c := k1c2) (by decide +kernel) rfl rfl rfl (by decide +kernel)
set_option maxRecDepth 65536 in
theorem w_c1 : (Jvm.Cond.code ({ cls := "com/example/bowerbird/bowerbird/store/CodecStartsWithPinLaw", name := "bytes", desc := "(IBBBB)[B" } : Jvm.MethodName) method_2_code (6 : Nat) (Option.some (Jvm.ClassFile.FieldType.array Jvm.ClassFile.FieldType.byte))).before args0 about1 = true := code_word (m := ⟨1, 1⟩) (meth := k1m1) (c := k1c1) (by decide +kernel) rfl rfl rfl (by decide +kernel)
set_option maxRecDepth 65536 in
theorem w_c2 : (Jvm.Cond.code ({ cls := "com/example/bowerbird/bowerbird/store/Codec", name := "startsWith", desc := "([B[B)Z" } : Jvm.MethodName) prog_57_method_7_code (2 : Nat) (Option.some Jvm.ClassFile.FieldType.boolean)).before args0 about1 = true := code_word (m := ⟨2, 1⟩) (meth := k2m1) (c := k2c1) (by decide +kernel) rfl rfl rfl (by decide +kernel)
set_option maxRecDepth 65536 in
theorem w_c3 : (Jvm.Cond.code ({ cls := "java/util/Arrays", name := "equals", desc := "([BII[BII)Z" } : Jvm.MethodName) jdk_65_method_90_code (8 : Nat) (Option.some Jvm.ClassFile.FieldType.boolean)).before args0 about1 = true := code_word (m := ⟨3, 2⟩) (meth := k3m2) (c := k3c2) (by decide +kernel) rfl rfl rfl (by decide +kernel)
set_option maxRecDepth 65536 in
theorem w_c4 : (Jvm.Cond.code ({ cls := "java/util/Arrays", name := "rangeCheck", desc := "(III)V" } : Jvm.MethodName) jdk_65_method_30_code (3 : Nat) (Option.none : Option Jvm.ClassFile.FieldType)).before args0 about1 = true := code_word (m := ⟨3, 1⟩) (meth := k3m1) (c := k3c1) (by decide +kernel) rfl rfl rfl (by decide +kernel)
set_option maxRecDepth 65536 in
theorem w_c5 : (Jvm.Cond.code ({ cls := "jdk/internal/util/ArraysSupport", name := "mismatch", desc := "([BI[BII)I" } : Jvm.MethodName) jdk_48_method_14_code (8 : Nat) (Option.some Jvm.ClassFile.FieldType.int)).before args0 about1 = true := code_word (m := ⟨4, 1⟩) (meth := k4m1) (c := k4c1) (by decide +kernel) rfl rfl rfl (by decide +kernel)
def codes1 : List Jvm.Cond := [Jvm.Cond.code x code maxLocals ret, Jvm.Cond.code ({ cls := "com/example/bowerbird/bowerbird/store/CodecStartsWithPinLaw", name := "bytes", desc := "(IBBBB)[B" } : Jvm.MethodName) method_2_code (6 : Nat) (Option.some (Jvm.ClassFile.FieldType.array Jvm.ClassFile.FieldType.byte)), Jvm.Cond.code ({ cls := "com/example/bowerbird/bowerbird/store/Codec", name := "startsWith", desc := "([B[B)Z" } : Jvm.MethodName) prog_57_method_7_code (2 : Nat) (Option.some Jvm.ClassFile.FieldType.boolean), Jvm.Cond.code ({ cls := "java/util/Arrays", name := "equals", desc := "([BII[BII)Z" } : Jvm.MethodName) jdk_65_method_90_code (8 : Nat) (Option.some Jvm.ClassFile.FieldType.boolean), Jvm.Cond.code ({ cls := "java/util/Arrays", name := "rangeCheck", desc := "(III)V" } : Jvm.MethodName) jdk_65_method_30_code (3 : Nat) (Option.none : Option Jvm.ClassFile.FieldType), Jvm.Cond.code ({ cls := "jdk/internal/util/ArraysSupport", name := "mismatch", desc := "([BI[BII)I" } : Jvm.MethodName) jdk_48_method_14_code (8 : Nat) (Option.some Jvm.ClassFile.FieldType.int)]
set_option maxRecDepth 65536 in
theorem codes_eq : words1.filter isCode = codes1 := rfl
theorem w_codes : ∀ c ∈ words1.filter isCode, c.before args0 about1 = true := by
  rw [codes_eq]
  intro c hc
  simp only [codes1, List.mem_cons, List.not_mem_nil, or_false] at hc
  rcases hc with rfl | rfl | rfl | rfl | rfl | rfl
  · exact w_c0
  · exact w_c1
  · exact w_c2
  · exact w_c3
  · exact w_c4
  · exact w_c5
set_option maxRecDepth 65536 in
theorem w_t1 : words1.all (fun c => isCode c || c.before args0 about1) = true := by decide +kernel
theorem w_tables : (allAtoms (Jvm.Cond.code x code maxLocals ret :: tables_1)).before args0 about1 = true := by
  rw [allAtoms_all]
  show words1.all (fun c => c.before args0 about1) = true
  refine all_split ?_ w_codes
  rw [w_t1]
set_option maxRecDepth 65536 in
theorem w_case : (Jvm.Cond.and given_1 narrow_1).before args0 about1 = true := by decide +kernel
theorem w_applies : (headSpec (Jvm.Cond.code x code maxLocals ret :: tables_1) room_1).applies x e0.platform about1 = true :=
  (Spec.applies_iff w_frames).mpr ⟨w_running, w_runnable, w_alone, w_named, w_hears, w_ripe, w_room, w_tables⟩
theorem atStart : AtStart classFile x code maxLocals ret World_1 tables_1 room_1 Calls_1 rest_1 Pre_1 launch0 p0 e0 about1 theMethod args0 below0 :=
  ⟨lists_1, trivial, launch0.admits_env _ _ _, launch0.least_env, fairChoices_fair.cas, fairChoices_fair.clock, w_frames, w_args, w_heap, w_applies, trivial, trivial, w_case⟩
end start1
theorem witness_1 : WitnessClaimed_1 := ⟨start1.p0, start1.e0, start1.about1, start1.theMethod, start1.args0, start1.below0, start1.atStart⟩
end Jvm.Pilot.@@N@@
