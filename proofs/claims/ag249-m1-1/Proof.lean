import JvmDerived
import JvmDerived.Pilot.@@N@@Statement
import JvmDerived.Pilot.@@N@@Code
set_option linter.unusedVariables false
set_option linter.unusedSimpArgs false
namespace Jvm.Own
open Sem ClassFile Op Lib Jvm.Stand Jvm.Free Jvm.LawKit Jvm.RoadKit
section Lay
variable {p : Program} {l : Launch} {e : Env} {R : Room} {s : State} {m : MethodId} {args : Array Value} {below : List Frame} {meth : Method} {c : Code} {T T' : State} {cells slots n0 : Nat} {Z : State} {a0 : Array Value} {h h' : Heap} {Rest : State → Outcome → Prop} {pc pc' : Nat} {L L' : Array Slot} {S : List Value} {f f' : JFrame} {bytes : ByteArray} {maxL : Nat} {ret : Option FieldType} {own nme : String}
/-- the run stands here: a Stand whose written places are all new -/
def St (p : Program) (l : Launch) (e : Env) (R : Room) (s : State) (m : MethodId) (args : Array Value) (below : List Frame) (meth : Method) (c : Code) (n0 : Nat) (T : State) (h : Heap) (cells slots : Nat) : Prop := ∃ locs, Stand p l e R s m args below meth c T locs cells slots ∧ Fr n0 locs ∧ T.heap = h
def Cx (p : Program) (s : State) (m : MethodId) (meth : Method) (c : Code) (Z : State) (bytes : ByteArray) (maxL : Nat) (ret : Option FieldType) (own nme : String) : Prop := p.tables.exec = Jvm.exec ∧ c.code = bytes ∧ c.maxLocals = maxL ∧ meth.sig.returnType = ret ∧ meth.locks = false ∧ s.vm.findClass own = some m.cls ∧ meth.name = nme ∧ Z.Warmed39 s.vm
def Go (p : Program) (e : Env) (below : List Frame) (Rest : State → Outcome → Prop) (T : State) (f : JFrame) : Prop := ∃ t o, Steps p.tables e below (T.setTop f) t ∧ Rest t o
theorem go_by (st : ∀ t, Steps p.tables e below (T'.setTop f') t → Steps p.tables e below (T.setTop f) t) (k : Go p e below Rest T' f') : Go p e below Rest T f := by
  obtain ⟨t, o, h1, h2⟩ := k; exact ⟨t, o, st t h1, h2⟩
theorem go_tr (st : Steps p.tables e below (T.setTop f) (T'.setTop f')) (k : Go p e below Rest T' f') : Go p e below Rest T f := by
  obtain ⟨t, o, h1, h2⟩ := k; exact ⟨t, o, st.trans h1, h2⟩
theorem go_cast (q : f = f') (k : Go p e below Rest T f') : Go p e below Rest T f := q ▸ k
abbrev Rs (s : State) (below : List Frame) (n0 : Nat) (Q : Option Value → Heap → Prop) (k n : Nat) : State → Outcome → Prop := fun t o => t.status = .running ∧ Ended t below o ∧ ∃ v L, o = .returned v ∧ (Q v t.heap ∧ Fr n0 L) ∧ FrameEnd s o t L k n
abbrev Ctr (l : Launch) (y : MethodName) (bytes : ByteArray) (maxL : Nat) (ret : Option FieldType) (rm : Room) (Z : State) (n0 : Nat) (as : Array Value) (h : Heap) (Q : Option Value → Heap → Prop) (ws : List Jvm.Cond) : Prop :=
  MetFree l y (head1 (Jvm.Cond.code y bytes maxL ret :: ws) rm) (fun a U => a = as ∧ Z.Warmed39 U.vm ∧ U.heap = h) (fun _ _ _ _ _ => True) (fun _ U o U' => ∃ v L, o = .returned v ∧ (Q v U'.heap ∧ Fr n0 L) ∧ FrameEnd U o U' L rm.cells rm.slots)
theorem ctr_of {y : MethodName} {rm : Room} {as : Array Value} {Q : Option Value → Heap → Prop} {ws : List Jvm.Cond} (hpn : plainFor y = true)
    (body : ∀ p e s m below meth c s₁, St p l e rm s m as below meth c n0 s₁ h 0 0 → Cx p s m meth c Z bytes maxL ret y.cls y.name → Go p e below (Rs s below n0 Q rm.cells rm.slots) s₁ (entryFrame m as maxL)) :
    Ctr l y bytes maxL ret rm Z n0 as h Q ws := by
  refine MetFree.of_bodySF hpn hisR ?_
  intro p e s m args below meth c s₁ Bd hml0 hP hK
  obtain ⟨rfl, hZ, hh⟩ := hP
  have hown := findClass_of_methodNamed Bd.named
  have hnm := (name_of_methodNamed Bd.named Bd.method).1
  have X0 : Stand p l e rm s m args below meth c s₁ [] 0 0 := Stand.of_body Bd
  have e0 : s₁.heap = h := by rw [← hh, Bd.state]; rfl
  obtain ⟨t, o, h1, h2, h3, h4⟩ := body p e s m below meth c s₁ ⟨[], X0, Fr.nil n0, e0⟩ ⟨Bd.exec, Bd.bytes, hml0, Bd.returns, Bd.notSynchronized, hown, hnm, hZ⟩
  exact ⟨t, o, h1, h2, h3, h4⟩
theorem g_iload (X : St p l e R s m args below meth c n0 T h cells slots) (C : Cx p s m meth c Z bytes maxL ret own nme) {k : Nat} {v : Int32} (hd : decode bytes pc = .ok (.iload k, 2)) (hl : L[k]? = some (.val (.int v))) (hp : pc + 2 = pc') (r : Go p e below Rest T (mkF m pc' L (.int v :: S))) : Go p e below Rest T (mkF m pc L S) := by
  obtain ⟨_, X, -, -⟩ := X; obtain ⟨hx, hby, -⟩ := C; subst hp
  exact go_by (fun t k => XS.iload X.here hx rfl (hb hby hd) hl k) r
theorem g_iloadN (X : St p l e R s m args below meth c n0 T h cells slots) (C : Cx p s m meth c Z bytes maxL ret own nme) {k : Fin 4} {v : Int32} (hd : decode bytes pc = .ok (.iload_n k, 1)) (hl : L[k.val]? = some (.val (.int v))) (hp : pc + 1 = pc') (r : Go p e below Rest T (mkF m pc' L (.int v :: S))) : Go p e below Rest T (mkF m pc L S) := by
  obtain ⟨_, X, -, -⟩ := X; obtain ⟨hx, hby, -⟩ := C; subst hp
  exact go_by (fun t k => XS.iloadN X.here hx rfl (hb hby hd) hl k) r
theorem g_istore (X : St p l e R s m args below meth c n0 T h cells slots) (C : Cx p s m meth c Z bytes maxL ret own nme) {k : Nat} {v v' : Int32} (hd : decode bytes pc = .ok (.istore k, 2)) (hv : v' = v) (hl : storeLocals L k (.int v') = some L') (hp : pc + 2 = pc') (r : Go p e below Rest T (mkF m pc' L' S)) : Go p e below Rest T (mkF m pc L (.int v :: S)) := by
  obtain ⟨_, X, -, -⟩ := X; obtain ⟨hx, hby, -⟩ := C; subst hp
  exact go_by (fun t k => XS.istore X.here hx rfl (hb hby hd) rfl (hv ▸ hl) k) r
theorem g_istoreN (X : St p l e R s m args below meth c n0 T h cells slots) (C : Cx p s m meth c Z bytes maxL ret own nme) {k : Fin 4} {v v' : Int32} (hd : decode bytes pc = .ok (.istore_n k, 1)) (hv : v' = v) (hl : storeLocals L k.val (.int v') = some L') (hp : pc + 1 = pc') (r : Go p e below Rest T (mkF m pc' L' S)) : Go p e below Rest T (mkF m pc L (.int v :: S)) := by
  obtain ⟨_, X, -, -⟩ := X; obtain ⟨hx, hby, -⟩ := C; subst hp
  exact go_by (fun t k => XS.istoreN X.here hx rfl (hb hby hd) rfl (hv ▸ hl) k) r
theorem g_lload (X : St p l e R s m args below meth c n0 T h cells slots) (C : Cx p s m meth c Z bytes maxL ret own nme) {k : Nat} {v : Int64} (hd : decode bytes pc = .ok (.lload k, 2)) (hl : L[k]? = some (.val (.long v))) (hp : pc + 2 = pc') (r : Go p e below Rest T (mkF m pc' L (.long v :: S))) : Go p e below Rest T (mkF m pc L S) := by
  obtain ⟨_, X, -, -⟩ := X; obtain ⟨hx, hby, -⟩ := C; subst hp
  exact go_by (fun t k => XS.lload X.here hx rfl (hb hby hd) hl k) r
theorem g_lloadN (X : St p l e R s m args below meth c n0 T h cells slots) (C : Cx p s m meth c Z bytes maxL ret own nme) {k : Fin 4} {v : Int64} (hd : decode bytes pc = .ok (.lload_n k, 1)) (hl : L[k.val]? = some (.val (.long v))) (hp : pc + 1 = pc') (r : Go p e below Rest T (mkF m pc' L (.long v :: S))) : Go p e below Rest T (mkF m pc L S) := by
  obtain ⟨_, X, -, -⟩ := X; obtain ⟨hx, hby, -⟩ := C; subst hp
  exact go_by (fun t k => XS.lloadN X.here hx rfl (hb hby hd) hl k) r
theorem g_lstore (X : St p l e R s m args below meth c n0 T h cells slots) (C : Cx p s m meth c Z bytes maxL ret own nme) {k : Nat} {v v' : Int64} (hd : decode bytes pc = .ok (.lstore k, 2)) (hv : v' = v) (hl : storeLocals L k (.long v') = some L') (hp : pc + 2 = pc') (r : Go p e below Rest T (mkF m pc' L' S)) : Go p e below Rest T (mkF m pc L (.long v :: S)) := by
  obtain ⟨_, X, -, -⟩ := X; obtain ⟨hx, hby, -⟩ := C; subst hp
  exact go_by (fun t k => XS.lstore X.here hx rfl (hb hby hd) rfl (hv ▸ hl) k) r
theorem g_lstoreN (X : St p l e R s m args below meth c n0 T h cells slots) (C : Cx p s m meth c Z bytes maxL ret own nme) {k : Fin 4} {v v' : Int64} (hd : decode bytes pc = .ok (.lstore_n k, 1)) (hv : v' = v) (hl : storeLocals L k.val (.long v') = some L') (hp : pc + 1 = pc') (r : Go p e below Rest T (mkF m pc' L' S)) : Go p e below Rest T (mkF m pc L (.long v :: S)) := by
  obtain ⟨_, X, -, -⟩ := X; obtain ⟨hx, hby, -⟩ := C; subst hp
  exact go_by (fun t k => XS.lstoreN X.here hx rfl (hb hby hd) rfl (hv ▸ hl) k) r
theorem g_aload (X : St p l e R s m args below meth c n0 T h cells slots) (C : Cx p s m meth c Z bytes maxL ret own nme) {k : Nat} {v : Value} (hd : decode bytes pc = .ok (.aload k, 2)) (hl : L[k]? = some (.val v)) (hv : v.isRef = true) (hp : pc + 2 = pc') (r : Go p e below Rest T (mkF m pc' L (v :: S))) : Go p e below Rest T (mkF m pc L S) := by
  obtain ⟨_, X, -, -⟩ := X; obtain ⟨hx, hby, -⟩ := C; subst hp
  exact go_by (fun t k => XS.aload X.here hx rfl (hb hby hd) hl hv k) r
theorem g_aloadN (X : St p l e R s m args below meth c n0 T h cells slots) (C : Cx p s m meth c Z bytes maxL ret own nme) {k : Fin 4} {v : Value} (hd : decode bytes pc = .ok (.aload_n k, 1)) (hl : L[k.val]? = some (.val v)) (hv : v.isRef = true) (hp : pc + 1 = pc') (r : Go p e below Rest T (mkF m pc' L (v :: S))) : Go p e below Rest T (mkF m pc L S) := by
  obtain ⟨_, X, -, -⟩ := X; obtain ⟨hx, hby, -⟩ := C; subst hp
  exact go_by (fun t k => XS.aloadN X.here hx rfl (hb hby hd) hl hv k) r
theorem g_astore (X : St p l e R s m args below meth c n0 T h cells slots) (C : Cx p s m meth c Z bytes maxL ret own nme) {k : Nat} {v : Value} (hd : decode bytes pc = .ok (.astore k, 2)) (hv : v.isRef = true) (hl : storeLocals L k v = some L') (hp : pc + 2 = pc') (r : Go p e below Rest T (mkF m pc' L' S)) : Go p e below Rest T (mkF m pc L (v :: S)) := by
  obtain ⟨_, X, -, -⟩ := X; obtain ⟨hx, hby, -⟩ := C; subst hp
  exact go_by (fun t k => XS.astore X.here hx rfl (hb hby hd) rfl hv hl k) r
theorem g_astoreN (X : St p l e R s m args below meth c n0 T h cells slots) (C : Cx p s m meth c Z bytes maxL ret own nme) {k : Fin 4} {v : Value} (hd : decode bytes pc = .ok (.astore_n k, 1)) (hv : v.isRef = true) (hl : storeLocals L k.val v = some L') (hp : pc + 1 = pc') (r : Go p e below Rest T (mkF m pc' L' S)) : Go p e below Rest T (mkF m pc L (v :: S)) := by
  obtain ⟨_, X, -, -⟩ := X; obtain ⟨hx, hby, -⟩ := C; subst hp
  exact go_by (fun t k => XS.astoreN X.here hx rfl (hb hby hd) rfl hv hl k) r
theorem g_iconst (X : St p l e R s m args below meth c n0 T h cells slots) (C : Cx p s m meth c Z bytes maxL ret own nme) {i : Int} {v : Int32} (hd : decode bytes pc = .ok (.iconst i, 1)) (hv : Int32.ofInt i = v) (hp : pc + 1 = pc') (r : Go p e below Rest T (mkF m pc' L (.int v :: S))) : Go p e below Rest T (mkF m pc L S) := by
  obtain ⟨_, X, -, -⟩ := X; obtain ⟨hx, hby, -⟩ := C; subst hp hv
  exact go_by (fun t k => XS.iconst X.here hx rfl (hb hby hd) k) r
theorem g_bipush (X : St p l e R s m args below meth c n0 T h cells slots) (C : Cx p s m meth c Z bytes maxL ret own nme) {i : Int} {v : Int32} (hd : decode bytes pc = .ok (.bipush i, 2)) (hv : (Int8.ofInt i).toInt32 = v) (hp : pc + 2 = pc') (r : Go p e below Rest T (mkF m pc' L (.int v :: S))) : Go p e below Rest T (mkF m pc L S) := by
  obtain ⟨_, X, -, -⟩ := X; obtain ⟨hx, hby, -⟩ := C; subst hp hv
  exact go_by (fun t k => XS.bipush X.here hx rfl (hb hby hd) k) r
theorem g_sipush (X : St p l e R s m args below meth c n0 T h cells slots) (C : Cx p s m meth c Z bytes maxL ret own nme) {i : Int} {v : Int32} (hd : decode bytes pc = .ok (.sipush i, 3)) (hv : (Int16.ofInt i).toInt32 = v) (hp : pc + 3 = pc') (r : Go p e below Rest T (mkF m pc' L (.int v :: S))) : Go p e below Rest T (mkF m pc L S) := by
  obtain ⟨_, X, -, -⟩ := X; obtain ⟨hx, hby, -⟩ := C; subst hp hv
  exact go_by (fun t k => XS.sipush X.here hx rfl (hb hby hd) k) r
theorem g_lconst (X : St p l e R s m args below meth c n0 T h cells slots) (C : Cx p s m meth c Z bytes maxL ret own nme) {i : Fin 2} {v : Int64} (hd : decode bytes pc = .ok (.lconst i, 1)) (hv : Int64.ofNat i = v) (hp : pc + 1 = pc') (r : Go p e below Rest T (mkF m pc' L (.long v :: S))) : Go p e below Rest T (mkF m pc L S) := by
  obtain ⟨_, X, -, -⟩ := X; obtain ⟨hx, hby, -⟩ := C; subst hp hv
  exact go_by (fun t k => XS.lconst X.here hx rfl (hb hby hd) k) r
theorem g_aconst (X : St p l e R s m args below meth c n0 T h cells slots) (C : Cx p s m meth c Z bytes maxL ret own nme)  (hd : decode bytes pc = .ok (.aconst_null, 1))  (hp : pc + 1 = pc') (r : Go p e below Rest T (mkF m pc' L (.null :: S))) : Go p e below Rest T (mkF m pc L S) := by
  obtain ⟨_, X, -, -⟩ := X; obtain ⟨hx, hby, -⟩ := C; subst hp
  exact go_by (fun t k => XS.aconstNull X.here hx rfl (hb hby hd)  k) r
theorem g_iadd (X : St p l e R s m args below meth c n0 T h cells slots) (C : Cx p s m meth c Z bytes maxL ret own nme) {x y : Int32} (hd : decode bytes pc = .ok (.iadd, 1))  (hp : pc + 1 = pc') (r : Go p e below Rest T (mkF m pc' L (.int (x + y) :: S))) : Go p e below Rest T (mkF m pc L (.int y :: .int x :: S)) := by
  obtain ⟨_, X, -, -⟩ := X; obtain ⟨hx, hby, -⟩ := C; subst hp
  exact go_by (fun t k => XS.iadd X.here hx rfl (hb hby hd) rfl k) r
theorem g_ladd (X : St p l e R s m args below meth c n0 T h cells slots) (C : Cx p s m meth c Z bytes maxL ret own nme) {x y : Int64} (hd : decode bytes pc = .ok (.ladd, 1))  (hp : pc + 1 = pc') (r : Go p e below Rest T (mkF m pc' L (.long (x + y) :: S))) : Go p e below Rest T (mkF m pc L (.long y :: .long x :: S)) := by
  obtain ⟨_, X, -, -⟩ := X; obtain ⟨hx, hby, -⟩ := C; subst hp
  exact go_by (fun t k => XS.ladd X.here hx rfl (hb hby hd) rfl k) r
theorem g_isub (X : St p l e R s m args below meth c n0 T h cells slots) (C : Cx p s m meth c Z bytes maxL ret own nme) {x y : Int32} (hd : decode bytes pc = .ok (.isub, 1))  (hp : pc + 1 = pc') (r : Go p e below Rest T (mkF m pc' L (.int (x - y) :: S))) : Go p e below Rest T (mkF m pc L (.int y :: .int x :: S)) := by
  obtain ⟨_, X, -, -⟩ := X; obtain ⟨hx, hby, -⟩ := C; subst hp
  exact go_by (fun t k => XS.isub X.here hx rfl (hb hby hd) rfl k) r
theorem g_lsub (X : St p l e R s m args below meth c n0 T h cells slots) (C : Cx p s m meth c Z bytes maxL ret own nme) {x y : Int64} (hd : decode bytes pc = .ok (.lsub, 1))  (hp : pc + 1 = pc') (r : Go p e below Rest T (mkF m pc' L (.long (x - y) :: S))) : Go p e below Rest T (mkF m pc L (.long y :: .long x :: S)) := by
  obtain ⟨_, X, -, -⟩ := X; obtain ⟨hx, hby, -⟩ := C; subst hp
  exact go_by (fun t k => XS.lsub X.here hx rfl (hb hby hd) rfl k) r
theorem g_imul (X : St p l e R s m args below meth c n0 T h cells slots) (C : Cx p s m meth c Z bytes maxL ret own nme) {x y : Int32} (hd : decode bytes pc = .ok (.imul, 1))  (hp : pc + 1 = pc') (r : Go p e below Rest T (mkF m pc' L (.int (x * y) :: S))) : Go p e below Rest T (mkF m pc L (.int y :: .int x :: S)) := by
  obtain ⟨_, X, -, -⟩ := X; obtain ⟨hx, hby, -⟩ := C; subst hp
  exact go_by (fun t k => XS.imul X.here hx rfl (hb hby hd) rfl k) r
theorem g_lmul (X : St p l e R s m args below meth c n0 T h cells slots) (C : Cx p s m meth c Z bytes maxL ret own nme) {x y : Int64} (hd : decode bytes pc = .ok (.lmul, 1))  (hp : pc + 1 = pc') (r : Go p e below Rest T (mkF m pc' L (.long (x * y) :: S))) : Go p e below Rest T (mkF m pc L (.long y :: .long x :: S)) := by
  obtain ⟨_, X, -, -⟩ := X; obtain ⟨hx, hby, -⟩ := C; subst hp
  exact go_by (fun t k => XS.lmul X.here hx rfl (hb hby hd) rfl k) r
theorem g_iand (X : St p l e R s m args below meth c n0 T h cells slots) (C : Cx p s m meth c Z bytes maxL ret own nme) {x y : Int32} (hd : decode bytes pc = .ok (.iand, 1))  (hp : pc + 1 = pc') (r : Go p e below Rest T (mkF m pc' L (.int (x &&& y) :: S))) : Go p e below Rest T (mkF m pc L (.int y :: .int x :: S)) := by
  obtain ⟨_, X, -, -⟩ := X; obtain ⟨hx, hby, -⟩ := C; subst hp
  exact go_by (fun t k => XS.iand X.here hx rfl (hb hby hd) rfl k) r
theorem g_land (X : St p l e R s m args below meth c n0 T h cells slots) (C : Cx p s m meth c Z bytes maxL ret own nme) {x y : Int64} (hd : decode bytes pc = .ok (.land, 1))  (hp : pc + 1 = pc') (r : Go p e below Rest T (mkF m pc' L (.long (x &&& y) :: S))) : Go p e below Rest T (mkF m pc L (.long y :: .long x :: S)) := by
  obtain ⟨_, X, -, -⟩ := X; obtain ⟨hx, hby, -⟩ := C; subst hp
  exact go_by (fun t k => XS.land X.here hx rfl (hb hby hd) rfl k) r
theorem g_ior (X : St p l e R s m args below meth c n0 T h cells slots) (C : Cx p s m meth c Z bytes maxL ret own nme) {x y : Int32} (hd : decode bytes pc = .ok (.ior, 1))  (hp : pc + 1 = pc') (r : Go p e below Rest T (mkF m pc' L (.int (x ||| y) :: S))) : Go p e below Rest T (mkF m pc L (.int y :: .int x :: S)) := by
  obtain ⟨_, X, -, -⟩ := X; obtain ⟨hx, hby, -⟩ := C; subst hp
  exact go_by (fun t k => XS.ior X.here hx rfl (hb hby hd) rfl k) r
theorem g_lor (X : St p l e R s m args below meth c n0 T h cells slots) (C : Cx p s m meth c Z bytes maxL ret own nme) {x y : Int64} (hd : decode bytes pc = .ok (.lor, 1))  (hp : pc + 1 = pc') (r : Go p e below Rest T (mkF m pc' L (.long (x ||| y) :: S))) : Go p e below Rest T (mkF m pc L (.long y :: .long x :: S)) := by
  obtain ⟨_, X, -, -⟩ := X; obtain ⟨hx, hby, -⟩ := C; subst hp
  exact go_by (fun t k => XS.lor X.here hx rfl (hb hby hd) rfl k) r
theorem g_ixor (X : St p l e R s m args below meth c n0 T h cells slots) (C : Cx p s m meth c Z bytes maxL ret own nme) {x y : Int32} (hd : decode bytes pc = .ok (.ixor, 1))  (hp : pc + 1 = pc') (r : Go p e below Rest T (mkF m pc' L (.int (x ^^^ y) :: S))) : Go p e below Rest T (mkF m pc L (.int y :: .int x :: S)) := by
  obtain ⟨_, X, -, -⟩ := X; obtain ⟨hx, hby, -⟩ := C; subst hp
  exact go_by (fun t k => XS.ixor X.here hx rfl (hb hby hd) rfl k) r
theorem g_lxor (X : St p l e R s m args below meth c n0 T h cells slots) (C : Cx p s m meth c Z bytes maxL ret own nme) {x y : Int64} (hd : decode bytes pc = .ok (.lxor, 1))  (hp : pc + 1 = pc') (r : Go p e below Rest T (mkF m pc' L (.long (x ^^^ y) :: S))) : Go p e below Rest T (mkF m pc L (.long y :: .long x :: S)) := by
  obtain ⟨_, X, -, -⟩ := X; obtain ⟨hx, hby, -⟩ := C; subst hp
  exact go_by (fun t k => XS.lxor X.here hx rfl (hb hby hd) rfl k) r
theorem g_ishl (X : St p l e R s m args below meth c n0 T h cells slots) (C : Cx p s m meth c Z bytes maxL ret own nme) {x : Int32} {y : Int32} (hd : decode bytes pc = .ok (.ishl, 1))  (hp : pc + 1 = pc') (r : Go p e below Rest T (mkF m pc' L (.int (x <<< (y &&& 31)) :: S))) : Go p e below Rest T (mkF m pc L (.int y :: .int x :: S)) := by
  obtain ⟨_, X, -, -⟩ := X; obtain ⟨hx, hby, -⟩ := C; subst hp
  exact go_by (fun t k => XS.ishl X.here hx rfl (hb hby hd) rfl k) r
theorem g_ishr (X : St p l e R s m args below meth c n0 T h cells slots) (C : Cx p s m meth c Z bytes maxL ret own nme) {x : Int32} {y : Int32} (hd : decode bytes pc = .ok (.ishr, 1))  (hp : pc + 1 = pc') (r : Go p e below Rest T (mkF m pc' L (.int (x >>> (y &&& 31)) :: S))) : Go p e below Rest T (mkF m pc L (.int y :: .int x :: S)) := by
  obtain ⟨_, X, -, -⟩ := X; obtain ⟨hx, hby, -⟩ := C; subst hp
  exact go_by (fun t k => XS.ishr X.here hx rfl (hb hby hd) rfl k) r
theorem g_iushr (X : St p l e R s m args below meth c n0 T h cells slots) (C : Cx p s m meth c Z bytes maxL ret own nme) {x : Int32} {y : Int32} (hd : decode bytes pc = .ok (.iushr, 1))  (hp : pc + 1 = pc') (r : Go p e below Rest T (mkF m pc' L (.int ((x.toUInt32 >>> (y &&& 31).toUInt32).toInt32) :: S))) : Go p e below Rest T (mkF m pc L (.int y :: .int x :: S)) := by
  obtain ⟨_, X, -, -⟩ := X; obtain ⟨hx, hby, -⟩ := C; subst hp
  exact go_by (fun t k => XS.iushr X.here hx rfl (hb hby hd) rfl k) r
theorem g_lshl (X : St p l e R s m args below meth c n0 T h cells slots) (C : Cx p s m meth c Z bytes maxL ret own nme) {x : Int64} {y : Int32} (hd : decode bytes pc = .ok (.lshl, 1))  (hp : pc + 1 = pc') (r : Go p e below Rest T (mkF m pc' L (.long (x <<< (y &&& 0x3f).toInt64) :: S))) : Go p e below Rest T (mkF m pc L (.int y :: .long x :: S)) := by
  obtain ⟨_, X, -, -⟩ := X; obtain ⟨hx, hby, -⟩ := C; subst hp
  exact go_by (fun t k => XS.lshl X.here hx rfl (hb hby hd) rfl k) r
theorem g_lshr (X : St p l e R s m args below meth c n0 T h cells slots) (C : Cx p s m meth c Z bytes maxL ret own nme) {x : Int64} {y : Int32} (hd : decode bytes pc = .ok (.lshr, 1))  (hp : pc + 1 = pc') (r : Go p e below Rest T (mkF m pc' L (.long (x >>> (y &&& 0x3f).toInt64) :: S))) : Go p e below Rest T (mkF m pc L (.int y :: .long x :: S)) := by
  obtain ⟨_, X, -, -⟩ := X; obtain ⟨hx, hby, -⟩ := C; subst hp
  exact go_by (fun t k => XS.lshr X.here hx rfl (hb hby hd) rfl k) r
theorem g_lushr (X : St p l e R s m args below meth c n0 T h cells slots) (C : Cx p s m meth c Z bytes maxL ret own nme) {x : Int64} {y : Int32} (hd : decode bytes pc = .ok (.lushr, 1))  (hp : pc + 1 = pc') (r : Go p e below Rest T (mkF m pc' L (.long ((x.toUInt64 >>> (y &&& 0x3f).toInt64.toUInt64).toInt64) :: S))) : Go p e below Rest T (mkF m pc L (.int y :: .long x :: S)) := by
  obtain ⟨_, X, -, -⟩ := X; obtain ⟨hx, hby, -⟩ := C; subst hp
  exact go_by (fun t k => XS.lushr X.here hx rfl (hb hby hd) rfl k) r
theorem g_idiv (X : St p l e R s m args below meth c n0 T h cells slots) (C : Cx p s m meth c Z bytes maxL ret own nme) {x y : Int32} (hd : decode bytes pc = .ok (.idiv, 1)) (hy : y ≠ 0) (hp : pc + 1 = pc') (r : Go p e below Rest T (mkF m pc' L (.int (x / y) :: S))) : Go p e below Rest T (mkF m pc L (.int y :: .int x :: S)) := by
  obtain ⟨_, X, -, -⟩ := X; obtain ⟨hx, hby, -⟩ := C; subst hp
  exact go_by (fun t k => XS.idiv X.here hx rfl (hb hby hd) rfl hy k) r
theorem g_ldiv (X : St p l e R s m args below meth c n0 T h cells slots) (C : Cx p s m meth c Z bytes maxL ret own nme) {x y : Int64} (hd : decode bytes pc = .ok (.ldiv, 1)) (hy : y ≠ 0) (hp : pc + 1 = pc') (r : Go p e below Rest T (mkF m pc' L (.long (x / y) :: S))) : Go p e below Rest T (mkF m pc L (.long y :: .long x :: S)) := by
  obtain ⟨_, X, -, -⟩ := X; obtain ⟨hx, hby, -⟩ := C; subst hp
  exact go_by (fun t k => XS.ldiv X.here hx rfl (hb hby hd) rfl hy k) r
theorem g_ineg (X : St p l e R s m args below meth c n0 T h cells slots) (C : Cx p s m meth c Z bytes maxL ret own nme) {x : Int32} (hd : decode bytes pc = .ok (.ineg, 1))  (hp : pc + 1 = pc') (r : Go p e below Rest T (mkF m pc' L (.int ((-x)) :: S))) : Go p e below Rest T (mkF m pc L (.int x :: S)) := by
  obtain ⟨_, X, -, -⟩ := X; obtain ⟨hx, hby, -⟩ := C; subst hp
  exact go_by (fun t k => XS.ineg X.here hx rfl (hb hby hd) rfl k) r
theorem g_lneg (X : St p l e R s m args below meth c n0 T h cells slots) (C : Cx p s m meth c Z bytes maxL ret own nme) {x : Int64} (hd : decode bytes pc = .ok (.lneg, 1))  (hp : pc + 1 = pc') (r : Go p e below Rest T (mkF m pc' L (.long ((-x)) :: S))) : Go p e below Rest T (mkF m pc L (.long x :: S)) := by
  obtain ⟨_, X, -, -⟩ := X; obtain ⟨hx, hby, -⟩ := C; subst hp
  exact go_by (fun t k => XS.lneg X.here hx rfl (hb hby hd) rfl k) r
theorem g_i2l (X : St p l e R s m args below meth c n0 T h cells slots) (C : Cx p s m meth c Z bytes maxL ret own nme) {x : Int32} (hd : decode bytes pc = .ok (.i2l, 1))  (hp : pc + 1 = pc') (r : Go p e below Rest T (mkF m pc' L (.long (x.toInt64) :: S))) : Go p e below Rest T (mkF m pc L (.int x :: S)) := by
  obtain ⟨_, X, -, -⟩ := X; obtain ⟨hx, hby, -⟩ := C; subst hp
  exact go_by (fun t k => XS.i2l X.here hx rfl (hb hby hd) rfl k) r
theorem g_l2i (X : St p l e R s m args below meth c n0 T h cells slots) (C : Cx p s m meth c Z bytes maxL ret own nme) {x : Int64} (hd : decode bytes pc = .ok (.l2i, 1))  (hp : pc + 1 = pc') (r : Go p e below Rest T (mkF m pc' L (.int (x.toInt32) :: S))) : Go p e below Rest T (mkF m pc L (.long x :: S)) := by
  obtain ⟨_, X, -, -⟩ := X; obtain ⟨hx, hby, -⟩ := C; subst hp
  exact go_by (fun t k => XS.l2i X.here hx rfl (hb hby hd) rfl k) r
theorem g_i2b (X : St p l e R s m args below meth c n0 T h cells slots) (C : Cx p s m meth c Z bytes maxL ret own nme) {x : Int32} (hd : decode bytes pc = .ok (.i2b, 1))  (hp : pc + 1 = pc') (r : Go p e below Rest T (mkF m pc' L (.int (x.toInt8.toInt32) :: S))) : Go p e below Rest T (mkF m pc L (.int x :: S)) := by
  obtain ⟨_, X, -, -⟩ := X; obtain ⟨hx, hby, -⟩ := C; subst hp
  exact go_by (fun t k => XS.i2b X.here hx rfl (hb hby hd) rfl k) r
theorem g_i2s (X : St p l e R s m args below meth c n0 T h cells slots) (C : Cx p s m meth c Z bytes maxL ret own nme) {x : Int32} (hd : decode bytes pc = .ok (.i2s, 1))  (hp : pc + 1 = pc') (r : Go p e below Rest T (mkF m pc' L (.int (x.toInt16.toInt32) :: S))) : Go p e below Rest T (mkF m pc L (.int x :: S)) := by
  obtain ⟨_, X, -, -⟩ := X; obtain ⟨hx, hby, -⟩ := C; subst hp
  exact go_by (fun t k => XS.i2s X.here hx rfl (hb hby hd) rfl k) r
theorem g_i2c (X : St p l e R s m args below meth c n0 T h cells slots) (C : Cx p s m meth c Z bytes maxL ret own nme) {x : Int32} (hd : decode bytes pc = .ok (.i2c, 1))  (hp : pc + 1 = pc') (r : Go p e below Rest T (mkF m pc' L (.int (x.toUInt32.toUInt16.toUInt32.toInt32) :: S))) : Go p e below Rest T (mkF m pc L (.int x :: S)) := by
  obtain ⟨_, X, -, -⟩ := X; obtain ⟨hx, hby, -⟩ := C; subst hp
  exact go_by (fun t k => XS.i2c X.here hx rfl (hb hby hd) rfl k) r
theorem g_lcmp (X : St p l e R s m args below meth c n0 T h cells slots) (C : Cx p s m meth c Z bytes maxL ret own nme) {x y : Int64} (hd : decode bytes pc = .ok (.lcmp, 1))  (hp : pc + 1 = pc') (r : Go p e below Rest T (mkF m pc' L (.int (lcmpW x y) :: S))) : Go p e below Rest T (mkF m pc L (.long y :: .long x :: S)) := by
  obtain ⟨_, X, -, -⟩ := X; obtain ⟨hx, hby, -⟩ := C; subst hp
  exact go_by (fun t k => XS.lcmp X.here hx rfl (hb hby hd) rfl k) r
theorem g_dup (X : St p l e R s m args below meth c n0 T h cells slots) (C : Cx p s m meth c Z bytes maxL ret own nme) {x : Value} (hd : decode bytes pc = .ok (.dup, 1)) (hc : x.category = 1) (hp : pc + 1 = pc') (r : Go p e below Rest T (mkF m pc' L (x :: x :: S))) : Go p e below Rest T (mkF m pc L (x :: S)) := by
  obtain ⟨_, X, -, -⟩ := X; obtain ⟨hx, hby, -⟩ := C; subst hp
  exact go_by (fun t k => XS.dup X.here hx rfl (hb hby hd) rfl hc k) r
theorem g_pop (X : St p l e R s m args below meth c n0 T h cells slots) (C : Cx p s m meth c Z bytes maxL ret own nme) {x : Value} (hd : decode bytes pc = .ok (.pop, 1)) (hc : x.category = 1) (hp : pc + 1 = pc') (r : Go p e below Rest T (mkF m pc' L S)) : Go p e below Rest T (mkF m pc L (x :: S)) := by
  obtain ⟨_, X, -, -⟩ := X; obtain ⟨hx, hby, -⟩ := C; subst hp
  exact go_by (fun t k => XS.pop X.here hx rfl (hb hby hd) rfl hc k) r
theorem g_dupx1 (X : St p l e R s m args below meth c n0 T h cells slots) (C : Cx p s m meth c Z bytes maxL ret own nme) {x y : Value} (hd : decode bytes pc = .ok (.dup_x1, 1)) (hc : x.category = 1) (hc' : y.category = 1) (hp : pc + 1 = pc') (r : Go p e below Rest T (mkF m pc' L (x :: y :: x :: S))) : Go p e below Rest T (mkF m pc L (x :: y :: S)) := by
  obtain ⟨_, X, -, -⟩ := X; obtain ⟨hx, hby, -⟩ := C; subst hp
  exact go_by (fun t k => XS.dupX1 X.here hx rfl (hb hby hd) rfl hc hc' k) r
theorem g_dup2 (X : St p l e R s m args below meth c n0 T h cells slots) (C : Cx p s m meth c Z bytes maxL ret own nme) {x y : Value} (hd : decode bytes pc = .ok (.dup2, 1)) (hc : x.category = 1) (hc' : y.category = 1) (hp : pc + 1 = pc') (r : Go p e below Rest T (mkF m pc' L (x :: y :: x :: y :: S))) : Go p e below Rest T (mkF m pc L (x :: y :: S)) := by
  obtain ⟨_, X, -, -⟩ := X; obtain ⟨hx, hby, -⟩ := C; subst hp
  exact go_by (fun t k => XT.dup2 X.here hx rfl (hb hby hd) rfl hc hc' k) r
theorem g_dup2L (X : St p l e R s m args below meth c n0 T h cells slots) (C : Cx p s m meth c Z bytes maxL ret own nme) {x : Int64} (hd : decode bytes pc = .ok (.dup2, 1))  (hp : pc + 1 = pc') (r : Go p e below Rest T (mkF m pc' L (.long x :: .long x :: S))) : Go p e below Rest T (mkF m pc L (.long x :: S)) := by
  obtain ⟨_, X, -, -⟩ := X; obtain ⟨hx, hby, -⟩ := C; subst hp
  exact go_by (fun t k => XT.dup2L X.here hx rfl (hb hby hd) rfl k) r
theorem g_iinc (X : St p l e R s m args below meth c n0 T h cells slots) (C : Cx p s m meth c Z bytes maxL ret own nme) {k : Nat} {i : Int} {v v' : Int32} (hd : decode bytes pc = .ok (.iinc k i, 3)) (hl : L[k]? = some (.val (.int v))) (hv : v' = v + Int32.ofInt i) (hs : storeLocals L k (.int v') = some L') (hp : pc + 3 = pc') (r : Go p e below Rest T (mkF m pc' L' S)) : Go p e below Rest T (mkF m pc L S) := by
  obtain ⟨_, X, -, -⟩ := X; obtain ⟨hx, hby, -⟩ := C; subst hp
  exact go_by (fun t k => XS.iinc X.here hx rfl (hb hby hd) hl (hv ▸ hs) k) r
theorem g_goto (X : St p l e R s m args below meth c n0 T h cells slots) (C : Cx p s m meth c Z bytes maxL ret own nme) {o : Int} (hd : decode bytes pc = .ok (.goto o, 3)) (h0 : 0 ≤ (pc : Int) + o) (hp : ((pc : Int) + o).toNat = pc') (r : Go p e below Rest T (mkF m pc' L S)) : Go p e below Rest T (mkF m pc L S) := by
  obtain ⟨_, X, -, -⟩ := X; obtain ⟨hx, hby, -⟩ := C
  exact go_by (fun t k => XS.goto X.here hx rfl (pc0 := pc) rfl (hb hby hd) h0 hp k) r
theorem g_icmp (X : St p l e R s m args below meth c n0 T h cells slots) (C : Cx p s m meth c Z bytes maxL ret own nme) {cd : ClassFile.Cond} {o : Int} {x y : Int32} {pT pF : Nat} (hd : decode bytes pc = .ok (.if_icmp cd o, 3)) (h0 : 0 ≤ (pc : Int) + o) (hT : ((pc : Int) + o).toNat = pT) (hF : pc + 3 = pF) (r1 : if_icmp.holds cd x y = true → Go p e below Rest T (mkF m pT L S)) (r2 : if_icmp.holds cd x y = false → Go p e below Rest T (mkF m pF L S)) : Go p e below Rest T (mkF m pc L (.int y :: .int x :: S)) := by
  obtain ⟨_, X, -, -⟩ := X; obtain ⟨hx, hby, -⟩ := C
  rcases Bool.eq_false_or_eq_true (if_icmp.holds cd x y) with q | q
  · exact go_by (fun t k => XS.icmpYes X.here hx rfl (pc0 := pc) rfl (hb hby hd) rfl q h0 hT k) (r1 q)
  · subst hF; exact go_by (fun t k => XS.icmpNo X.here hx rfl (hb hby hd) rfl q k) (r2 q)
theorem g_if (X : St p l e R s m args below meth c n0 T h cells slots) (C : Cx p s m meth c Z bytes maxL ret own nme) {cd : ClassFile.Cond} {o : Int} {x : Int32} {pT pF : Nat} (hd : decode bytes pc = .ok (.ifCond cd o, 3)) (h0 : 0 ≤ (pc : Int) + o) (hT : ((pc : Int) + o).toNat = pT) (hF : pc + 3 = pF) (r1 : if_icmp.holds cd x 0 = true → Go p e below Rest T (mkF m pT L S)) (r2 : if_icmp.holds cd x 0 = false → Go p e below Rest T (mkF m pF L S)) : Go p e below Rest T (mkF m pc L (.int x :: S)) := by
  obtain ⟨_, X, -, -⟩ := X; obtain ⟨hx, hby, -⟩ := C
  rcases Bool.eq_false_or_eq_true (if_icmp.holds cd x 0) with q | q
  · exact go_by (fun t k => XS.ifYes X.here hx rfl (pc0 := pc) rfl (hb hby hd) rfl ((if0 _ _).trans q) h0 hT k) (r1 q)
  · subst hF; exact go_by (fun t k => XS.ifNo X.here hx rfl (hb hby hd) rfl ((if0 _ _).trans q) k) (r2 q)
theorem hold_lt {x y : Int32} {a b : Int} (ha : x.toInt = a) (hb' : y.toInt = b) : (if_icmp.holds .lt x y = true → a < b) ∧ (if_icmp.holds .lt x y = false → b ≤ a) := by
  subst ha hb'
  constructor <;> intro q <;> simp [if_icmp.holds, Int32.lt_iff_toInt_lt, Int32.le_iff_toInt_le, ← Int32.toInt_inj] at q <;> omega
theorem g_icmp_lt (X : St p l e R s m args below meth c n0 T h cells slots) (C : Cx p s m meth c Z bytes maxL ret own nme) {o : Int} {x y : Int32} {a b : Int} {pT pF : Nat} (hd : decode bytes pc = .ok (.if_icmp .lt o, 3)) (ha : x.toInt = a) (hb' : y.toInt = b) (h0 : 0 ≤ (pc : Int) + o) (hT : ((pc : Int) + o).toNat = pT) (hF : pc + 3 = pF) (r1 : a < b → Go p e below Rest T (mkF m pT L S)) (r2 : b ≤ a → Go p e below Rest T (mkF m pF L S)) : Go p e below Rest T (mkF m pc L (.int y :: .int x :: S)) :=
  g_icmp X C hd h0 hT hF (fun q => r1 ((hold_lt ha hb').1 q)) (fun q => r2 ((hold_lt ha hb').2 q))
theorem g_if_lt (X : St p l e R s m args below meth c n0 T h cells slots) (C : Cx p s m meth c Z bytes maxL ret own nme) {o : Int} {x : Int32} {a : Int} {pT pF : Nat} (hd : decode bytes pc = .ok (.ifCond .lt o, 3)) (ha : x.toInt = a) (h0 : 0 ≤ (pc : Int) + o) (hT : ((pc : Int) + o).toNat = pT) (hF : pc + 3 = pF) (r1 : a < 0 → Go p e below Rest T (mkF m pT L S)) (r2 : 0 ≤ a → Go p e below Rest T (mkF m pF L S)) : Go p e below Rest T (mkF m pc L (.int x :: S)) :=
  g_if X C hd h0 hT hF (fun q => r1 ((hold_lt ha (by decide)).1 q)) (fun q => r2 ((hold_lt ha (by decide)).2 q))
theorem hlc_lt {x y : Int64} {a b : Int} (ha : x.toInt = a) (hb' : y.toInt = b) : (if_icmp.holds .lt (lcmpW x y) 0 = true → a < b) ∧ (if_icmp.holds .lt (lcmpW x y) 0 = false → b ≤ a) := by
  have h1 := c_lcmp x y; subst ha hb'
  have h3 := hold_lt (x := lcmpW x y) (y := 0) rfl (b := 0) (by decide)
  refine ⟨fun q => ?_, fun q => ?_⟩
  · have := h3.1 q; omega
  · have := h3.2 q; omega
theorem g_lif_lt (X : St p l e R s m args below meth c n0 T h cells slots) (C : Cx p s m meth c Z bytes maxL ret own nme) {o : Int} {x y : Int64} {a b : Int} {pT pF : Nat} (hd : decode bytes pc = .ok (.ifCond .lt o, 3)) (ha : x.toInt = a) (hb' : y.toInt = b) (h0 : 0 ≤ (pc : Int) + o) (hT : ((pc : Int) + o).toNat = pT) (hF : pc + 3 = pF) (r1 : a < b → Go p e below Rest T (mkF m pT L S)) (r2 : b ≤ a → Go p e below Rest T (mkF m pF L S)) : Go p e below Rest T (mkF m pc L (.int (lcmpW x y) :: S)) :=
  g_if X C hd h0 hT hF (fun q => r1 ((hlc_lt ha hb').1 q)) (fun q => r2 ((hlc_lt ha hb').2 q))
theorem hold_ge {x y : Int32} {a b : Int} (ha : x.toInt = a) (hb' : y.toInt = b) : (if_icmp.holds .ge x y = true → b ≤ a) ∧ (if_icmp.holds .ge x y = false → a < b) := by
  subst ha hb'
  constructor <;> intro q <;> simp [if_icmp.holds, Int32.lt_iff_toInt_lt, Int32.le_iff_toInt_le, ← Int32.toInt_inj] at q <;> omega
theorem g_icmp_ge (X : St p l e R s m args below meth c n0 T h cells slots) (C : Cx p s m meth c Z bytes maxL ret own nme) {o : Int} {x y : Int32} {a b : Int} {pT pF : Nat} (hd : decode bytes pc = .ok (.if_icmp .ge o, 3)) (ha : x.toInt = a) (hb' : y.toInt = b) (h0 : 0 ≤ (pc : Int) + o) (hT : ((pc : Int) + o).toNat = pT) (hF : pc + 3 = pF) (r1 : b ≤ a → Go p e below Rest T (mkF m pT L S)) (r2 : a < b → Go p e below Rest T (mkF m pF L S)) : Go p e below Rest T (mkF m pc L (.int y :: .int x :: S)) :=
  g_icmp X C hd h0 hT hF (fun q => r1 ((hold_ge ha hb').1 q)) (fun q => r2 ((hold_ge ha hb').2 q))
theorem g_if_ge (X : St p l e R s m args below meth c n0 T h cells slots) (C : Cx p s m meth c Z bytes maxL ret own nme) {o : Int} {x : Int32} {a : Int} {pT pF : Nat} (hd : decode bytes pc = .ok (.ifCond .ge o, 3)) (ha : x.toInt = a) (h0 : 0 ≤ (pc : Int) + o) (hT : ((pc : Int) + o).toNat = pT) (hF : pc + 3 = pF) (r1 : 0 ≤ a → Go p e below Rest T (mkF m pT L S)) (r2 : a < 0 → Go p e below Rest T (mkF m pF L S)) : Go p e below Rest T (mkF m pc L (.int x :: S)) :=
  g_if X C hd h0 hT hF (fun q => r1 ((hold_ge ha (by decide)).1 q)) (fun q => r2 ((hold_ge ha (by decide)).2 q))
theorem hlc_ge {x y : Int64} {a b : Int} (ha : x.toInt = a) (hb' : y.toInt = b) : (if_icmp.holds .ge (lcmpW x y) 0 = true → b ≤ a) ∧ (if_icmp.holds .ge (lcmpW x y) 0 = false → a < b) := by
  have h1 := c_lcmp x y; subst ha hb'
  have h3 := hold_ge (x := lcmpW x y) (y := 0) rfl (b := 0) (by decide)
  refine ⟨fun q => ?_, fun q => ?_⟩
  · have := h3.1 q; omega
  · have := h3.2 q; omega
theorem g_lif_ge (X : St p l e R s m args below meth c n0 T h cells slots) (C : Cx p s m meth c Z bytes maxL ret own nme) {o : Int} {x y : Int64} {a b : Int} {pT pF : Nat} (hd : decode bytes pc = .ok (.ifCond .ge o, 3)) (ha : x.toInt = a) (hb' : y.toInt = b) (h0 : 0 ≤ (pc : Int) + o) (hT : ((pc : Int) + o).toNat = pT) (hF : pc + 3 = pF) (r1 : b ≤ a → Go p e below Rest T (mkF m pT L S)) (r2 : a < b → Go p e below Rest T (mkF m pF L S)) : Go p e below Rest T (mkF m pc L (.int (lcmpW x y) :: S)) :=
  g_if X C hd h0 hT hF (fun q => r1 ((hlc_ge ha hb').1 q)) (fun q => r2 ((hlc_ge ha hb').2 q))
theorem hold_gt {x y : Int32} {a b : Int} (ha : x.toInt = a) (hb' : y.toInt = b) : (if_icmp.holds .gt x y = true → b < a) ∧ (if_icmp.holds .gt x y = false → a ≤ b) := by
  subst ha hb'
  constructor <;> intro q <;> simp [if_icmp.holds, Int32.lt_iff_toInt_lt, Int32.le_iff_toInt_le, ← Int32.toInt_inj] at q <;> omega
theorem g_icmp_gt (X : St p l e R s m args below meth c n0 T h cells slots) (C : Cx p s m meth c Z bytes maxL ret own nme) {o : Int} {x y : Int32} {a b : Int} {pT pF : Nat} (hd : decode bytes pc = .ok (.if_icmp .gt o, 3)) (ha : x.toInt = a) (hb' : y.toInt = b) (h0 : 0 ≤ (pc : Int) + o) (hT : ((pc : Int) + o).toNat = pT) (hF : pc + 3 = pF) (r1 : b < a → Go p e below Rest T (mkF m pT L S)) (r2 : a ≤ b → Go p e below Rest T (mkF m pF L S)) : Go p e below Rest T (mkF m pc L (.int y :: .int x :: S)) :=
  g_icmp X C hd h0 hT hF (fun q => r1 ((hold_gt ha hb').1 q)) (fun q => r2 ((hold_gt ha hb').2 q))
theorem g_if_gt (X : St p l e R s m args below meth c n0 T h cells slots) (C : Cx p s m meth c Z bytes maxL ret own nme) {o : Int} {x : Int32} {a : Int} {pT pF : Nat} (hd : decode bytes pc = .ok (.ifCond .gt o, 3)) (ha : x.toInt = a) (h0 : 0 ≤ (pc : Int) + o) (hT : ((pc : Int) + o).toNat = pT) (hF : pc + 3 = pF) (r1 : 0 < a → Go p e below Rest T (mkF m pT L S)) (r2 : a ≤ 0 → Go p e below Rest T (mkF m pF L S)) : Go p e below Rest T (mkF m pc L (.int x :: S)) :=
  g_if X C hd h0 hT hF (fun q => r1 ((hold_gt ha (by decide)).1 q)) (fun q => r2 ((hold_gt ha (by decide)).2 q))
theorem hlc_gt {x y : Int64} {a b : Int} (ha : x.toInt = a) (hb' : y.toInt = b) : (if_icmp.holds .gt (lcmpW x y) 0 = true → b < a) ∧ (if_icmp.holds .gt (lcmpW x y) 0 = false → a ≤ b) := by
  have h1 := c_lcmp x y; subst ha hb'
  have h3 := hold_gt (x := lcmpW x y) (y := 0) rfl (b := 0) (by decide)
  refine ⟨fun q => ?_, fun q => ?_⟩
  · have := h3.1 q; omega
  · have := h3.2 q; omega
theorem g_lif_gt (X : St p l e R s m args below meth c n0 T h cells slots) (C : Cx p s m meth c Z bytes maxL ret own nme) {o : Int} {x y : Int64} {a b : Int} {pT pF : Nat} (hd : decode bytes pc = .ok (.ifCond .gt o, 3)) (ha : x.toInt = a) (hb' : y.toInt = b) (h0 : 0 ≤ (pc : Int) + o) (hT : ((pc : Int) + o).toNat = pT) (hF : pc + 3 = pF) (r1 : b < a → Go p e below Rest T (mkF m pT L S)) (r2 : a ≤ b → Go p e below Rest T (mkF m pF L S)) : Go p e below Rest T (mkF m pc L (.int (lcmpW x y) :: S)) :=
  g_if X C hd h0 hT hF (fun q => r1 ((hlc_gt ha hb').1 q)) (fun q => r2 ((hlc_gt ha hb').2 q))
theorem hold_le {x y : Int32} {a b : Int} (ha : x.toInt = a) (hb' : y.toInt = b) : (if_icmp.holds .le x y = true → a ≤ b) ∧ (if_icmp.holds .le x y = false → b < a) := by
  subst ha hb'
  constructor <;> intro q <;> simp [if_icmp.holds, Int32.lt_iff_toInt_lt, Int32.le_iff_toInt_le, ← Int32.toInt_inj] at q <;> omega
theorem g_icmp_le (X : St p l e R s m args below meth c n0 T h cells slots) (C : Cx p s m meth c Z bytes maxL ret own nme) {o : Int} {x y : Int32} {a b : Int} {pT pF : Nat} (hd : decode bytes pc = .ok (.if_icmp .le o, 3)) (ha : x.toInt = a) (hb' : y.toInt = b) (h0 : 0 ≤ (pc : Int) + o) (hT : ((pc : Int) + o).toNat = pT) (hF : pc + 3 = pF) (r1 : a ≤ b → Go p e below Rest T (mkF m pT L S)) (r2 : b < a → Go p e below Rest T (mkF m pF L S)) : Go p e below Rest T (mkF m pc L (.int y :: .int x :: S)) :=
  g_icmp X C hd h0 hT hF (fun q => r1 ((hold_le ha hb').1 q)) (fun q => r2 ((hold_le ha hb').2 q))
theorem g_if_le (X : St p l e R s m args below meth c n0 T h cells slots) (C : Cx p s m meth c Z bytes maxL ret own nme) {o : Int} {x : Int32} {a : Int} {pT pF : Nat} (hd : decode bytes pc = .ok (.ifCond .le o, 3)) (ha : x.toInt = a) (h0 : 0 ≤ (pc : Int) + o) (hT : ((pc : Int) + o).toNat = pT) (hF : pc + 3 = pF) (r1 : a ≤ 0 → Go p e below Rest T (mkF m pT L S)) (r2 : 0 < a → Go p e below Rest T (mkF m pF L S)) : Go p e below Rest T (mkF m pc L (.int x :: S)) :=
  g_if X C hd h0 hT hF (fun q => r1 ((hold_le ha (by decide)).1 q)) (fun q => r2 ((hold_le ha (by decide)).2 q))
theorem hlc_le {x y : Int64} {a b : Int} (ha : x.toInt = a) (hb' : y.toInt = b) : (if_icmp.holds .le (lcmpW x y) 0 = true → a ≤ b) ∧ (if_icmp.holds .le (lcmpW x y) 0 = false → b < a) := by
  have h1 := c_lcmp x y; subst ha hb'
  have h3 := hold_le (x := lcmpW x y) (y := 0) rfl (b := 0) (by decide)
  refine ⟨fun q => ?_, fun q => ?_⟩
  · have := h3.1 q; omega
  · have := h3.2 q; omega
theorem g_lif_le (X : St p l e R s m args below meth c n0 T h cells slots) (C : Cx p s m meth c Z bytes maxL ret own nme) {o : Int} {x y : Int64} {a b : Int} {pT pF : Nat} (hd : decode bytes pc = .ok (.ifCond .le o, 3)) (ha : x.toInt = a) (hb' : y.toInt = b) (h0 : 0 ≤ (pc : Int) + o) (hT : ((pc : Int) + o).toNat = pT) (hF : pc + 3 = pF) (r1 : a ≤ b → Go p e below Rest T (mkF m pT L S)) (r2 : b < a → Go p e below Rest T (mkF m pF L S)) : Go p e below Rest T (mkF m pc L (.int (lcmpW x y) :: S)) :=
  g_if X C hd h0 hT hF (fun q => r1 ((hlc_le ha hb').1 q)) (fun q => r2 ((hlc_le ha hb').2 q))
theorem hold_eq {x y : Int32} {a b : Int} (ha : x.toInt = a) (hb' : y.toInt = b) : (if_icmp.holds .eq x y = true → a = b) ∧ (if_icmp.holds .eq x y = false → a ≠ b) := by
  subst ha hb'
  constructor <;> intro q <;> simp [if_icmp.holds, Int32.lt_iff_toInt_lt, Int32.le_iff_toInt_le, ← Int32.toInt_inj] at q <;> omega
theorem g_icmp_eq (X : St p l e R s m args below meth c n0 T h cells slots) (C : Cx p s m meth c Z bytes maxL ret own nme) {o : Int} {x y : Int32} {a b : Int} {pT pF : Nat} (hd : decode bytes pc = .ok (.if_icmp .eq o, 3)) (ha : x.toInt = a) (hb' : y.toInt = b) (h0 : 0 ≤ (pc : Int) + o) (hT : ((pc : Int) + o).toNat = pT) (hF : pc + 3 = pF) (r1 : a = b → Go p e below Rest T (mkF m pT L S)) (r2 : a ≠ b → Go p e below Rest T (mkF m pF L S)) : Go p e below Rest T (mkF m pc L (.int y :: .int x :: S)) :=
  g_icmp X C hd h0 hT hF (fun q => r1 ((hold_eq ha hb').1 q)) (fun q => r2 ((hold_eq ha hb').2 q))
theorem g_if_eq (X : St p l e R s m args below meth c n0 T h cells slots) (C : Cx p s m meth c Z bytes maxL ret own nme) {o : Int} {x : Int32} {a : Int} {pT pF : Nat} (hd : decode bytes pc = .ok (.ifCond .eq o, 3)) (ha : x.toInt = a) (h0 : 0 ≤ (pc : Int) + o) (hT : ((pc : Int) + o).toNat = pT) (hF : pc + 3 = pF) (r1 : a = 0 → Go p e below Rest T (mkF m pT L S)) (r2 : a ≠ 0 → Go p e below Rest T (mkF m pF L S)) : Go p e below Rest T (mkF m pc L (.int x :: S)) :=
  g_if X C hd h0 hT hF (fun q => r1 ((hold_eq ha (by decide)).1 q)) (fun q => r2 ((hold_eq ha (by decide)).2 q))
theorem hlc_eq {x y : Int64} {a b : Int} (ha : x.toInt = a) (hb' : y.toInt = b) : (if_icmp.holds .eq (lcmpW x y) 0 = true → a = b) ∧ (if_icmp.holds .eq (lcmpW x y) 0 = false → a ≠ b) := by
  have h1 := c_lcmp x y; subst ha hb'
  have h3 := hold_eq (x := lcmpW x y) (y := 0) rfl (b := 0) (by decide)
  refine ⟨fun q => ?_, fun q => ?_⟩
  · have := h3.1 q; omega
  · have := h3.2 q; omega
theorem g_lif_eq (X : St p l e R s m args below meth c n0 T h cells slots) (C : Cx p s m meth c Z bytes maxL ret own nme) {o : Int} {x y : Int64} {a b : Int} {pT pF : Nat} (hd : decode bytes pc = .ok (.ifCond .eq o, 3)) (ha : x.toInt = a) (hb' : y.toInt = b) (h0 : 0 ≤ (pc : Int) + o) (hT : ((pc : Int) + o).toNat = pT) (hF : pc + 3 = pF) (r1 : a = b → Go p e below Rest T (mkF m pT L S)) (r2 : a ≠ b → Go p e below Rest T (mkF m pF L S)) : Go p e below Rest T (mkF m pc L (.int (lcmpW x y) :: S)) :=
  g_if X C hd h0 hT hF (fun q => r1 ((hlc_eq ha hb').1 q)) (fun q => r2 ((hlc_eq ha hb').2 q))
theorem hold_ne {x y : Int32} {a b : Int} (ha : x.toInt = a) (hb' : y.toInt = b) : (if_icmp.holds .ne x y = true → a ≠ b) ∧ (if_icmp.holds .ne x y = false → a = b) := by
  subst ha hb'
  constructor <;> intro q <;> simp [if_icmp.holds, Int32.lt_iff_toInt_lt, Int32.le_iff_toInt_le, ← Int32.toInt_inj] at q <;> omega
theorem g_icmp_ne (X : St p l e R s m args below meth c n0 T h cells slots) (C : Cx p s m meth c Z bytes maxL ret own nme) {o : Int} {x y : Int32} {a b : Int} {pT pF : Nat} (hd : decode bytes pc = .ok (.if_icmp .ne o, 3)) (ha : x.toInt = a) (hb' : y.toInt = b) (h0 : 0 ≤ (pc : Int) + o) (hT : ((pc : Int) + o).toNat = pT) (hF : pc + 3 = pF) (r1 : a ≠ b → Go p e below Rest T (mkF m pT L S)) (r2 : a = b → Go p e below Rest T (mkF m pF L S)) : Go p e below Rest T (mkF m pc L (.int y :: .int x :: S)) :=
  g_icmp X C hd h0 hT hF (fun q => r1 ((hold_ne ha hb').1 q)) (fun q => r2 ((hold_ne ha hb').2 q))
theorem g_if_ne (X : St p l e R s m args below meth c n0 T h cells slots) (C : Cx p s m meth c Z bytes maxL ret own nme) {o : Int} {x : Int32} {a : Int} {pT pF : Nat} (hd : decode bytes pc = .ok (.ifCond .ne o, 3)) (ha : x.toInt = a) (h0 : 0 ≤ (pc : Int) + o) (hT : ((pc : Int) + o).toNat = pT) (hF : pc + 3 = pF) (r1 : a ≠ 0 → Go p e below Rest T (mkF m pT L S)) (r2 : a = 0 → Go p e below Rest T (mkF m pF L S)) : Go p e below Rest T (mkF m pc L (.int x :: S)) :=
  g_if X C hd h0 hT hF (fun q => r1 ((hold_ne ha (by decide)).1 q)) (fun q => r2 ((hold_ne ha (by decide)).2 q))
theorem hlc_ne {x y : Int64} {a b : Int} (ha : x.toInt = a) (hb' : y.toInt = b) : (if_icmp.holds .ne (lcmpW x y) 0 = true → a ≠ b) ∧ (if_icmp.holds .ne (lcmpW x y) 0 = false → a = b) := by
  have h1 := c_lcmp x y; subst ha hb'
  have h3 := hold_ne (x := lcmpW x y) (y := 0) rfl (b := 0) (by decide)
  refine ⟨fun q => ?_, fun q => ?_⟩
  · have := h3.1 q; omega
  · have := h3.2 q; omega
theorem g_lif_ne (X : St p l e R s m args below meth c n0 T h cells slots) (C : Cx p s m meth c Z bytes maxL ret own nme) {o : Int} {x y : Int64} {a b : Int} {pT pF : Nat} (hd : decode bytes pc = .ok (.ifCond .ne o, 3)) (ha : x.toInt = a) (hb' : y.toInt = b) (h0 : 0 ≤ (pc : Int) + o) (hT : ((pc : Int) + o).toNat = pT) (hF : pc + 3 = pF) (r1 : a ≠ b → Go p e below Rest T (mkF m pT L S)) (r2 : a = b → Go p e below Rest T (mkF m pF L S)) : Go p e below Rest T (mkF m pc L (.int (lcmpW x y) :: S)) :=
  g_if X C hd h0 hT hF (fun q => r1 ((hlc_ne ha hb').1 q)) (fun q => r2 ((hlc_ne ha hb').2 q))
theorem g_nullY (X : St p l e R s m args below meth c n0 T h cells slots) (C : Cx p s m meth c Z bytes maxL ret own nme) {o : Int} {pT : Nat} (hd : decode bytes pc = .ok (.ifnull o, 3)) (h0 : 0 ≤ (pc : Int) + o) (hT : ((pc : Int) + o).toNat = pT) (r : Go p e below Rest T (mkF m pT L S)) : Go p e below Rest T (mkF m pc L (.null :: S)) := by
  obtain ⟨_, X, -, -⟩ := X; obtain ⟨hx, hby, -⟩ := C
  exact go_by (fun t k => XS.ifnullYes X.here hx rfl (pc0 := pc) rfl (hb hby hd) rfl h0 hT k) r
theorem g_nullN (X : St p l e R s m args below meth c n0 T h cells slots) (C : Cx p s m meth c Z bytes maxL ret own nme) {o : Int} {b : Addr} {pF : Nat} (hd : decode bytes pc = .ok (.ifnull o, 3)) (hF : pc + 3 = pF) (r : Go p e below Rest T (mkF m pF L S)) : Go p e below Rest T (mkF m pc L (.ref b :: S)) := by
  obtain ⟨_, X, -, -⟩ := X; obtain ⟨hx, hby, -⟩ := C; subst hF
  exact go_by (fun t k => XS.ifnullNo X.here hx rfl (hb hby hd) rfl k) r
theorem g_nonnullY (X : St p l e R s m args below meth c n0 T h cells slots) (C : Cx p s m meth c Z bytes maxL ret own nme) {o : Int} {b : Addr} {pT : Nat} (hd : decode bytes pc = .ok (.ifnonnull o, 3)) (h0 : 0 ≤ (pc : Int) + o) (hT : ((pc : Int) + o).toNat = pT) (r : Go p e below Rest T (mkF m pT L S)) : Go p e below Rest T (mkF m pc L (.ref b :: S)) := by
  obtain ⟨_, X, -, -⟩ := X; obtain ⟨hx, hby, -⟩ := C
  exact go_by (fun t k => XS.ifnonnullYes X.here hx rfl (pc0 := pc) rfl (hb hby hd) rfl h0 hT k) r
theorem g_nonnullN (X : St p l e R s m args below meth c n0 T h cells slots) (C : Cx p s m meth c Z bytes maxL ret own nme) {o : Int} {pF : Nat} (hd : decode bytes pc = .ok (.ifnonnull o, 3)) (hF : pc + 3 = pF) (r : Go p e below Rest T (mkF m pF L S)) : Go p e below Rest T (mkF m pc L (.null :: S)) := by
  obtain ⟨_, X, -, -⟩ := X; obtain ⟨hx, hby, -⟩ := C; subst hF
  exact go_by (fun t k => XS.ifnonnullNo X.here hx rfl (hb hby hd) rfl k) r
theorem g_irem (X : St p l e R s m args below meth c n0 T h cells slots) (C : Cx p s m meth c Z bytes maxL ret own nme) {x y : Int32} (hd : decode bytes pc = .ok (.irem, 1)) (hy : y ≠ 0) (hp : pc + 1 = pc') (r : Go p e below Rest T (mkF m pc' L (.int (x % y) :: S))) : Go p e below Rest T (mkF m pc L (.int y :: .int x :: S)) := by
  obtain ⟨_, X, -, -⟩ := X; obtain ⟨hx, hby, -⟩ := C; subst hp
  exact go_by (fun t k => iremM X hx rfl (hb hby hd) rfl hy k) r
theorem g_lrem (X : St p l e R s m args below meth c n0 T h cells slots) (C : Cx p s m meth c Z bytes maxL ret own nme) {x y : Int64} (hd : decode bytes pc = .ok (.lrem, 1)) (hy : y ≠ 0) (hp : pc + 1 = pc') (r : Go p e below Rest T (mkF m pc' L (.long (x % y) :: S))) : Go p e below Rest T (mkF m pc L (.long y :: .long x :: S)) := by
  obtain ⟨_, X, -, -⟩ := X; obtain ⟨hx, hby, -⟩ := C; subst hp
  rw [← lrem_mod] at r
  exact go_by (fun t k => XS.lrem X.here hx rfl (hb hby hd) rfl hy k) r
theorem g_ldcI (X : St p l e R s m args below meth c n0 T h cells slots) (C : Cx p s m meth c Z bytes maxL ret own nme) {index : Nat} {v : Int32} (w : (Jvm.Cond.constant own index v).before a0 Z = true) (hd : decode bytes pc = .ok (.ldc index, 2)) (hp : pc + 2 = pc') (r : Go p e below Rest T (mkF m pc' L (.int v :: S))) : Go p e below Rest T (mkF m pc L S) := by
  obtain ⟨_, X, -, -⟩ := X; obtain ⟨hx, hby, -, -, -, hown, -, hZ⟩ := C; subst hp
  exact go_by (X.ldcInt hx hown (mvT hZ w) (g := mkF m pc L S) rfl (hb hby hd)) r
theorem g_ldcJ (X : St p l e R s m args below meth c n0 T h cells slots) (C : Cx p s m meth c Z bytes maxL ret own nme) {index : Nat} {v : Int64} (w : (Jvm.Cond.constantLong own index v).before a0 Z = true) (hd : decode bytes pc = .ok (.ldc2_w index, 3)) (hp : pc + 3 = pc') (r : Go p e below Rest T (mkF m pc' L (.long v :: S))) : Go p e below Rest T (mkF m pc L S) := by
  obtain ⟨_, X, -, -⟩ := X; obtain ⟨hx, hby, -, -, -, hown, -, hZ⟩ := C; subst hp
  exact go_by (X.ldc2Long hx hown (mvT hZ w) (g := mkF m pc L S) rfl (hb hby hd)) r
/-- an array: its kind, its length, what each place holds -/
def Ar (Z : State) (h : Heap) (a : Addr) (ty : FieldType) (n : Nat) (fn : Nat → Value) : Prop := ∃ cl : Cell, Arr Z h a cl ty ∧ cl.slots.size = n ∧ ∀ j, j < n → cl.slots[j]? = some (fn j)
theorem Ar.lt {a : Addr} {ty : FieldType} {n : Nat} {fn : Nat → Value} (A : Ar Z h a ty n fn) : a < h.size := by obtain ⟨_, A, -⟩ := A; exact A.lt
theorem Ar.keep {a : Addr} {ty : FieldType} {n : Nat} {fn : Nat → Value} {ws : List Addr} (A : Ar Z h a ty n fn) (K : Keep h h' ws) (q : a ∉ ws) : Ar Z h' a ty n fn := by
  obtain ⟨cl, A, r⟩ := A; exact ⟨cl, ⟨K.2.1 a cl A.1 q, A.2⟩, r⟩
theorem Ar.congr {a : Addr} {ty : FieldType} {n : Nat} {fn gn : Nat → Value} (A : Ar Z h a ty n fn) (q : ∀ j, j < n → fn j = gn j) : Ar Z h a ty n gn := by
  obtain ⟨cl, A, r1, r2⟩ := A; exact ⟨cl, A, r1, fun j hj => by rw [r2 j hj, q j hj]⟩
theorem Ar.set {a : Addr} {ty : FieldType} {n i : Nat} {fn : Nat → Value} {v : Value} (A : Ar Z h a ty n fn) (hi : i < n) (W : Wr h h' a i v) : Ar Z h' a ty n (fun k => if k = i then v else fn k) := by
  obtain ⟨cl, A, r1, r2⟩ := A
  refine ⟨_, A.same W, by rw [sz_set]; exact r1, fun j hj => ?_⟩
  by_cases q : j = i
  · subst q; simp [Cell.setSlot, Array.getElem?_setIfInBounds, r1, hi]
  · have := r2 j hj; simp [Cell.setSlot, Array.getElem?_setIfInBounds, q, Ne.symm q, this]
theorem keepE (E : Ext h h') : Keep h h' [] := (Keep.refl _ _).ext E
theorem keepE' {ws : List Addr} (E : Ext h h') : Keep h h' ws := (Keep.refl _ _).ext E
theorem nneg {z : Int32} {n : Nat} (hz : z.toInt = n) : ¬ z < 0 := by
  rw [Int32.lt_iff_toInt_lt, hz]; have : (0 : Int32).toInt = 0 := by decide
  omega
theorem addn {x y : Int32} {i k : Nat} (hx : x.toInt = i) (hy : y.toInt = k) (hb : i + k < 2147483648) : (x + y).toInt = (i + k : Nat) := by
  have g1 := c_iadd x y; have g2 := rng32 (x + y); omega
theorem clamp_of {j : Int32} {i : Nat} (hi : j.toInt = i) : j.toNatClampNeg = i := by
  rw [Int32.toNatClampNeg, hi]; simp
theorem inb {j : Int32} {i n : Nat} {cl : Cell} (hi : j.toInt = i) (hlt : i < n) (hs : cl.slots.size = n) : ¬ (j < 0 ∨ cl.slots.size ≤ j.toNatClampNeg) := by
  rw [clamp_of hi, hs]
  rintro (q | q)
  · rw [Int32.lt_iff_toInt_lt, hi] at q; have : (0 : Int32).toInt = 0 := by decide
    omega
  · omega
def Ob (Z : State) (h : Heap) (a : Addr) (K : String) (NS : List (String × String)) (vs : List Value) : Prop := Exa Z h a K ∧ ∀ (i : Nat) (n d : String) (v : Value), NS[i]? = some (n, d) → vs[i]? = some v → Fld Z h a K n d v
def CF (Z : State) (a0 : Array Value) (K : String) (NS : List (String × String)) (k : Nat) : Prop := (NS.map (·.1)).Nodup ∧ (∀ x ∈ NS, Laid Z a0 K K x.1 x.2 ∧ (parseFieldDescriptor x.2).isSome = true) ∧ (Jvm.Cond.instantiable K k).before a0 Z = true
theorem Ob.lt {a : Addr} {K : String} {NS : List (String × String)} {vs : List Value} (O : Ob Z h a K NS vs) : a < h.size := O.1.lt
theorem Ob.keep {a : Addr} {K : String} {NS : List (String × String)} {vs : List Value} {ws : List Addr} (O : Ob Z h a K NS vs) (K' : Keep h h' ws) (q : a ∉ ws) : Ob Z h' a K NS vs := ⟨O.1.keep K', fun i n d v h1 h2 => (O.2 i n d v h1 h2).keep K' q⟩
theorem Ob.put {a : Addr} {K : String} {NS : List (String × String)} {vs vs' : List Value} {k i : Nat} {n d : String} {v old : Value} (O : Ob Z h a K NS vs) (F : CF Z a0 K NS k) (hN : NS[i]? = some (n, d)) (ho : vs[i]? = some old) (hvs : vs.set i v = vs') (W : Wr h h' a (Jvm.RoadKit.slotOf Z K n d) v) : Ob Z h' a K NS vs' := by
  subst hvs
  refine ⟨O.1.wr W, fun j n' d' w h1 h2 => ?_⟩
  by_cases q : j = i
  · subst q
    rw [hN] at h1; obtain ⟨rfl, rfl⟩ := Prod.mk.inj (Option.some.inj h1)
    rw [List.getElem?_set_self (by exact (List.getElem?_eq_some_iff.mp ho).1)] at h2
    obtain rfl := Option.some.inj h2
    exact (O.2 _ _ _ _ hN ho).same W
  · rw [List.getElem?_set_ne (Ne.symm q)] at h2
    have hne : n' ≠ n := by
      intro e
      have h3 : (NS.map (·.1))[j]? = some n' := by rw [List.getElem?_map, h1]; rfl
      have h4 : (NS.map (·.1))[i]? = some n := by rw [List.getElem?_map, hN]; rfl
      obtain ⟨l1, e1⟩ := List.getElem?_eq_some_iff.mp h3
      obtain ⟨l2, e2⟩ := List.getElem?_eq_some_iff.mp h4
      rcases Nat.lt_or_gt_of_ne q with u | u
      · exact (List.pairwise_iff_getElem.mp F.1) j i l1 l2 u (by rw [e1, e2, e])
      · exact (List.pairwise_iff_getElem.mp F.1) i j l2 l1 u (by rw [e1, e2, e])
    obtain ⟨p1, p2⟩ := F.2.1 _ (List.mem_of_getElem? h1)
    obtain ⟨p3, p4⟩ := F.2.1 _ (List.mem_of_getElem? hN)
    obtain ⟨t1, q1⟩ := Option.isSome_iff_exists.mp p2
    obtain ⟨t2, q2⟩ := Option.isSome_iff_exists.mp p4
    exact (O.2 _ _ _ _ h1 h2).other W (Or.inr (slot_ne p1 p3 hne q1 q2))
theorem g_getO (X : St p l e R s m args below meth c n0 T h cells slots) (C : Cx p s m meth c Z bytes maxL ret own nme) {a : Addr} {K n d host : String} {NS : List (String × String)} {vs : List Value} {i index : Nat} {v : Value} (O : Ob Z h a K NS vs) (hN : NS[i]? = some (n, d)) (hv : vs[i]? = some v) (w : (Jvm.Cond.fieldLink own index K n d).before a0 Z = true ∨ (Jvm.Cond.fieldLinkNest own index K n d host).before a0 Z = true) (hd : decode bytes pc = .ok (.getfield index, 3)) (hp : pc + 3 = pc') (r : ∀ T', St p l e R s m args below meth c n0 T' h cells slots → Go p e below Rest T' (mkF m pc' L (v :: S))) : Go p e below Rest T (mkF m pc L (.ref a :: S)) := by
  obtain ⟨locs, X, N, eT⟩ := X; obtain ⟨hx, hby, -, -, -, hown, -, hZ⟩ := C; subst hp
  obtain ⟨T', X', e', st⟩ := getF X hx hZ hown w Via.refl eT (O.2 _ _ _ _ hN hv) (g := mkF m pc L (.ref a :: S)) rfl rfl (hb hby hd)
  exact go_by st (r T' ⟨locs, X', N, e'⟩)
theorem g_putO (X : St p l e R s m args below meth c n0 T h cells slots) (C : Cx p s m meth c Z bytes maxL ret own nme) {a : Addr} {K n d host : String} {NS : List (String × String)} {vs vs' : List Value} {i k index : Nat} {v old : Value} {ty : FieldType} (O : Ob Z h a K NS vs) (F : CF Z a0 K NS k) (hN : NS[i]? = some (n, d)) (ho : vs[i]? = some old) (hvs : vs.set i v = vs') (ga : n0 ≤ a) (w : (Jvm.Cond.fieldLink own index K n d).before a0 Z = true ∨ (Jvm.Cond.fieldLinkNest own index K n d host).before a0 Z = true) (Ly : (Jvm.Cond.lays K K n d).before a0 Z = true ∨ ((Jvm.Cond.laysFinal K K n d).before a0 Z = true ∧ own = K ∧ nme = "<init>")) (hty : parseFieldDescriptor d = some ty) (hn : narrow ty v = v) (hf : fits ty v = true) (hd : decode bytes pc = .ok (.putfield index, 3)) (hp : pc + 3 = pc') (r : ∀ T' h', St p l e R s m args below meth c n0 T' h' cells slots → Ob Z h' a K NS vs' → Keep h h' [a] → Go p e below Rest T' (mkF m pc' L S)) : Go p e below Rest T (mkF m pc L (v :: .ref a :: S)) := by
  obtain ⟨locs, X, N, eT⟩ := X; obtain ⟨hx, hby, -, -, -, hown, hnm, hZ⟩ := C; subst hp
  obtain ⟨T', h', X', e', W, st⟩ := putF X hx hZ hown w Via.refl eT (O.2 _ _ _ _ hN ho) O.1 (Ly.imp id fun q => ⟨q.1, q.2.1, by rw [hnm]; exact q.2.2⟩) F.2.2 hty hn hf (g := mkF m pc L (v :: .ref a :: S)) rfl rfl (hb hby hd)
  exact go_by st (r T' h' ⟨_, X', Fr.snoc X' N ga, e'⟩ (O.put F hN ho hvs W) (Keep.of_wr W))
theorem g_putN (X : St p l e R s m args below meth c n0 T h cells slots) (C : Cx p s m meth c Z bytes maxL ret own nme) {a : Addr} {K n d : String} {NS : List (String × String)} {vs vs' : List Value} {i k index : Nat} {v v' old : Value} {ty : FieldType} (O : Ob Z h a K NS vs) (F : CF Z a0 K NS k) (hN : NS[i]? = some (n, d)) (ho : vs[i]? = some old) (hvs : vs.set i v' = vs') (ga : n0 ≤ a) (w : (Jvm.Cond.fieldLink own index K n d).before a0 Z = true) (Ly : (Jvm.Cond.lays K K n d).before a0 Z = true ∨ ((Jvm.Cond.laysFinal K K n d).before a0 Z = true ∧ own = K ∧ nme = "<init>")) (hty : parseFieldDescriptor d = some ty) (hn : narrow ty v = v') (hf : fits ty v' = true) (hd : decode bytes pc = .ok (.putfield index, 3)) (hp : pc + 3 = pc') (r : ∀ T' h', St p l e R s m args below meth c n0 T' h' cells slots → Ob Z h' a K NS vs' → Keep h h' [a] → Go p e below Rest T' (mkF m pc' L S)) : Go p e below Rest T (mkF m pc L (v :: .ref a :: S)) := by
  obtain ⟨locs, X, N, eT⟩ := X; obtain ⟨hx, hby, -, -, -, hown, hnm, hZ⟩ := C; subst hp
  obtain ⟨T', h', X', e', W, st⟩ := putFN X hx hZ hown w Via.refl eT (O.2 _ _ _ _ hN ho) O.1 (Ly.imp id fun q => ⟨q.1, q.2.1, by rw [hnm]; exact q.2.2⟩) F.2.2 hty hn hf (g := mkF m pc L (v :: .ref a :: S)) rfl rfl (hb hby hd)
  exact go_by st (r T' h' ⟨_, X', Fr.snoc X' N ga, e'⟩ (O.put F hN ho hvs W) (Keep.of_wr W))
def NE (a b : Addr) : Prop := a ≠ b
def Lo (n a : Nat) : Prop := n ≤ a
def Sz (b : Addr) (h : Heap) : Prop := b = h.size
theorem NE.symm {a b : Addr} (q : NE a b) : NE b a := Ne.symm q
theorem Sz.ne {a b : Addr} (q : Sz b h) (r : a < h.size) : NE a b := Nat.ne_of_lt (by rw [show b = h.size from q]; exact r)
theorem Sz.lo {b : Addr} {n : Nat} (q : Sz b h) (r : Lo n h.size) : Lo n b := by rw [show b = h.size from q]; exact r
theorem Lo.keep {n : Nat} {ws : List Addr} (q : Lo n h.size) (K : Keep h h' ws) : Lo n h'.size := Nat.le_trans q K.1
theorem Lo.ne {a b : Addr} (q : Lo h.size b) (r : a < h.size) : NE a b := Nat.ne_of_lt (Nat.lt_of_lt_of_le r q)
theorem lone {a b : Addr} (r : a < h.size) (q : Lo h.size b) : NE a b := Nat.ne_of_lt (Nat.lt_of_lt_of_le r q)
theorem Lo.tr {a b c : Nat} (p : Lo a b) (q : Lo b c) : Lo a c := Nat.le_trans p q
theorem Lo.kt {a : Addr} {h0 : Heap} {ws : List Addr} (K : Keep h0 h ws) (q : Lo h.size a) : Lo h0.size a := Nat.le_trans K.1 q
theorem ninN {x y : Addr} {L : List Addr} (q : NE x y) (r : x ∉ L) : x ∉ y :: L := ninS q r
def dflt (d : String) : Value := match parseFieldDescriptor d with | some ty => defaultValue ty | none => .null
theorem g_newO (X : St p l e R s m args below meth c n0 T h cells slots) (C : Cx p s m meth c Z bytes maxL ret own nme) {K : String} {NS : List (String × String)} {vs : List Value} {index k : Nat} (w : (Jvm.Cond.classLink own index K).before a0 Z = true) (F : CF Z a0 K NS k) (wz : (Jvm.Cond.initialized K).before a0 Z = true) (hvs : NS.map (fun x => dflt x.2) = vs) (hc : cells + 1 ≤ R.cells) (hl : slots + k ≤ R.slots) (hd : decode bytes pc = .ok (.new index, 3)) (hp : pc + 3 = pc') (r : ∀ T' h' b, Sz b h → St p l e R s m args below meth c n0 T' h' (cells + 1) (slots + k) → Ob Z h' b K NS vs → Keep h h' [] → Go p e below Rest T' (mkF m pc' L (.ref b :: S))) : Go p e below Rest T (mkF m pc L S) := by
  obtain ⟨locs, X, N, eT⟩ := X; obtain ⟨hx, hby, -, -, -, hown, hnm, hZ⟩ := C; subst hp hvs
  obtain ⟨T', h', X', e', E, A, D, -, st⟩ := newO X hx hZ hown w F.2.2 wz eT (g := mkF m pc L S) rfl (hb hby hd) hc hl
  refine go_by st (r T' h' _ rfl ⟨_, X', N, e'⟩ ⟨A, fun i n d v h1 h2 => ?_⟩ (keepE E))
  obtain ⟨p1, p2⟩ := F.2.1 _ (List.mem_of_getElem? h1)
  obtain ⟨t1, q1⟩ := Option.isSome_iff_exists.mp p2
  rw [List.getElem?_map, h1] at h2
  obtain rfl := Option.some.inj h2
  have := D p1 q1
  simp only [dflt, q1]
  exact this
theorem g_newarr (X : St p l e R s m args below meth c n0 T h cells slots) (C : Cx p s m meth c Z bytes maxL ret own nme) {aty : ArrayType} {z : Int32} {n cap : Nat} (w : (Jvm.Cond.arrayClass (newarray.typeOf aty)).before a0 Z = true) (hz : z.toInt = n) (hcap : n ≤ cap) (hcb : cap * 8 ≤ 536870912) (hc : cells + 1 ≤ R.cells) (hl : slots + cap ≤ R.slots) (hd : decode bytes pc = .ok (.newarray aty, 2)) (hp : pc + 2 = pc') (r : ∀ T' h' b, Sz b h → St p l e R s m args below meth c n0 T' h' (cells + 1) (slots + cap) → Ar Z h' b (newarray.typeOf aty) n (fun _ => defaultValue (newarray.typeOf aty)) → Keep h h' [] → Go p e below Rest T' (mkF m pc' L (.ref b :: S))) : Go p e below Rest T (mkF m pc L (.int z :: S)) := by
  obtain ⟨locs, X, N, eT⟩ := X; obtain ⟨hx, hby, -, -, -, hown, hnm, hZ⟩ := C; subst hp
  have hneg : ¬ z < 0 := nneg hz
  obtain ⟨T', h', cA, X', e', E, A, st⟩ := newP X hx hZ w eT (g := mkF m pc L (.int z :: S)) rfl (hb hby hd) rfl hneg (cap := cap) (by rw [clamp_of hz]; exact hcap) hcb hc hl
  refine go_by st (r T' h' _ rfl ⟨_, X', N, e'⟩ ⟨_, A, by rw [sz_new, clamp_of hz], fun j hj => ?_⟩ (keepE E))
  simp [newA, clamp_of hz, hj]
def ArR (Z : State) (h : Heap) (a : Addr) (K : String) (n : Nat) (fn : Nat → Value) : Prop := ∃ cl : Cell, Arr Z h a cl (.object K) ∧ Ovr Z cl.cls K ∧ cl.slots.size = n ∧ ∀ j, j < n → cl.slots[j]? = some (fn j)
theorem ArR.lt {a : Addr} {K : String} {n : Nat} {fn : Nat → Value} (A : ArR Z h a K n fn) : a < h.size := by obtain ⟨_, A, -⟩ := A; exact A.lt
theorem ArR.keep {a : Addr} {K : String} {n : Nat} {fn : Nat → Value} {ws : List Addr} (A : ArR Z h a K n fn) (K' : Keep h h' ws) (q : a ∉ ws) : ArR Z h' a K n fn := by
  obtain ⟨cl, A, r⟩ := A; exact ⟨cl, ⟨K'.2.1 a cl A.1 q, A.2⟩, r⟩
theorem g_newR (X : St p l e R s m args below meth c n0 T h cells slots) (C : Cx p s m meth c Z bytes maxL ret own nme) {K : String} {index : Nat} {z : Int32} {n cap : Nat} (w1 : (Jvm.Cond.classLink own index K).before a0 Z = true) (w2 : (Jvm.Cond.arrayOver (.object K)).before a0 Z = true) (hz : z.toInt = n) (hcap : n ≤ cap) (hcb : cap * 8 ≤ 536870912) (hc : cells + 1 ≤ R.cells) (hl : slots + cap ≤ R.slots) (hd : decode bytes pc = .ok (.anewarray index, 3)) (hp : pc + 3 = pc') (r : ∀ T' h' b, Sz b h → St p l e R s m args below meth c n0 T' h' (cells + 1) (slots + cap) → ArR Z h' b K n (fun _ => .null) → Keep h h' [] → Go p e below Rest T' (mkF m pc' L (.ref b :: S))) : Go p e below Rest T (mkF m pc L (.int z :: S)) := by
  obtain ⟨locs, X, N, eT⟩ := X; obtain ⟨hx, hby, -, -, -, hown, hnm, hZ⟩ := C; subst hp
  have hneg : ¬ z < 0 := nneg hz
  obtain ⟨T', h', cA, X', e', E, A, Ov, st⟩ := newR X hx hZ hown w1 w2 eT (g := mkF m pc L (.int z :: S)) rfl (hb hby hd) rfl hneg (cap := cap) (by rw [clamp_of hz]; exact hcap) hcb hc hl
  refine go_by st (r T' h' _ rfl ⟨_, X', N, e'⟩ ⟨_, A, Ov, by rw [sz_new, clamp_of hz], fun j hj => ?_⟩ (keepE E))
  simp [newA, clamp_of hz, hj, defaultValue]
theorem g_arrlen (X : St p l e R s m args below meth c n0 T h cells slots) (C : Cx p s m meth c Z bytes maxL ret own nme) {a : Addr} {ty : FieldType} {n : Nat} {fn : Nat → Value} {z : Int32} (A : Ar Z h a ty n fn) (hz : n.toInt32 = z) (hd : decode bytes pc = .ok (.arraylength, 1)) (hp : pc + 1 = pc') (r : Go p e below Rest T (mkF m pc' L (.int z :: S))) : Go p e below Rest T (mkF m pc L (.ref a :: S)) := by
  obtain ⟨locs, X, N, eT⟩ := X; obtain ⟨hx, hby, -, -, -, hown, hnm, hZ⟩ := C; subst hp hz
  obtain ⟨cl, A, r1, r2⟩ := A; subst r1
  exact go_by (fun t k => X.arraylength hx (by rw [eT]; exact A.1) (State.isArrayOf_alike hZ.alike A.2.1) (g := mkF m pc L (.ref a :: S)) rfl rfl (hb hby hd) t k) r
theorem g_iaload (X : St p l e R s m args below meth c n0 T h cells slots) (C : Cx p s m meth c Z bytes maxL ret own nme) {a : Addr} {n i : Nat} {fn : Nat → Value} {j : Int32} {v : Value} (A : Ar Z h a .int n fn) (hi : j.toInt = i) (hlt : i < n) (hv : fn i = v) (hd : decode bytes pc = .ok (.iaload, 1)) (hp : pc + 1 = pc') (r : Go p e below Rest T (mkF m pc' L (v :: S))) : Go p e below Rest T (mkF m pc L (.int j :: .ref a :: S)) := by
  obtain ⟨locs, X, N, eT⟩ := X; obtain ⟨hx, hby, -, -, -, hown, hnm, hZ⟩ := C; subst hp hv
  obtain ⟨cl, A, r1, r2⟩ := A
  exact go_by (fun t k => X.iaload hx (j := j) (by rw [eT]; exact A.1) (State.isArrayOf_alike hZ.alike A.2.1) A.2.2 (inb hi hlt r1) (by rw [clamp_of hi]; exact r2 i hlt) (g := mkF m pc L (.int j :: .ref a :: S)) rfl rfl (hb hby hd) t k) r
theorem g_laload (X : St p l e R s m args below meth c n0 T h cells slots) (C : Cx p s m meth c Z bytes maxL ret own nme) {a : Addr} {n i : Nat} {fn : Nat → Value} {j : Int32} {v : Value} (A : Ar Z h a .long n fn) (hi : j.toInt = i) (hlt : i < n) (hv : fn i = v) (hd : decode bytes pc = .ok (.laload, 1)) (hp : pc + 1 = pc') (r : Go p e below Rest T (mkF m pc' L (v :: S))) : Go p e below Rest T (mkF m pc L (.int j :: .ref a :: S)) := by
  obtain ⟨locs, X, N, eT⟩ := X; obtain ⟨hx, hby, -, -, -, hown, hnm, hZ⟩ := C; subst hp hv
  obtain ⟨cl, A, r1, r2⟩ := A
  exact go_by (fun t k => X.laload hx (j := j) (by rw [eT]; exact A.1) (State.isArrayOf_alike hZ.alike A.2.1) A.2.2 (inb hi hlt r1) (by rw [clamp_of hi]; exact r2 i hlt) (g := mkF m pc L (.int j :: .ref a :: S)) rfl rfl (hb hby hd) t k) r
theorem g_baloadB (X : St p l e R s m args below meth c n0 T h cells slots) (C : Cx p s m meth c Z bytes maxL ret own nme) {a : Addr} {n i : Nat} {fn : Nat → Value} {j : Int32} {v : Value} (A : Ar Z h a .byte n fn) (hi : j.toInt = i) (hlt : i < n) (hv : fn i = v) (hd : decode bytes pc = .ok (.baload, 1)) (hp : pc + 1 = pc') (r : Go p e below Rest T (mkF m pc' L (v :: S))) : Go p e below Rest T (mkF m pc L (.int j :: .ref a :: S)) := by
  obtain ⟨locs, X, N, eT⟩ := X; obtain ⟨hx, hby, -, -, -, hown, hnm, hZ⟩ := C; subst hp hv
  obtain ⟨cl, A, r1, r2⟩ := A
  exact go_by (fun t k => X.baloadBytes hx (j := j) (by rw [eT]; exact A.1) (State.isArrayOf_alike hZ.alike A.2.1) A.2.2 (inb hi hlt r1) (by rw [clamp_of hi]; exact r2 i hlt) (g := mkF m pc L (.int j :: .ref a :: S)) rfl rfl (hb hby hd) t k) r
theorem g_baloadZ (X : St p l e R s m args below meth c n0 T h cells slots) (C : Cx p s m meth c Z bytes maxL ret own nme) {a : Addr} {n i : Nat} {fn : Nat → Value} {j : Int32} {v : Value} (A : Ar Z h a .boolean n fn) (hi : j.toInt = i) (hlt : i < n) (hv : fn i = v) (hd : decode bytes pc = .ok (.baload, 1)) (hp : pc + 1 = pc') (r : Go p e below Rest T (mkF m pc' L (v :: S))) : Go p e below Rest T (mkF m pc L (.int j :: .ref a :: S)) := by
  obtain ⟨locs, X, N, eT⟩ := X; obtain ⟨hx, hby, -, -, -, hown, hnm, hZ⟩ := C; subst hp hv
  obtain ⟨cl, A, r1, r2⟩ := A
  exact go_by (fun t k => X.baloadBooleans hx (j := j) (by rw [eT]; exact A.1) (State.isArrayOf_alike hZ.alike A.2.1) A.2.2 (inb hi hlt r1) (by rw [clamp_of hi]; exact r2 i hlt) (g := mkF m pc L (.int j :: .ref a :: S)) rfl rfl (hb hby hd) t k) r
theorem g_aaload (X : St p l e R s m args below meth c n0 T h cells slots) (C : Cx p s m meth c Z bytes maxL ret own nme) {a : Addr} {n i : Nat} {K : String} {fn : Nat → Value} {j : Int32} {v : Value} (A : ArR Z h a K n fn) (hi : j.toInt = i) (hlt : i < n) (hv : fn i = v) (hd : decode bytes pc = .ok (.aaload, 1)) (hp : pc + 1 = pc') (r : Go p e below Rest T (mkF m pc' L (v :: S))) : Go p e below Rest T (mkF m pc L (.int j :: .ref a :: S)) := by
  obtain ⟨locs, X, N, eT⟩ := X; obtain ⟨hx, hby, -, -, -, hown, hnm, hZ⟩ := C; subst hp hv
  obtain ⟨cl, A, -, r1, r2⟩ := A
  exact go_by (fun t k => X.aaload hx (j := j) (by rw [eT]; exact A.1) (State.isArrayOf_alike hZ.alike A.2.1) rfl A.2.2 (inb hi hlt r1) (by rw [clamp_of hi]; exact r2 i hlt) (g := mkF m pc L (.int j :: .ref a :: S)) rfl rfl (hb hby hd) t k) r
theorem g_iastore (X : St p l e R s m args below meth c n0 T h cells slots) (C : Cx p s m meth c Z bytes maxL ret own nme) {a : Addr} {n i : Nat} {fn : Nat → Int32} {j : Int32} {x : Int32} (A : Ar Z h a .int n (fun k => .int (fn k))) (hi : j.toInt = i) (hlt : i < n) (ga : n0 ≤ a) (hd : decode bytes pc = .ok (.iastore, 1)) (hp : pc + 1 = pc') (r : ∀ T' h', St p l e R s m args below meth c n0 T' h' cells slots → Ar Z h' a .int n (fun k => .int (if k = i then x else fn k)) → Keep h h' [a] → Go p e below Rest T' (mkF m pc' L S)) : Go p e below Rest T (mkF m pc L (.int x :: .int j :: .ref a :: S)) := by
  obtain ⟨locs, X, N, eT⟩ := X; obtain ⟨hx, hby, -, -, -, hown, hnm, hZ⟩ := C; subst hp
  have A0 := A
  obtain ⟨cl, A, r1, r2⟩ := A
  obtain ⟨T', h', X', e', W, st⟩ := stI X hx hZ eT A (j := j) (inb hi hlt r1) (g := mkF m pc L (.int x :: .int j :: .ref a :: S)) rfl rfl (hb hby hd)
  rw [clamp_of hi] at W
  exact go_by st (r T' h' ⟨_, X', Fr.snoc X' N ga, e'⟩ ((A0.set hlt W).congr (fun k hk => by (try dsimp only); split <;> rfl)) (Keep.of_wr W))
theorem g_lastore (X : St p l e R s m args below meth c n0 T h cells slots) (C : Cx p s m meth c Z bytes maxL ret own nme) {a : Addr} {n i : Nat} {fn : Nat → Int64} {j : Int32} {x : Int64} (A : Ar Z h a .long n (fun k => .long (fn k))) (hi : j.toInt = i) (hlt : i < n) (ga : n0 ≤ a) (hd : decode bytes pc = .ok (.lastore, 1)) (hp : pc + 1 = pc') (r : ∀ T' h', St p l e R s m args below meth c n0 T' h' cells slots → Ar Z h' a .long n (fun k => .long (if k = i then x else fn k)) → Keep h h' [a] → Go p e below Rest T' (mkF m pc' L S)) : Go p e below Rest T (mkF m pc L (.long x :: .int j :: .ref a :: S)) := by
  obtain ⟨locs, X, N, eT⟩ := X; obtain ⟨hx, hby, -, -, -, hown, hnm, hZ⟩ := C; subst hp
  have A0 := A
  obtain ⟨cl, A, r1, r2⟩ := A
  obtain ⟨T', h', X', e', W, st⟩ := stJ X hx hZ eT A (j := j) (inb hi hlt r1) (g := mkF m pc L (.long x :: .int j :: .ref a :: S)) rfl rfl (hb hby hd)
  rw [clamp_of hi] at W
  exact go_by st (r T' h' ⟨_, X', Fr.snoc X' N ga, e'⟩ ((A0.set hlt W).congr (fun k hk => by (try dsimp only); split <;> rfl)) (Keep.of_wr W))
theorem g_bastoreB (X : St p l e R s m args below meth c n0 T h cells slots) (C : Cx p s m meth c Z bytes maxL ret own nme) {a : Addr} {n i : Nat} {fn : Nat → Int32} {j : Int32} {x : Int32} (A : Ar Z h a .byte n (fun k => .int (fn k))) (hi : j.toInt = i) (hlt : i < n) (ga : n0 ≤ a) (hd : decode bytes pc = .ok (.bastore, 1)) (hp : pc + 1 = pc') (r : ∀ T' h', St p l e R s m args below meth c n0 T' h' cells slots → Ar Z h' a .byte n (fun k => .int (if k = i then (nar .byte x) else fn k)) → Keep h h' [a] → Go p e below Rest T' (mkF m pc' L S)) : Go p e below Rest T (mkF m pc L (.int x :: .int j :: .ref a :: S)) := by
  obtain ⟨locs, X, N, eT⟩ := X; obtain ⟨hx, hby, -, -, -, hown, hnm, hZ⟩ := C; subst hp
  have A0 := A
  obtain ⟨cl, A, r1, r2⟩ := A
  obtain ⟨T', h', X', e', W, st⟩ := stB X hx hZ eT A (j := j) (inb hi hlt r1) (g := mkF m pc L (.int x :: .int j :: .ref a :: S)) rfl rfl (hb hby hd)
  rw [clamp_of hi] at W
  exact go_by st (r T' h' ⟨_, X', Fr.snoc X' N ga, e'⟩ ((A0.set hlt W).congr (fun k hk => by (try dsimp only); split <;> rfl)) (Keep.of_wr W))
theorem g_bastoreZ (X : St p l e R s m args below meth c n0 T h cells slots) (C : Cx p s m meth c Z bytes maxL ret own nme) {a : Addr} {n i : Nat} {fn : Nat → Int32} {j : Int32} {x : Int32} (A : Ar Z h a .boolean n (fun k => .int (fn k))) (hi : j.toInt = i) (hlt : i < n) (ga : n0 ≤ a) (hd : decode bytes pc = .ok (.bastore, 1)) (hp : pc + 1 = pc') (r : ∀ T' h', St p l e R s m args below meth c n0 T' h' cells slots → Ar Z h' a .boolean n (fun k => .int (if k = i then (nar .boolean x) else fn k)) → Keep h h' [a] → Go p e below Rest T' (mkF m pc' L S)) : Go p e below Rest T (mkF m pc L (.int x :: .int j :: .ref a :: S)) := by
  obtain ⟨locs, X, N, eT⟩ := X; obtain ⟨hx, hby, -, -, -, hown, hnm, hZ⟩ := C; subst hp
  have A0 := A
  obtain ⟨cl, A, r1, r2⟩ := A
  obtain ⟨T', h', X', e', W, st⟩ := stZ X hx hZ eT A (j := j) (inb hi hlt r1) (g := mkF m pc L (.int x :: .int j :: .ref a :: S)) rfl rfl (hb hby hd)
  rw [clamp_of hi] at W
  exact go_by st (r T' h' ⟨_, X', Fr.snoc X' N ga, e'⟩ ((A0.set hlt W).congr (fun k hk => by (try dsimp only); split <;> rfl)) (Keep.of_wr W))
theorem g_initO (X : St p l e R s m args below meth c n0 T h cells slots) (C : Cx p s m meth c Z bytes maxL ret own nme) {index : Nat} {a : Addr} {W : Nat} (w1 : (Jvm.Cond.methodLink own index Lib.objectInit).before a0 Z = true) (w2 : (Jvm.Cond.instanceMethod Lib.objectInit).before a0 Z = true) (w3 : (Jvm.Cond.code Lib.objectInit ⟨#[0xb1]⟩ 1 none).before a0 Z = true) (hsz : L.size = maxL) (hW : (S.map fun v => v.category).sum = W) (hf : 1 ≤ R.frames) (hl : W + 12 ≤ R.locals) (hd : decode bytes pc = .ok (.invokespecial index, 3)) (hp : pc + 3 = pc') (r : ∀ T', St p l e R s m args below meth c n0 T' h cells slots → Go p e below Rest T' (mkF m pc' L S)) : Go p e below Rest T (mkF m pc L (.ref a :: S)) := by
  obtain ⟨locs, X, N, eT⟩ := X; obtain ⟨hx, hby, hml, -, -, hown, hnm, hZ⟩ := C; subst hp
  obtain ⟨T', X', e', st⟩ := initO X hx hZ hown w1 w2 w3 eT (g := mkF m pc L (.ref a :: S)) rfl (by rw [hml]; exact hsz) rfl (hb hby hd) hf (W := W) (by show 2 * 0 + _ ≤ _; omega) hl
  exact go_by st (r T' ⟨locs, X', N, e'⟩)
theorem g_static (X : St p l e R s m args below meth c n0 T h cells slots) (C : Cx p s m meth c Z bytes maxL ret own nme) {y : MethodName} {bytes' : ByteArray} {maxL' : Nat} {ret' : Option FieldType} {rm : Room} {as : Array Value} {Q : Option Value → Heap → Prop} {index : Nat} {W : Nat} {argsL rest : List Value} {ps : List FieldType} {rt : Option FieldType} (hM : Ctr l y bytes' maxL' ret' rm Z n0 as h Q []) (w1 : (Jvm.Cond.methodLink own index y).before a0 Z = true) (w2 : (Jvm.Cond.static y).before a0 Z = true) (w3 : (Jvm.Cond.initialized y.cls).before a0 Z = true) (w4 : (Jvm.Cond.code y bytes' maxL' ret').before a0 Z = true) (hy : y.cls ≠ "java/lang/invoke/MethodHandle" ∧ y.cls ≠ "java/lang/invoke/VarHandle") (pd : parseMethodDescriptor y.desc = some ⟨ps, rt⟩) (hal : argsL.length = ps.length) (has : argsL.toArray = as) (hs : S = argsL.reverse ++ rest) (hsz : L.size = maxL) (hW : (rest.map fun v => v.category).sum = W) (hf : rm.frames + 1 ≤ R.frames) (hl : W + (maxL' + 11) + rm.locals ≤ R.locals) (hc : cells + rm.cells ≤ R.cells) (hsl : slots + rm.slots ≤ R.slots) (hd : decode bytes pc = .ok (.invokestatic index, 3)) (hp : pc + 3 = pc') (r : ∀ v T' h', Q v h' → St p l e R s m args below meth c n0 T' h' (cells + rm.cells) (slots + rm.slots) → Go p e below Rest T' (mkF m pc' L (v.toList ++ rest))) : Go p e below Rest T (mkF m pc L S) := by
  obtain ⟨locs, X, N, eT⟩ := X; obtain ⟨hx, hby, hml, -, -, hown, hnm, hZ⟩ := C; subst hp
  obtain ⟨v, _, ⟨T', L1, k1, n1⟩, -, X', ⟨Lc, ⟨hQ, hN⟩, l1, y1, z1⟩, st⟩ := Jvm.LawKit.callS X hx (y := y) hown (mvT hZ w1) (mvT hZ w2) (mvT hZ w3) (mvT hZ w4) hy (backOf (W := W) (Q := fun v h L => Q v h ∧ Fr n0 L) hM hZ w4 w3 hf hl) (g := mkF m pc L S) rfl (by rw [hml]; exact hsz) (argsL := argsL) (rest := rest) (lenOf pd hal) hs (by show 2 * 0 + _ ≤ _; omega) (hb hby hd) (fun _ _ => ⟨has, eT, hc, hsl⟩)
  dsimp only [Pt.U, Pt.locs, Pt.cells, Pt.slots] at X' l1 y1 z1 st hQ
  subst l1 y1 z1
  exact go_by st (r v T' _ hQ ⟨_, X', Fr.app N hN, rfl⟩)
theorem g_special (X : St p l e R s m args below meth c n0 T h cells slots) (C : Cx p s m meth c Z bytes maxL ret own nme) {y : MethodName} {bytes' : ByteArray} {maxL' : Nat} {ret' : Option FieldType} {rm : Room} {as : Array Value} {Q : Option Value → Heap → Prop} {index : Nat} {W : Nat} {argsL rest : List Value} {ps : List FieldType} {rt : Option FieldType} (hM : Ctr l y bytes' maxL' ret' rm Z n0 as h Q []) {a : Addr} (hy1 : y.name = "<init>") (hret : ret' = none) (w1 : (Jvm.Cond.methodLink own index y).before a0 Z = true) (w2 : (Jvm.Cond.instanceMethod y).before a0 Z = true) (w3 : (Jvm.Cond.initialized y.cls).before a0 Z = true) (w4 : (Jvm.Cond.code y bytes' maxL' ret').before a0 Z = true) (hy : y.cls ≠ "java/lang/invoke/MethodHandle" ∧ y.cls ≠ "java/lang/invoke/VarHandle") (pd : parseMethodDescriptor y.desc = some ⟨ps, rt⟩) (hal : argsL.length = ps.length) (has : (.ref a :: argsL).toArray = as) (hs : S = argsL.reverse ++ .ref a :: rest) (hsz : L.size = maxL) (hW : (rest.map fun v => v.category).sum = W) (hf : rm.frames + 1 ≤ R.frames) (hl : W + (maxL' + 11) + rm.locals ≤ R.locals) (hc : cells + rm.cells ≤ R.cells) (hsl : slots + rm.slots ≤ R.slots) (hd : decode bytes pc = .ok (.invokespecial index, 3)) (hp : pc + 3 = pc') (r : ∀ v T' h', Q v h' → St p l e R s m args below meth c n0 T' h' (cells + rm.cells) (slots + rm.slots) → Go p e below Rest T' (mkF m pc' L (v.toList ++ rest))) : Go p e below Rest T (mkF m pc L S) := by
  obtain ⟨locs, X, N, eT⟩ := X; obtain ⟨hx, hby, hml, -, -, hown, hnm, hZ⟩ := C; subst hp hret
  obtain ⟨v, _, ⟨T', L1, k1, n1⟩, -, X', ⟨Lc, ⟨hQ, hN⟩, l1, y1, z1⟩, st⟩ := X.specialBack hx (y := y) hy1 hown (mvT hZ w1) (mvT hZ w2) (mvT hZ w4) hy (backOf (W := W) (Q := fun v h L => Q v h ∧ Fr n0 L) hM hZ w4 w3 hf hl) (g := mkF m pc L S) rfl (by rw [hml]; exact hsz) (Steps.refl _) (a := a) (argsL := argsL) (rest := rest) (lenOf pd hal) hs (by show 2 * 0 + _ ≤ _; omega) (hb hby hd) (fun _ _ => ⟨has, eT, hc, hsl⟩)
  dsimp only [Pt.U, Pt.locs, Pt.cells, Pt.slots] at X' l1 y1 z1 st hQ
  subst l1 y1 z1
  exact go_tr st (r v T' _ hQ ⟨_, X', Fr.app N hN, rfl⟩)
theorem g_virtual (X : St p l e R s m args below meth c n0 T h cells slots) (C : Cx p s m meth c Z bytes maxL ret own nme) {y : MethodName} {bytes' : ByteArray} {maxL' : Nat} {ret' : Option FieldType} {rm : Room} {as : Array Value} {Q : Option Value → Heap → Prop} {index : Nat} {W : Nat} {argsL rest : List Value} {ps : List FieldType} {rt : Option FieldType} (hM : Ctr l y bytes' maxL' ret' rm Z n0 as h Q []) {a : Addr} (Ex : Exa Z h a y.cls) (w1 : (Jvm.Cond.methodLink own index y).before a0 Z = true) (w2 : (Jvm.Cond.declares y).before a0 Z = true) (ws : (Jvm.Cond.selects y.cls y y).before a0 Z = true) (wi : (Jvm.Cond.instanceMethod y).before a0 Z = true) (w3 : (Jvm.Cond.initialized y.cls).before a0 Z = true) (w4 : (Jvm.Cond.code y bytes' maxL' ret').before a0 Z = true) (hy : y.cls ≠ "java/lang/invoke/MethodHandle" ∧ y.cls ≠ "java/lang/invoke/VarHandle") (pd : parseMethodDescriptor y.desc = some ⟨ps, rt⟩) (hal : argsL.length = ps.length) (has : (.ref a :: argsL).toArray = as) (hs : S = argsL.reverse ++ .ref a :: rest) (hsz : L.size = maxL) (hW : (rest.map fun v => v.category).sum = W) (hf : rm.frames + 1 ≤ R.frames) (hl : W + (maxL' + 11) + rm.locals ≤ R.locals) (hc : cells + rm.cells ≤ R.cells) (hsl : slots + rm.slots ≤ R.slots) (hd : decode bytes pc = .ok (.invokevirtual index, 3)) (hp : pc + 3 = pc') (r : ∀ v T' h', Q v h' → St p l e R s m args below meth c n0 T' h' (cells + rm.cells) (slots + rm.slots) → Go p e below Rest T' (mkF m pc' L (v.toList ++ rest))) : Go p e below Rest T (mkF m pc L S) := by
  obtain ⟨locs, X, N, eT⟩ := X; obtain ⟨hx, hby, hml, -, -, hown, hnm, hZ⟩ := C; subst hp
  obtain ⟨cq, kq, qa, qb, qc⟩ := isOf hZ eT Ex
  obtain ⟨v, _, ⟨T', L1, k1, n1⟩, -, X', ⟨Lc, ⟨hQ, hN⟩, l1, y1, z1⟩, st⟩ := X.virtualBack hx (y := y) (z := y) hown (mvT hZ w1) (mvT hZ w2) (notFace_of_selects (args := #[]) (mvT hZ ws)) (mvT hZ ws) (mvT hZ wi) hy (backOf (W := W) (Q := fun v h L => Q v h ∧ Fr n0 L) hM hZ w4 w3 hf hl) qa qc (g := mkF m pc L S) rfl (by rw [hml]; exact hsz) (Steps.refl _) (argsL := argsL) (rest := rest) (lenOf pd hal) hs (by show 2 * 0 + _ ≤ _; omega) (hb hby hd) (fun _ _ => ⟨has, eT, hc, hsl⟩)
  dsimp only [Pt.U, Pt.locs, Pt.cells, Pt.slots] at X' l1 y1 z1 st hQ
  subst l1 y1 z1
  exact go_tr st (r v T' _ hQ ⟨_, X', Fr.app N hN, rfl⟩)
theorem g_retI {z : Int32} (X : St p l e R s m args below meth c n0 T h cells slots) (C : Cx p s m meth c Z bytes maxL (some .int) own nme) {Q : Option Value → Heap → Prop} {k n : Nat} (hd : decode bytes pc = .ok (.ireturn, 1)) (hQ : Q (some (.int z)) h) (hk : cells ≤ k) (hn : slots ≤ n) : Go p e below (Rs s below n0 Q k n) T (mkF m pc L (.int z :: S)) := by
  obtain ⟨locs, X, N, eT⟩ := X; obtain ⟨hx, hby, -, hret, hlk, -⟩ := C
  obtain ⟨fs, hr, hrun, hended, hW, hsame⟩ := X.leave (v := (some (.int z))) (fun q => by first | rfl | (rw [hret] at q; cases q)) hlk
  refine ⟨_, _, ?_, hrun, hended, _, _, rfl, ⟨?_, N⟩, ⟨_, rfl⟩, hW, hsame.mono hk hn⟩
  · exact retOut X hx hret rfl (Or.inl ⟨rfl, Or.inl rfl, z, rfl⟩) (hb hby hd) hr
  · show Q _ T.heap; rw [eT]; exact hQ
theorem g_retJ {z : Int64} (X : St p l e R s m args below meth c n0 T h cells slots) (C : Cx p s m meth c Z bytes maxL (some .long) own nme) {Q : Option Value → Heap → Prop} {k n : Nat} (hd : decode bytes pc = .ok (.lreturn, 1)) (hQ : Q (some (.long z)) h) (hk : cells ≤ k) (hn : slots ≤ n) : Go p e below (Rs s below n0 Q k n) T (mkF m pc L (.long z :: S)) := by
  obtain ⟨locs, X, N, eT⟩ := X; obtain ⟨hx, hby, -, hret, hlk, -⟩ := C
  obtain ⟨fs, hr, hrun, hended, hW, hsame⟩ := X.leave (v := (some (.long z))) (fun q => by first | rfl | (rw [hret] at q; cases q)) hlk
  refine ⟨_, _, ?_, hrun, hended, _, _, rfl, ⟨?_, N⟩, ⟨_, rfl⟩, hW, hsame.mono hk hn⟩
  · exact retOut X hx hret rfl (Or.inr (Or.inl ⟨rfl, rfl, z, rfl⟩)) (hb hby hd) hr
  · show Q _ T.heap; rw [eT]; exact hQ
theorem g_retZ {z : Int32} (X : St p l e R s m args below meth c n0 T h cells slots) (C : Cx p s m meth c Z bytes maxL (some .boolean) own nme) {Q : Option Value → Heap → Prop} {k n : Nat} (hd : decode bytes pc = .ok (.ireturn, 1)) (hQ : Q (some (.int (nar .boolean z))) h) (hk : cells ≤ k) (hn : slots ≤ n) : Go p e below (Rs s below n0 Q k n) T (mkF m pc L (.int z :: S)) := by
  obtain ⟨locs, X, N, eT⟩ := X; obtain ⟨hx, hby, -, hret, hlk, -⟩ := C
  obtain ⟨fs, hr, hrun, hended, hW, hsame⟩ := X.leave (v := (some (.int (nar .boolean z)))) (fun q => by first | rfl | (rw [hret] at q; cases q)) hlk
  refine ⟨_, _, ?_, hrun, hended, _, _, rfl, ⟨?_, N⟩, ⟨_, rfl⟩, hW, hsame.mono hk hn⟩
  · exact retN X hx (t := .boolean) hret (by simp) (hb hby hd) hr
  · show Q _ T.heap; rw [eT]; exact hQ
theorem g_retB {z : Int32} (X : St p l e R s m args below meth c n0 T h cells slots) (C : Cx p s m meth c Z bytes maxL (some .byte) own nme) {Q : Option Value → Heap → Prop} {k n : Nat} (hd : decode bytes pc = .ok (.ireturn, 1)) (hQ : Q (some (.int (nar .byte z))) h) (hk : cells ≤ k) (hn : slots ≤ n) : Go p e below (Rs s below n0 Q k n) T (mkF m pc L (.int z :: S)) := by
  obtain ⟨locs, X, N, eT⟩ := X; obtain ⟨hx, hby, -, hret, hlk, -⟩ := C
  obtain ⟨fs, hr, hrun, hended, hW, hsame⟩ := X.leave (v := (some (.int (nar .byte z)))) (fun q => by first | rfl | (rw [hret] at q; cases q)) hlk
  refine ⟨_, _, ?_, hrun, hended, _, _, rfl, ⟨?_, N⟩, ⟨_, rfl⟩, hW, hsame.mono hk hn⟩
  · exact retN X hx (t := .byte) hret (by simp) (hb hby hd) hr
  · show Q _ T.heap; rw [eT]; exact hQ
theorem g_retV  (X : St p l e R s m args below meth c n0 T h cells slots) (C : Cx p s m meth c Z bytes maxL none own nme) {Q : Option Value → Heap → Prop} {k n : Nat} (hd : decode bytes pc = .ok (.return_, 1)) (hQ : Q none h) (hk : cells ≤ k) (hn : slots ≤ n) : Go p e below (Rs s below n0 Q k n) T (mkF m pc L []) := by
  obtain ⟨locs, X, N, eT⟩ := X; obtain ⟨hx, hby, -, hret, hlk, -⟩ := C
  obtain ⟨fs, hr, hrun, hended, hW, hsame⟩ := X.leave (v := none) (fun q => by first | rfl | (rw [hret] at q; cases q)) hlk
  refine ⟨_, _, ?_, hrun, hended, _, _, rfl, ⟨?_, N⟩, ⟨_, rfl⟩, hW, hsame.mono hk hn⟩
  · exact X.returnOut hx hret (hb hby hd) hr
  · show Q _ T.heap; rw [eT]; exact hQ
theorem g_retA {v : Value} {ty : FieldType} (X : St p l e R s m args below meth c n0 T h cells slots) (C : Cx p s m meth c Z bytes maxL (some ty) own nme) {Q : Option Value → Heap → Prop} {k n : Nat} (hd : decode bytes pc = .ok (.areturn, 1)) (ht : ty.isReference = true) (hv : v.isRef = true) (hQ : Q (some v) h) (hk : cells ≤ k) (hn : slots ≤ n) : Go p e below (Rs s below n0 Q k n) T (mkF m pc L (v :: S)) := by
  obtain ⟨locs, X, N, eT⟩ := X; obtain ⟨hx, hby, -, hret, hlk, -⟩ := C
  obtain ⟨fs, hr, hrun, hended, hW, hsame⟩ := X.leave (v := (some v)) (fun q => by first | rfl | (rw [hret] at q; cases q)) hlk
  refine ⟨_, _, ?_, hrun, hended, _, _, rfl, ⟨?_, N⟩, ⟨_, rfl⟩, hW, hsame.mono hk hn⟩
  · exact retOut X hx hret (by cases ty <;> cases v <;> simp_all [narrow, FieldType.isReference, Value.isRef]) (Or.inr (Or.inr (Or.inr (Or.inr ⟨rfl, ht, hv⟩)))) (hb hby hd) hr
  · show Q _ T.heap; rw [eT]; exact hQ
theorem refReady {locs : List Loc} (X : Stand p l e R s m args below meth c T locs cells slots) (hZ : Z.Warmed39 s.vm) {R0 n d : String} {index : Nat} (hown : s.vm.findClass own = some m.cls) (w : (Jvm.Cond.fieldRef own index R0 n d).before a0 Z = true) {cf i : Nat} {k : Class} {fd : Field} (h2 : Z.fieldFound? R0 n d = some (cf, k, i, fd)) : T.vm.fieldReady m.cls index cf fd := by
  have hT : Z.Warmed39 T.vm := wtrans hZ X.warmed
  have h3 := Cond.fieldRef_warmed39 hT w
  have hcur : (Z.setVm T.vm).vm.findClass own = some m.cls := by
    show T.vm.findClass own = _
    rw [X.warmed.alike.findClass]; exact hown
  obtain ⟨c', k', i', f', e1, e2⟩ := Cond.fieldRef_spec hcur h3
  obtain ⟨k'', hi, -⟩ := State.fieldFound?_setVm (s := Z) hT.alike h2
  cases e1.symm.trans hi
  exact e2
theorem g_getRef (X : St p l e R s m args below meth c n0 T h cells slots) (C : Cx p s m meth c Z bytes maxL ret own nme) {a : Addr} {K n d : String} {NS : List (String × String)} {vs : List Value} {i index : Nat} {v : Value} (O : Ob Z h a K NS vs) (hN : NS[i]? = some (n, d)) (hv : vs[i]? = some v) (w : (Jvm.Cond.fieldRef own index K n d).before a0 Z = true) (hd : decode bytes pc = .ok (.getfield index, 3)) (hp : pc + 3 = pc') (r : Go p e below Rest T (mkF m pc' L (v :: S))) : Go p e below Rest T (mkF m pc L (.ref a :: S)) := by
  obtain ⟨locs, X, N, eT⟩ := X; obtain ⟨hx, hby, -, -, -, hown, -, hZ⟩ := C; subst hp
  obtain ⟨cell, cf, k, i', fd, h1, h2, h3, h4, -, -, h7⟩ := O.2 _ _ _ _ hN hv
  have hr := refReady X hZ hown w h2
  refine go_by (fun t kt => ?_) r
  have hd' : decode c.code pc = _ := hb hby hd
  jvm_step X.here [hx, hd', getfield.wp_ready (e := e) (s := T) (f := mkF m pc L (.ref a :: S)) X.here.top hr h3 rfl (by rw [eT]; exact h1) h4 h7]
  exact kt
theorem g_putRef (X : St p l e R s m args below meth c n0 T h cells slots) (C : Cx p s m meth c Z bytes maxL ret own nme) {a : Addr} {K n d : String} {NS : List (String × String)} {vs vs' : List Value} {i k index : Nat} {v old : Value} {ty : FieldType} (O : Ob Z h a K NS vs) (F : CF Z a0 K NS k) (hN : NS[i]? = some (n, d)) (ho : vs[i]? = some old) (hvs : vs.set i v = vs') (ga : n0 ≤ a) (w : (Jvm.Cond.fieldRef own index K n d).before a0 Z = true) (Ly : (Jvm.Cond.lays K K n d).before a0 Z = true) (hty : parseFieldDescriptor d = some ty) (hn : narrow ty v = v) (hf : fits ty v = true) (hd : decode bytes pc = .ok (.putfield index, 3)) (hp : pc + 3 = pc') (r : ∀ T' h', St p l e R s m args below meth c n0 T' h' cells slots → Ob Z h' a K NS vs' → Keep h h' [a] → Go p e below Rest T' (mkF m pc' L S)) : Go p e below Rest T (mkF m pc L (v :: .ref a :: S)) := by
  obtain ⟨locs, X, N, eT⟩ := X; obtain ⟨hx, hby, -, -, -, hown, -, hZ⟩ := C; subst hp
  have F0 := O.2 _ _ _ _ hN ho
  obtain ⟨cell, cf, kf, i', fd, h1, h2, h3, h4, h5, -, h7⟩ := F0
  obtain ⟨cell', kc, e1, e2, e3, -⟩ := O.1
  cases h1.symm.trans e1
  obtain ⟨c1, k1, cf1, kf1, i1, f1, a1, a2, a3, -, -, a6, -⟩ := Laid.spec (Or.inl Ly)
  cases h2.symm.trans a3
  cases e2.symm.trans a1
  obtain ⟨c2, k2, j1, j2, j3, -⟩ := Cond.instantiable_spec F.2.2
  cases e2.symm.trans j1
  cases a2.symm.trans j2
  have ht := (State.fieldFound?_type h2 hty).2
  have hr := refReady X hZ hown w h2
  have hTh : T.heap[a]? = some cell := by rw [eT]; exact h1
  have q : Z.slotType? cell.cls cell.vm fd.slot = some ty := by
    simp only [State.slotType?, a2, Option.bind_eq_bind, Option.bind_some, j3]
    cases hq : cell.vm <;> first | (rw [hq] at h5; exact Bool.noConfusion h5) | (rw [a6, ht])
  have hfit : T.fitsSlot cell.cls cell.vm fd.slot v = true := by
    have hT : Z.Warmed39 T.vm := wtrans hZ X.warmed
    have h0 : Z.fitsSlot cell.cls cell.vm fd.slot v = true := by simp [State.fitsSlot, q, hf]
    rw [← State.fitsSlot_setVm hT.alike] at h0; exact h0
  have hlt : fd.slot < cell.slots.size := (Array.getElem?_eq_some_iff.mp h7).1
  have hnf : hasFlag fd.accessFlags Acc.final = false := by
    obtain ⟨_, _, _, _, _, _, -, -, b3, -, b5, -⟩ := Cond.lays_spec Ly
    cases h2.symm.trans b3; exact b5
  have hna : narrow fd.type v = v := by rw [ht]; exact hn
  have X' := X.stored hTh fd.slot v
  have hsl : Jvm.RoadKit.slotOf Z K n d = fd.slot := by simp [Jvm.RoadKit.slotOf, h2]
  have W : Wr h (T.setCell a (cell.setSlot fd.slot v)).heap a (Jvm.RoadKit.slotOf Z K n d) v := ⟨cell, h1, h5, by rw [hsl]; exact hlt, by rw [hsl, ← eT]; rfl⟩
  refine go_by (T' := T.setCell a (cell.setSlot fd.slot v)) (f' := mkF m (pc + 3) L S) (fun t kt => ?_) (r _ _ ⟨_, X', Fr.snoc X' N ga, rfl⟩ (O.put F hN ho hvs W) (Keep.of_wr W))
  have hd' : decode c.code pc = _ := hb hby hd
  jvm_step X.here [hx, hd', putfield.wp_ready (e := e) (s := T) (f := mkF m pc L (v :: .ref a :: S)) X.here.top hr h3 hnf rfl hTh h4, hna, hlt, hfit]
  exact kt
theorem g_specialRef (X : St p l e R s m args below meth c n0 T h cells slots) (C : Cx p s m meth c Z bytes maxL ret own nme) {y : MethodName} {bytes' : ByteArray} {maxL' : Nat} {ret' : Option FieldType} {rm : Room} {as : Array Value} {Q : Option Value → Heap → Prop} {index : Nat} {W : Nat} {argsL rest : List Value} {ps : List FieldType} {rt : Option FieldType} (hM : Ctr l y bytes' maxL' ret' rm Z n0 as h Q []) {a : Addr} (hy1 : y.name = "<init>") (hret : ret' = none) (w1 : (Jvm.Cond.methodRef own index y).before a0 Z = true) (w2 : (Jvm.Cond.instanceMethod y).before a0 Z = true) (w3 : (Jvm.Cond.initialized y.cls).before a0 Z = true) (w4 : (Jvm.Cond.code y bytes' maxL' ret').before a0 Z = true) (hy : y.cls ≠ "java/lang/invoke/MethodHandle" ∧ y.cls ≠ "java/lang/invoke/VarHandle") (pd : parseMethodDescriptor y.desc = some ⟨ps, rt⟩) (hal : argsL.length = ps.length) (has : (.ref a :: argsL).toArray = as) (hs : S = argsL.reverse ++ .ref a :: rest) (hsz : L.size = maxL) (hW : (rest.map fun v => v.category).sum = W) (hf : rm.frames + 1 ≤ R.frames) (hl : W + (maxL' + 11) + rm.locals ≤ R.locals) (hc : cells + rm.cells ≤ R.cells) (hsl : slots + rm.slots ≤ R.slots) (hd : decode bytes pc = .ok (.invokespecial index, 3)) (hp : pc + 3 = pc') (r : ∀ v T' h', Q v h' → St p l e R s m args below meth c n0 T' h' (cells + rm.cells) (slots + rm.slots) → Go p e below Rest T' (mkF m pc' L (v.toList ++ rest))) : Go p e below Rest T (mkF m pc L S) := by
  obtain ⟨locs, X, N, eT⟩ := X; obtain ⟨hx, hby, hml, -, -, hown, hnm, hZ⟩ := C; subst hp hret
  have SC : SCall p l e R s m args below meth c index y := SCall.of_ready hx hy1 (mvT hZ w2) (mvT hZ w4) (fun U r0 hU hn => by
    have hT : Z.Warmed39 U.vm := wtrans hZ hU
    have hnZ : Z.methodNamed? y = some r0 := by rw [← State.methodNamed?_setVm hZ.alike]; exact hn
    have h3 := Cond.methodRef_warmed39 hT hnZ hy w1
    have hcur : (Z.setVm U.vm).vm.findClass own = some m.cls := by
      show U.vm.findClass own = _
      rw [hU.alike.findClass]; exact hown
    obtain ⟨m', c', e1, e2, e3, e4⟩ := Cond.methodRef_named e hcur h3
    rw [State.methodFound?_setVm_of_named hT.alike hnZ hy] at e1
    have e5 := findClass_of_methodNamed hnZ
    have e6 : U.vm.findClass y.cls = some c' := e3
    rw [hT.alike.findClass] at e6
    cases e5.symm.trans e6
    have e7 := State.methodFound?_of_named hnZ hy
    cases e7.symm.trans e1
    exact ⟨e4, e2⟩)
  obtain ⟨v, _, ⟨T', L1, k1, n1⟩, -, X', ⟨Lc, ⟨hQ, hN⟩, l1, y1, z1⟩, st⟩ := SC X (backOf (W := W) (Q := fun v h L => Q v h ∧ Fr n0 L) hM hZ w4 w3 hf hl) (g := mkF m pc L S) rfl (by rw [hml]; exact hsz) (Steps.refl _) (a := a) (argsL := argsL) (rest := rest) (lenOf pd hal) hs (by show 2 * 0 + _ ≤ _; omega) (hb hby hd) (fun _ _ => ⟨has, eT, hc, hsl⟩)
  dsimp only [Pt.U, Pt.locs, Pt.cells, Pt.slots] at X' l1 y1 z1 st hQ
  subst l1 y1 z1
  exact go_tr st (r v T' _ hQ ⟨_, X', Fr.app N hN, rfl⟩)
theorem narrowO {K : String} {v : Value} (h : v.isRef = true) : narrow (.object K) v = v := by cases v <;> simp_all [narrow, Value.isRef]
theorem fitsO {K : String} {v : Value} (h : v.isRef = true) : fits (.object K) v = true := by cases v <;> simp_all [fits, Value.isRef]
end Lay
end Jvm.Own
namespace Jvm.Pilot.@@N@@
open Jvm Jvm.ClassFile Sem Op Lib Jvm.Free Jvm.Stand Jvm.LawKit Jvm.RoadKit Jvm.Own Bundle Jvm.Pilot.@@N@@.Jvm.D
def NS_N : List (String × String) := [("height", "I"), ("key", "J"), ("count", "J"), ("total", "J"), ("left", "Lcom/example/ugello/ugello/service/KeyCounts$Node;"), ("right", "Lcom/example/ugello/ugello/service/KeyCounts$Node;")]
theorem CF_N {Z : State} {a0 : Array Value} (hw : ∀ d ∈ tables_1, d.before a0 Z = true) : CF Z a0 "com/example/ugello/ugello/service/KeyCounts$Node" NS_N 6 := by
  refine ⟨by decide, fun x hx => ?_, (hw _ (List.mem_of_getElem? (i := 20) rfl))⟩
  simp only [NS_N, List.mem_cons, List.not_mem_nil, or_false] at hx
  rcases hx with rfl | rfl | rfl | rfl | rfl | rfl
  · exact ⟨Or.inl (hw _ (List.mem_of_getElem? (i := 27) rfl)), by decide⟩
  · exact ⟨Or.inr (hw _ (List.mem_of_getElem? (i := 29) rfl)), by decide⟩
  · exact ⟨Or.inl (hw _ (List.mem_of_getElem? (i := 31) rfl)), by decide⟩
  · exact ⟨Or.inl (hw _ (List.mem_of_getElem? (i := 33) rfl)), by decide⟩
  · exact ⟨Or.inl (hw _ (List.mem_of_getElem? (i := 36) rfl)), by decide⟩
  · exact ⟨Or.inl (hw _ (List.mem_of_getElem? (i := 48) rfl)), by decide⟩
def NS_KC : List (String × String) := [("root", "Lcom/example/ugello/ugello/service/KeyCounts$Node;")]
theorem CF_KC {Z : State} {a0 : Array Value} (hw : ∀ d ∈ tables_1, d.before a0 Z = true) : CF Z a0 "com/example/ugello/ugello/service/KeyCounts" NS_KC 1 := by
  refine ⟨by decide, fun x hx => ?_, (hw _ (List.mem_of_getElem? (i := 1) rfl))⟩
  simp only [NS_KC, List.mem_cons, List.not_mem_nil, or_false] at hx
  rcases hx with rfl
  · exact ⟨Or.inl (hw _ (List.mem_of_getElem? (i := 15) rfl)), by decide⟩
abbrev Tre := Std.DTreeMap.Internal.Impl Addr (fun _ => Int64 × Int64)
def kht : Tre → Nat
  | .leaf => 0
  | .inner _ _ _ l r => 1 + max (kht l) (kht r)
def ksm : Tre → Int64
  | .leaf => 0
  | .inner _ _ kc l r => ksm l + kc.2 + ksm r
def kad : Tre → List Addr
  | .leaf => []
  | .inner _ a _ l r => a :: (kad l ++ kad r)
def kin : Tre → List (Int64 × Int64)
  | .leaf => []
  | .inner _ _ kc l r => kin l ++ kc :: kin r
def Rep (Z : State) (h : Heap) : Tre → Value → Prop
  | .leaf, v => v = .null
  | .inner _ a kc l r, v => v = .ref a ∧ ∃ (H : Int32) (vl vr : Value), Ob Z h a "com/example/ugello/ugello/service/KeyCounts$Node" NS_N [(.int H), (.long kc.1), (.long kc.2), (.long (ksm l + kc.2 + ksm r)), vl, vr] ∧ H.toInt = ((1 + max (kht l) (kht r) : Nat) : Int) ∧ Rep Z h l vl ∧ Rep Z h r vr
def HS (Z : State) (h : Heap) (v : Value) (H : Int32) (S : Int64) : Prop := (v = .null ∧ H = 0 ∧ S = 0) ∨ ∃ (a : Addr) (k c : Int64) (vl vr : Value), v = .ref a ∧ Ob Z h a "com/example/ugello/ugello/service/KeyCounts$Node" NS_N [(.int H), (.long k), (.long c), (.long S), vl, vr]
theorem HS.isRef {Z : State} {h : Heap} {v : Value} {H : Int32} {S : Int64} (q : HS Z h v H S) : v.isRef = true := by
  rcases q with ⟨rfl, -⟩ | ⟨_, _, _, _, _, rfl, -⟩ <;> rfl
theorem HS.keep {Z : State} {h h' : Heap} {v : Value} {H : Int32} {S : Int64} {ws : List Addr} (q : HS Z h v H S) (K : Keep h h' ws) (n : ∀ x ∈ ws, v ≠ .ref x) : HS Z h' v H S := by
  rcases q with q | ⟨a, k, c, vl, vr, rfl, O⟩
  · exact Or.inl q
  · exact Or.inr ⟨a, k, c, vl, vr, rfl, O.keep K (fun z => n a z rfl)⟩
theorem nv1 {v : Value} {a : Addr} (q : v ≠ .ref a) : ∀ x ∈ [a], v ≠ .ref x := fun x hx => by
  cases List.mem_singleton.mp hx; exact q
theorem Rep.isRef {Z : State} {h : Heap} {t : Tre} {v : Value} (q : Rep Z h t v) : v.isRef = true := by
  cases t with
  | leaf => rw [show v = .null from q]; rfl
  | inner s a kc l r => rw [q.1]; rfl
theorem Rep.keep {Z : State} {h h' : Heap} {ws : List Addr} (K : Keep h h' ws) : ∀ {t : Tre} {v : Value}, Rep Z h t v → (∀ x ∈ kad t, x ∉ ws) → Rep Z h' t v
  | .leaf, _, q, _ => q
  | .inner _ a kc l r, v, q, n => by
    obtain ⟨q1, H, vl, vr, O, hH, ql, qr⟩ := q
    refine ⟨q1, H, vl, vr, O.keep K (n a (by simp [kad])), hH, ?_, ?_⟩
    · exact Rep.keep K ql (fun x hx => n x (by simp [kad, hx]))
    · exact Rep.keep K qr (fun x hx => n x (by simp [kad, hx]))
theorem Rep.lt {Z : State} {h : Heap} : ∀ {t : Tre} {v : Value}, Rep Z h t v → ∀ x ∈ kad t, x < h.size
  | .leaf, _, _, x, hx => nomatch hx
  | .inner _ a kc l r, v, q, x, hx => by
    obtain ⟨q1, H, vl, vr, O, hH, ql, qr⟩ := q
    simp only [kad, List.mem_cons, List.mem_append] at hx
    rcases hx with rfl | hx | hx
    · exact O.lt
    · exact Rep.lt ql x hx
    · exact Rep.lt qr x hx
theorem Rep.ne {Z : State} {h : Heap} {t : Tre} {v : Value} {a : Addr} (q : Rep Z h t v) (n : a ∉ kad t) : v ≠ .ref a := by
  cases t with
  | leaf => rw [show v = .null from q]; exact nofun
  | inner s b kc l r =>
    rw [q.1]; intro e
    have : b = a := Value.ref.inj e
    exact n (by simp [kad, this])
theorem Rep.hs {Z : State} {h : Heap} {t : Tre} {v : Value} (q : Rep Z h t v) : ∃ H : Int32, HS Z h v H (ksm t) ∧ H.toInt = (kht t : Int) := by
  cases t with
  | leaf => exact ⟨0, Or.inl ⟨q, rfl, rfl⟩, by decide⟩
  | inner s a kc l r =>
    obtain ⟨q1, H, vl, vr, O, hH, ql, qr⟩ := q
    exact ⟨H, Or.inr ⟨a, _, _, vl, vr, q1, O⟩, by simpa [kht] using hH⟩
theorem ninL {a : Addr} {t : Tre} (n : a ∉ kad t) : ∀ x ∈ kad t, x ∉ [a] := fun x hx q => by
  cases List.mem_singleton.mp q; exact n hx
theorem ninL2 {a b : Addr} {t : Tre} (n : a ∉ kad t) (n' : b ∉ kad t) : ∀ x ∈ kad t, x ∉ [a, b] := fun x hx q => by
  rcases List.mem_cons.mp q with rfl | q
  · exact n hx
  · cases List.mem_singleton.mp q; exact n' hx
theorem nd_L {a b : Nat} {lo li tx : List Nat} (q : (a :: ((b :: (lo ++ li)) ++ tx)).Nodup) : b ≠ a ∧ (a ∉ lo ∧ a ∉ li ∧ a ∉ tx) ∧ (b ∉ lo ∧ b ∉ li ∧ b ∉ tx) := by
  simp only [List.cons_append, List.append_assoc, List.nodup_cons, List.nodup_append, List.mem_append, List.mem_cons, not_or] at q
  grind
theorem nd_R {a b : Nat} {lo li tx : List Nat} (q : (a :: (tx ++ (b :: (li ++ lo)))).Nodup) : b ≠ a ∧ (a ∉ lo ∧ a ∉ li ∧ a ∉ tx) ∧ (b ∉ lo ∧ b ∉ li ∧ b ∉ tx) := by
  simp only [List.cons_append, List.append_assoc, List.nodup_cons, List.nodup_append, List.mem_append, List.mem_cons, not_or] at q
  grind
theorem nd_LR {a b c : Nat} {lo ci co tx : List Nat} (q : (a :: ((b :: (lo ++ (c :: (ci ++ co)))) ++ tx)).Nodup) : (c ≠ a ∧ c ≠ b) ∧ (c ∉ lo ∧ c ∉ ci ∧ c ∉ co ∧ c ∉ tx) ∧ (b ∉ ci ∧ b ∉ co) ∧ (a ∉ ci ∧ a ∉ co) := by
  simp only [List.cons_append, List.append_assoc, List.nodup_cons, List.nodup_append, List.mem_append, List.mem_cons, not_or] at q
  grind
theorem nd_RL {a b c : Nat} {lo ci co tx : List Nat} (q : (a :: (tx ++ (b :: ((c :: (co ++ ci)) ++ lo)))).Nodup) : (c ≠ a ∧ c ≠ b) ∧ (c ∉ lo ∧ c ∉ ci ∧ c ∉ co ∧ c ∉ tx) ∧ (b ∉ ci ∧ b ∉ co) ∧ (a ∉ ci ∧ a ∉ co) := by
  simp only [List.cons_append, List.append_assoc, List.nodup_cons, List.nodup_append, List.mem_append, List.mem_cons, not_or] at q
  grind
theorem own_lc (x y z : Int64) : x + (y + z) = y + (x + z) := by rw [← Int64.add_assoc, Int64.add_comm x y, Int64.add_assoc]
theorem kht_le : ∀ t : Tre, kht t ≤ (kin t).length
  | .leaf => Nat.le_refl _
  | .inner _ _ _ l r => by have := kht_le l; have := kht_le r; simp only [kht, kin, List.length_append, List.length_cons]; omega
def ksorted (L : List (Int64 × Int64)) : Prop := L.Pairwise (fun x y => x.1.toInt < y.1.toInt)
theorem ksplit {L R : List (Int64 × Int64)} {x : Int64 × Int64} (q : ksorted (L ++ x :: R)) : ksorted L ∧ ksorted R ∧ (∀ y ∈ L, y.1.toInt < x.1.toInt) ∧ (∀ y ∈ R, x.1.toInt < y.1.toInt) := by
  unfold ksorted at *
  rw [List.pairwise_append, List.pairwise_cons] at q
  exact ⟨q.1, q.2.1.2, fun y hy => q.2.2 y hy x (by simp), q.2.1.1⟩
def kins (k d : Int64) : List (Int64 × Int64) → List (Int64 × Int64)
  | [] => [(k, d)]
  | x :: r => if k.toInt < x.1.toInt then (k, d) :: x :: r else if x.1.toInt < k.toInt then x :: kins k d r else (x.1, x.2 + d) :: r
theorem kins_l {k d : Int64} {x : Int64 × Int64} {R : List (Int64 × Int64)} (q : k.toInt < x.1.toInt) : ∀ L, kins k d (L ++ x :: R) = kins k d L ++ x :: R
  | [] => by simp [kins, q]
  | y :: L => by
    simp only [List.cons_append, kins]
    split
    · rfl
    · split
      · rw [kins_l q L]; rfl
      · rfl
theorem kins_r {k d : Int64} {x : Int64 × Int64} {R : List (Int64 × Int64)} (q : x.1.toInt < k.toInt) : ∀ L, (∀ y ∈ L, y.1.toInt < x.1.toInt) → kins k d (L ++ x :: R) = L ++ x :: kins k d R
  | [], _ => by simp only [List.nil_append, kins]; rw [if_neg (by omega), if_pos q]
  | y :: L, h => by
    have hy := h y (by simp)
    simp only [List.cons_append, kins]
    rw [if_neg (by omega), if_pos (by omega), kins_r q L (fun z hz => h z (by simp [hz]))]
theorem kins_e {k d : Int64} {x : Int64 × Int64} {R : List (Int64 × Int64)} (q : x.1.toInt = k.toInt) : ∀ L, (∀ y ∈ L, y.1.toInt < x.1.toInt) → kins k d (L ++ x :: R) = L ++ (x.1, x.2 + d) :: R
  | [], _ => by simp only [List.nil_append, kins]; rw [if_neg (by omega), if_neg (by omega)]
  | y :: L, h => by
    have hy := h y (by simp)
    simp only [List.cons_append, kins]
    rw [if_neg (by omega), if_pos (by omega), kins_e q L (fun z hz => h z (by simp [hz]))]
theorem kins_len (k d : Int64) : ∀ L, (kins k d L).length ≤ L.length + 1
  | [] => Nat.le_refl _
  | y :: L => by
    have := kins_len k d L
    simp only [kins]; split
    · simp
    · split <;> simp <;> omega
theorem kins_mem {k d : Int64} : ∀ {L : List (Int64 × Int64)} {z : Int64 × Int64}, z ∈ kins k d L → z ∈ L ∨ (z.1.toInt = k.toInt ∧ (z.2 = d ∨ ∃ y ∈ L, z.2 = y.2 + d ∧ y.1.toInt = k.toInt))
  | [], z, h => by simp only [kins, List.mem_singleton] at h; subst h; exact Or.inr ⟨rfl, Or.inl rfl⟩
  | y :: L, z, h => by
    simp only [kins] at h
    split at h
    · rcases List.mem_cons.mp h with rfl | h
      · exact Or.inr ⟨rfl, Or.inl rfl⟩
      · exact Or.inl h
    · split at h
      · rcases List.mem_cons.mp h with rfl | h
        · exact Or.inl (by simp)
        · rcases kins_mem h with h | ⟨h1, h2 | ⟨y', h3, h4⟩⟩
          · exact Or.inl (by simp [h])
          · exact Or.inr ⟨h1, Or.inl h2⟩
          · exact Or.inr ⟨h1, Or.inr ⟨y', by simp [h3], h4⟩⟩
      · rcases List.mem_cons.mp h with rfl | h
        · exact Or.inr ⟨by show y.1.toInt = k.toInt; omega, Or.inr ⟨y, by simp, rfl, by omega⟩⟩
        · exact Or.inl (by simp [h])
theorem kins_sorted {k d : Int64} : ∀ {L : List (Int64 × Int64)}, ksorted L → ksorted (kins k d L)
  | [], _ => by simp [kins, ksorted]
  | y :: L, h => by
    unfold ksorted at h ⊢
    rw [List.pairwise_cons] at h
    simp only [kins]
    split
    · rename_i q
      rw [List.pairwise_cons]
      refine ⟨fun z hz => ?_, List.pairwise_cons.mpr h⟩
      rcases List.mem_cons.mp hz with rfl | hz
      · exact q
      · have := h.1 z hz; show k.toInt < z.1.toInt; omega
    · split
      · rename_i q1 q2
        rw [List.pairwise_cons]
        refine ⟨fun z hz => ?_, kins_sorted h.2⟩
        rcases kins_mem hz with hz | ⟨h1, -⟩
        · exact h.1 z hz
        · omega
      · rw [List.pairwise_cons]; exact ⟨h.1, h.2⟩
theorem nd_new {a : Nat} {l l' r : List Nat} {n : Nat} (q : (a :: (l ++ r)).Nodup) (hl : l'.Nodup) (hm : ∀ x ∈ l', x ∈ l ∨ n ≤ x) (ha : a < n) (hr : ∀ x ∈ r, x < n) : (a :: (l' ++ r)).Nodup := by
  simp only [List.nodup_cons, List.nodup_append, List.mem_append, not_or] at q ⊢
  refine ⟨⟨fun h => ?_, q.1.2⟩, hl, q.2.2.1, fun x hx y hy e => ?_⟩
  · rcases hm a h with h | h
    · exact q.1.1 h
    · omega
  · subst e
    rcases hm x hx with h | h
    · exact q.2.2.2 x h x hy rfl
    · have := hr x hy; omega
theorem nd_newR {a : Nat} {l r r' : List Nat} {n : Nat} (q : (a :: (l ++ r)).Nodup) (hl : r'.Nodup) (hm : ∀ x ∈ r', x ∈ r ∨ n ≤ x) (ha : a < n) (hr : ∀ x ∈ l, x < n) : (a :: (l ++ r')).Nodup := by
  simp only [List.nodup_cons, List.nodup_append, List.mem_append, not_or] at q ⊢
  refine ⟨⟨q.1.1, fun h => ?_⟩, q.2.1, hl, fun x hx y hy e => ?_⟩
  · rcases hm a h with h | h
    · exact q.1.2 h
    · omega
  · subst e
    rcases hm x hy with h | h
    · exact q.2.2.2 x hx x h rfl
    · have := hr x hx; omega
def kinz (k d : Int64) : List (Int64 × Int64) → List (Int64 × Int64)
  | [] => [(k, d)]
  | x :: r => if k.toInt < x.1.toInt then (k, d) :: x :: r else if x.1.toInt < k.toInt then x :: kinz k d r else if (x.2 + d).toInt = 0 then r else (x.1, x.2 + d) :: r
theorem kinz_l {k d : Int64} {x : Int64 × Int64} {R : List (Int64 × Int64)} (q : k.toInt < x.1.toInt) : ∀ L, kinz k d (L ++ x :: R) = kinz k d L ++ x :: R
  | [] => by simp [kinz, q]
  | y :: L => by
    simp only [List.cons_append, kinz]
    split
    · rfl
    · split
      · rw [kinz_l q L]; rfl
      · split <;> rfl
theorem kinz_r {k d : Int64} {x : Int64 × Int64} {R : List (Int64 × Int64)} (q : x.1.toInt < k.toInt) : ∀ L, (∀ y ∈ L, y.1.toInt < x.1.toInt) → kinz k d (L ++ x :: R) = L ++ x :: kinz k d R
  | [], _ => by simp only [List.nil_append, kinz]; rw [if_neg (by omega), if_pos q]
  | y :: L, h => by
    have hy := h y (by simp)
    simp only [List.cons_append, kinz]
    rw [if_neg (by omega), if_pos (by omega), kinz_r q L (fun z hz => h z (by simp [hz]))]
theorem kinz_e {k d : Int64} {x : Int64 × Int64} {R : List (Int64 × Int64)} (q : x.1.toInt = k.toInt) (q2 : (x.2 + d).toInt ≠ 0) : ∀ L, (∀ y ∈ L, y.1.toInt < x.1.toInt) → kinz k d (L ++ x :: R) = L ++ (x.1, x.2 + d) :: R
  | [], _ => by simp only [List.nil_append, kinz]; rw [if_neg (by omega), if_neg (by omega), if_neg q2]
  | y :: L, h => by
    have hy := h y (by simp)
    simp only [List.cons_append, kinz]
    rw [if_neg (by omega), if_pos (by omega), kinz_e q q2 L (fun z hz => h z (by simp [hz]))]
theorem kinz_0 {k d : Int64} {x : Int64 × Int64} {R : List (Int64 × Int64)} (q : x.1.toInt = k.toInt) (q2 : (x.2 + d).toInt = 0) : ∀ L, (∀ y ∈ L, y.1.toInt < x.1.toInt) → kinz k d (L ++ x :: R) = L ++ R
  | [], _ => by simp only [List.nil_append, kinz]; rw [if_neg (by omega), if_neg (by omega), if_pos q2]
  | y :: L, h => by
    have hy := h y (by simp)
    simp only [List.cons_append, kinz]
    rw [if_neg (by omega), if_pos (by omega), kinz_0 q q2 L (fun z hz => h z (by simp [hz]))]
theorem kinz_len (k d : Int64) : ∀ L, (kinz k d L).length ≤ L.length + 1
  | [] => Nat.le_refl _
  | y :: L => by
    have := kinz_len k d L
    simp only [kinz]; split
    · simp
    · split
      · simp; omega
      · split <;> simp <;> omega
theorem kinz_mem {k d : Int64} : ∀ {L : List (Int64 × Int64)} {z : Int64 × Int64}, z ∈ kinz k d L → z ∈ L ∨ z.1.toInt = k.toInt
  | [], z, h => by simp only [kinz, List.mem_singleton] at h; subst h; exact Or.inr rfl
  | y :: L, z, h => by
    simp only [kinz] at h
    split at h
    · rcases List.mem_cons.mp h with rfl | h
      · exact Or.inr rfl
      · exact Or.inl h
    · split at h
      · rcases List.mem_cons.mp h with rfl | h
        · exact Or.inl (by simp)
        · rcases kinz_mem h with h | h
          · exact Or.inl (by simp [h])
          · exact Or.inr h
      · split at h
        · exact Or.inl (by simp [h])
        · rcases List.mem_cons.mp h with rfl | h
          · exact Or.inr (by show y.1.toInt = k.toInt; omega)
          · exact Or.inl (by simp [h])
theorem kinz_sorted {k d : Int64} : ∀ {L : List (Int64 × Int64)}, ksorted L → ksorted (kinz k d L)
  | [], _ => by simp [kinz, ksorted]
  | y :: L, h => by
    unfold ksorted at h ⊢
    rw [List.pairwise_cons] at h
    simp only [kinz]
    split
    · rename_i q
      rw [List.pairwise_cons]
      refine ⟨fun z hz => ?_, List.pairwise_cons.mpr h⟩
      rcases List.mem_cons.mp hz with rfl | hz
      · exact q
      · have := h.1 z hz; show k.toInt < z.1.toInt; omega
    · split
      · rename_i q1 q2
        rw [List.pairwise_cons]
        refine ⟨fun z hz => ?_, kinz_sorted h.2⟩
        rcases kinz_mem hz with hz | h1
        · exact h.1 z hz
        · omega
      · split
        · exact h.2
        · rw [List.pairwise_cons]; exact ⟨h.1, h.2⟩
theorem kin1 {t : Tre} {s : Nat} {a : Addr} {kc : Int64 × Int64} {l r : Tre} (h : (kin t).length ≤ 1) (e : t = .inner s a kc l r) : l = .leaf ∧ r = .leaf := by
  subst e
  simp only [kin, List.length_append, List.length_cons] at h
  constructor
  · cases l with
    | leaf => rfl
    | inner => exfalso; simp only [kin, List.length_append, List.length_cons] at h; omega
  · cases r with
    | leaf => rfl
    | inner => exfalso; simp only [kin, List.length_append, List.length_cons] at h; omega
theorem Tcases (t : Tre) : t = .leaf ∨ ∃ s b k c l r, t = .inner s b (k, c) l r := by
  cases t with
  | leaf => exact Or.inl rfl
  | inner s b kc l r => exact Or.inr ⟨s, b, kc.1, kc.2, l, r, rfl⟩
theorem nd_wr {a s : Nat} {l r : List Nat} (q : (a :: (l ++ (s :: ([] ++ r)))).Nodup) : a ≠ s ∧ (a ∉ l ∧ a ∉ r) ∧ (s ∉ l ∧ s ∉ r) ∧ (s :: (l ++ r)).Nodup := by
  simp only [List.nil_append, List.cons_append, List.append_assoc, List.nodup_cons, List.nodup_append, List.mem_append, List.mem_cons, not_or] at q ⊢
  grind
def max32 (x y r : Int32) : Prop := (y.toInt ≤ x.toInt ∧ r.toInt = x.toInt) ∨ (x.toInt ≤ y.toInt ∧ r.toInt = y.toInt)

theorem d1_0 : decode prog_23_method_1_code 0 = .ok (.aload_n 0, 1) := by decide +kernel
theorem d1_1 : decode prog_23_method_1_code 1 = .ok (.invokespecial 1, 3) := by decide +kernel
theorem d1_4 : decode prog_23_method_1_code 4 = .ok (.return_, 1) := by decide +kernel
theorem d3_0 : decode prog_23_method_2_code 0 = .ok (.aload_n 0, 1) := by decide +kernel
theorem d3_1 : decode prog_23_method_2_code 1 = .ok (.aload_n 0, 1) := by decide +kernel
theorem d3_2 : decode prog_23_method_2_code 2 = .ok (.getfield 7, 3) := by decide +kernel
theorem d3_5 : decode prog_23_method_2_code 5 = .ok (.lload_n 1, 1) := by decide +kernel
theorem d3_6 : decode prog_23_method_2_code 6 = .ok (.lload_n 3, 1) := by decide +kernel
theorem d3_7 : decode prog_23_method_2_code 7 = .ok (.invokestatic 13, 3) := by decide +kernel
theorem d3_10 : decode prog_23_method_2_code 10 = .ok (.putfield 7, 3) := by decide +kernel
theorem d3_13 : decode prog_23_method_2_code 13 = .ok (.return_, 1) := by decide +kernel
theorem d4_0 : decode prog_23_method_6_code 0 = .ok (.aload_n 0, 1) := by decide +kernel
theorem d4_1 : decode prog_23_method_6_code 1 = .ok (.ifnonnull 17, 3) := by decide +kernel
theorem d4_4 : decode prog_23_method_6_code 4 = .ok (.new 22, 3) := by decide +kernel
theorem d4_7 : decode prog_23_method_6_code 7 = .ok (.dup, 1) := by decide +kernel
theorem d4_8 : decode prog_23_method_6_code 8 = .ok (.lload_n 1, 1) := by decide +kernel
theorem d4_9 : decode prog_23_method_6_code 9 = .ok (.lload_n 3, 1) := by decide +kernel
theorem d4_10 : decode prog_23_method_6_code 10 = .ok (.invokespecial 36, 3) := by decide +kernel
theorem d4_13 : decode prog_23_method_6_code 13 = .ok (.astore 5, 2) := by decide +kernel
theorem d4_15 : decode prog_23_method_6_code 15 = .ok (.goto 97, 3) := by decide +kernel
theorem d4_18 : decode prog_23_method_6_code 18 = .ok (.lload_n 1, 1) := by decide +kernel
theorem d4_19 : decode prog_23_method_6_code 19 = .ok (.aload_n 0, 1) := by decide +kernel
theorem d4_20 : decode prog_23_method_6_code 20 = .ok (.getfield 21, 3) := by decide +kernel
theorem d4_23 : decode prog_23_method_6_code 23 = .ok (.lcmp, 1) := by decide +kernel
theorem d4_24 : decode prog_23_method_6_code 24 = .ok (.ifCond .ge 25, 3) := by decide +kernel
theorem d4_27 : decode prog_23_method_6_code 27 = .ok (.aload_n 0, 1) := by decide +kernel
theorem d4_28 : decode prog_23_method_6_code 28 = .ok (.aload_n 0, 1) := by decide +kernel
theorem d4_29 : decode prog_23_method_6_code 29 = .ok (.getfield 27, 3) := by decide +kernel
theorem d4_32 : decode prog_23_method_6_code 32 = .ok (.lload_n 1, 1) := by decide +kernel
theorem d4_33 : decode prog_23_method_6_code 33 = .ok (.lload_n 3, 1) := by decide +kernel
theorem d4_34 : decode prog_23_method_6_code 34 = .ok (.invokestatic 13, 3) := by decide +kernel
theorem d4_37 : decode prog_23_method_6_code 37 = .ok (.putfield 27, 3) := by decide +kernel
theorem d4_40 : decode prog_23_method_6_code 40 = .ok (.aload_n 0, 1) := by decide +kernel
theorem d4_41 : decode prog_23_method_6_code 41 = .ok (.invokestatic 39, 3) := by decide +kernel
theorem d4_44 : decode prog_23_method_6_code 44 = .ok (.astore 5, 2) := by decide +kernel
theorem d4_46 : decode prog_23_method_6_code 46 = .ok (.goto 66, 3) := by decide +kernel
theorem d4_49 : decode prog_23_method_6_code 49 = .ok (.lload_n 1, 1) := by decide +kernel
theorem d4_50 : decode prog_23_method_6_code 50 = .ok (.aload_n 0, 1) := by decide +kernel
theorem d4_51 : decode prog_23_method_6_code 51 = .ok (.getfield 21, 3) := by decide +kernel
theorem d4_54 : decode prog_23_method_6_code 54 = .ok (.lcmp, 1) := by decide +kernel
theorem d4_55 : decode prog_23_method_6_code 55 = .ok (.ifCond .le 25, 3) := by decide +kernel
theorem d4_58 : decode prog_23_method_6_code 58 = .ok (.aload_n 0, 1) := by decide +kernel
theorem d4_59 : decode prog_23_method_6_code 59 = .ok (.aload_n 0, 1) := by decide +kernel
theorem d4_60 : decode prog_23_method_6_code 60 = .ok (.getfield 30, 3) := by decide +kernel
theorem d4_63 : decode prog_23_method_6_code 63 = .ok (.lload_n 1, 1) := by decide +kernel
theorem d4_64 : decode prog_23_method_6_code 64 = .ok (.lload_n 3, 1) := by decide +kernel
theorem d4_65 : decode prog_23_method_6_code 65 = .ok (.invokestatic 13, 3) := by decide +kernel
theorem d4_68 : decode prog_23_method_6_code 68 = .ok (.putfield 30, 3) := by decide +kernel
theorem d4_71 : decode prog_23_method_6_code 71 = .ok (.aload_n 0, 1) := by decide +kernel
theorem d4_72 : decode prog_23_method_6_code 72 = .ok (.invokestatic 39, 3) := by decide +kernel
theorem d4_75 : decode prog_23_method_6_code 75 = .ok (.astore 5, 2) := by decide +kernel
theorem d4_77 : decode prog_23_method_6_code 77 = .ok (.goto 35, 3) := by decide +kernel
theorem d4_80 : decode prog_23_method_6_code 80 = .ok (.aload_n 0, 1) := by decide +kernel
theorem d4_81 : decode prog_23_method_6_code 81 = .ok (.dup, 1) := by decide +kernel
theorem d4_82 : decode prog_23_method_6_code 82 = .ok (.getfield 33, 3) := by decide +kernel
theorem d4_85 : decode prog_23_method_6_code 85 = .ok (.lload_n 3, 1) := by decide +kernel
theorem d4_86 : decode prog_23_method_6_code 86 = .ok (.ladd, 1) := by decide +kernel
theorem d4_87 : decode prog_23_method_6_code 87 = .ok (.putfield 33, 3) := by decide +kernel
theorem d4_90 : decode prog_23_method_6_code 90 = .ok (.aload_n 0, 1) := by decide +kernel
theorem d4_91 : decode prog_23_method_6_code 91 = .ok (.getfield 33, 3) := by decide +kernel
theorem d4_94 : decode prog_23_method_6_code 94 = .ok (.lconst 0, 1) := by decide +kernel
theorem d4_95 : decode prog_23_method_6_code 95 = .ok (.lcmp, 1) := by decide +kernel
theorem d4_96 : decode prog_23_method_6_code 96 = .ok (.ifCond .ne 10, 3) := by decide +kernel
theorem d4_99 : decode prog_23_method_6_code 99 = .ok (.aload_n 0, 1) := by decide +kernel
theorem d4_100 : decode prog_23_method_6_code 100 = .ok (.invokestatic 43, 3) := by decide +kernel
theorem d4_103 : decode prog_23_method_6_code 103 = .ok (.goto 7, 3) := by decide +kernel
theorem d4_106 : decode prog_23_method_6_code 106 = .ok (.aload_n 0, 1) := by decide +kernel
theorem d4_107 : decode prog_23_method_6_code 107 = .ok (.invokestatic 39, 3) := by decide +kernel
theorem d4_110 : decode prog_23_method_6_code 110 = .ok (.astore 5, 2) := by decide +kernel
theorem d4_112 : decode prog_23_method_6_code 112 = .ok (.aload 5, 2) := by decide +kernel
theorem d4_114 : decode prog_23_method_6_code 114 = .ok (.areturn, 1) := by decide +kernel
theorem d5_0 : decode prog_24_method_1_code 0 = .ok (.aload_n 0, 1) := by decide +kernel
theorem d5_1 : decode prog_24_method_1_code 1 = .ok (.invokespecial 1, 3) := by decide +kernel
theorem d5_4 : decode prog_24_method_1_code 4 = .ok (.aload_n 0, 1) := by decide +kernel
theorem d5_5 : decode prog_24_method_1_code 5 = .ok (.iconst 1, 1) := by decide +kernel
theorem d5_6 : decode prog_24_method_1_code 6 = .ok (.putfield 7, 3) := by decide +kernel
theorem d5_9 : decode prog_24_method_1_code 9 = .ok (.aload_n 0, 1) := by decide +kernel
theorem d5_10 : decode prog_24_method_1_code 10 = .ok (.lload_n 1, 1) := by decide +kernel
theorem d5_11 : decode prog_24_method_1_code 11 = .ok (.putfield 13, 3) := by decide +kernel
theorem d5_14 : decode prog_24_method_1_code 14 = .ok (.aload_n 0, 1) := by decide +kernel
theorem d5_15 : decode prog_24_method_1_code 15 = .ok (.lload_n 3, 1) := by decide +kernel
theorem d5_16 : decode prog_24_method_1_code 16 = .ok (.putfield 17, 3) := by decide +kernel
theorem d5_19 : decode prog_24_method_1_code 19 = .ok (.aload_n 0, 1) := by decide +kernel
theorem d5_20 : decode prog_24_method_1_code 20 = .ok (.lload_n 3, 1) := by decide +kernel
theorem d5_21 : decode prog_24_method_1_code 21 = .ok (.putfield 20, 3) := by decide +kernel
theorem d5_24 : decode prog_24_method_1_code 24 = .ok (.return_, 1) := by decide +kernel
theorem d6_0 : decode prog_23_method_9_code 0 = .ok (.aload_n 0, 1) := by decide +kernel
theorem d6_1 : decode prog_23_method_9_code 1 = .ok (.invokestatic 49, 3) := by decide +kernel
theorem d6_4 : decode prog_23_method_9_code 4 = .ok (.aload_n 0, 1) := by decide +kernel
theorem d6_5 : decode prog_23_method_9_code 5 = .ok (.getfield 27, 3) := by decide +kernel
theorem d6_8 : decode prog_23_method_9_code 8 = .ok (.invokestatic 53, 3) := by decide +kernel
theorem d6_11 : decode prog_23_method_9_code 11 = .ok (.aload_n 0, 1) := by decide +kernel
theorem d6_12 : decode prog_23_method_9_code 12 = .ok (.getfield 30, 3) := by decide +kernel
theorem d6_15 : decode prog_23_method_9_code 15 = .ok (.invokestatic 53, 3) := by decide +kernel
theorem d6_18 : decode prog_23_method_9_code 18 = .ok (.isub, 1) := by decide +kernel
theorem d6_19 : decode prog_23_method_9_code 19 = .ok (.istore_n 1, 1) := by decide +kernel
theorem d6_20 : decode prog_23_method_9_code 20 = .ok (.aload_n 0, 1) := by decide +kernel
theorem d6_21 : decode prog_23_method_9_code 21 = .ok (.astore_n 2, 1) := by decide +kernel
theorem d6_22 : decode prog_23_method_9_code 22 = .ok (.iload_n 1, 1) := by decide +kernel
theorem d6_23 : decode prog_23_method_9_code 23 = .ok (.iconst 1, 1) := by decide +kernel
theorem d6_24 : decode prog_23_method_9_code 24 = .ok (.if_icmp .le 45, 3) := by decide +kernel
theorem d6_27 : decode prog_23_method_9_code 27 = .ok (.aload_n 0, 1) := by decide +kernel
theorem d6_28 : decode prog_23_method_9_code 28 = .ok (.getfield 27, 3) := by decide +kernel
theorem d6_31 : decode prog_23_method_9_code 31 = .ok (.getfield 27, 3) := by decide +kernel
theorem d6_34 : decode prog_23_method_9_code 34 = .ok (.invokestatic 53, 3) := by decide +kernel
theorem d6_37 : decode prog_23_method_9_code 37 = .ok (.aload_n 0, 1) := by decide +kernel
theorem d6_38 : decode prog_23_method_9_code 38 = .ok (.getfield 27, 3) := by decide +kernel
theorem d6_41 : decode prog_23_method_9_code 41 = .ok (.getfield 30, 3) := by decide +kernel
theorem d6_44 : decode prog_23_method_9_code 44 = .ok (.invokestatic 53, 3) := by decide +kernel
theorem d6_47 : decode prog_23_method_9_code 47 = .ok (.if_icmp .ge 14, 3) := by decide +kernel
theorem d6_50 : decode prog_23_method_9_code 50 = .ok (.aload_n 0, 1) := by decide +kernel
theorem d6_51 : decode prog_23_method_9_code 51 = .ok (.aload_n 0, 1) := by decide +kernel
theorem d6_52 : decode prog_23_method_9_code 52 = .ok (.getfield 27, 3) := by decide +kernel
theorem d6_55 : decode prog_23_method_9_code 55 = .ok (.invokestatic 57, 3) := by decide +kernel
theorem d6_58 : decode prog_23_method_9_code 58 = .ok (.putfield 27, 3) := by decide +kernel
theorem d6_61 : decode prog_23_method_9_code 61 = .ok (.aload_n 0, 1) := by decide +kernel
theorem d6_62 : decode prog_23_method_9_code 62 = .ok (.invokestatic 60, 3) := by decide +kernel
theorem d6_65 : decode prog_23_method_9_code 65 = .ok (.astore_n 2, 1) := by decide +kernel
theorem d6_66 : decode prog_23_method_9_code 66 = .ok (.goto 47, 3) := by decide +kernel
theorem d6_69 : decode prog_23_method_9_code 69 = .ok (.iload_n 1, 1) := by decide +kernel
theorem d6_70 : decode prog_23_method_9_code 70 = .ok (.iconst (-1), 1) := by decide +kernel
theorem d6_71 : decode prog_23_method_9_code 71 = .ok (.if_icmp .ge 42, 3) := by decide +kernel
theorem d6_74 : decode prog_23_method_9_code 74 = .ok (.aload_n 0, 1) := by decide +kernel
theorem d6_75 : decode prog_23_method_9_code 75 = .ok (.getfield 30, 3) := by decide +kernel
theorem d6_78 : decode prog_23_method_9_code 78 = .ok (.getfield 30, 3) := by decide +kernel
theorem d6_81 : decode prog_23_method_9_code 81 = .ok (.invokestatic 53, 3) := by decide +kernel
theorem d6_84 : decode prog_23_method_9_code 84 = .ok (.aload_n 0, 1) := by decide +kernel
theorem d6_85 : decode prog_23_method_9_code 85 = .ok (.getfield 30, 3) := by decide +kernel
theorem d6_88 : decode prog_23_method_9_code 88 = .ok (.getfield 27, 3) := by decide +kernel
theorem d6_91 : decode prog_23_method_9_code 91 = .ok (.invokestatic 53, 3) := by decide +kernel
theorem d6_94 : decode prog_23_method_9_code 94 = .ok (.if_icmp .ge 14, 3) := by decide +kernel
theorem d6_97 : decode prog_23_method_9_code 97 = .ok (.aload_n 0, 1) := by decide +kernel
theorem d6_98 : decode prog_23_method_9_code 98 = .ok (.aload_n 0, 1) := by decide +kernel
theorem d6_99 : decode prog_23_method_9_code 99 = .ok (.getfield 30, 3) := by decide +kernel
theorem d6_102 : decode prog_23_method_9_code 102 = .ok (.invokestatic 60, 3) := by decide +kernel
theorem d6_105 : decode prog_23_method_9_code 105 = .ok (.putfield 30, 3) := by decide +kernel
theorem d6_108 : decode prog_23_method_9_code 108 = .ok (.aload_n 0, 1) := by decide +kernel
theorem d6_109 : decode prog_23_method_9_code 109 = .ok (.invokestatic 57, 3) := by decide +kernel
theorem d6_112 : decode prog_23_method_9_code 112 = .ok (.astore_n 2, 1) := by decide +kernel
theorem d6_113 : decode prog_23_method_9_code 113 = .ok (.aload_n 2, 1) := by decide +kernel
theorem d6_114 : decode prog_23_method_9_code 114 = .ok (.areturn, 1) := by decide +kernel
theorem d7_0 : decode prog_23_method_12_code 0 = .ok (.aload_n 0, 1) := by decide +kernel
theorem d7_1 : decode prog_23_method_12_code 1 = .ok (.iconst 1, 1) := by decide +kernel
theorem d7_2 : decode prog_23_method_12_code 2 = .ok (.aload_n 0, 1) := by decide +kernel
theorem d7_3 : decode prog_23_method_12_code 3 = .ok (.getfield 27, 3) := by decide +kernel
theorem d7_6 : decode prog_23_method_12_code 6 = .ok (.invokestatic 53, 3) := by decide +kernel
theorem d7_9 : decode prog_23_method_12_code 9 = .ok (.aload_n 0, 1) := by decide +kernel
theorem d7_10 : decode prog_23_method_12_code 10 = .ok (.getfield 30, 3) := by decide +kernel
theorem d7_13 : decode prog_23_method_12_code 13 = .ok (.invokestatic 53, 3) := by decide +kernel
theorem d7_16 : decode prog_23_method_12_code 16 = .ok (.invokestatic 63, 3) := by decide +kernel
theorem d7_19 : decode prog_23_method_12_code 19 = .ok (.iadd, 1) := by decide +kernel
theorem d7_20 : decode prog_23_method_12_code 20 = .ok (.putfield 69, 3) := by decide +kernel
theorem d7_23 : decode prog_23_method_12_code 23 = .ok (.aload_n 0, 1) := by decide +kernel
theorem d7_24 : decode prog_23_method_12_code 24 = .ok (.aload_n 0, 1) := by decide +kernel
theorem d7_25 : decode prog_23_method_12_code 25 = .ok (.getfield 27, 3) := by decide +kernel
theorem d7_28 : decode prog_23_method_12_code 28 = .ok (.invokestatic 17, 3) := by decide +kernel
theorem d7_31 : decode prog_23_method_12_code 31 = .ok (.aload_n 0, 1) := by decide +kernel
theorem d7_32 : decode prog_23_method_12_code 32 = .ok (.getfield 33, 3) := by decide +kernel
theorem d7_35 : decode prog_23_method_12_code 35 = .ok (.ladd, 1) := by decide +kernel
theorem d7_36 : decode prog_23_method_12_code 36 = .ok (.aload_n 0, 1) := by decide +kernel
theorem d7_37 : decode prog_23_method_12_code 37 = .ok (.getfield 30, 3) := by decide +kernel
theorem d7_40 : decode prog_23_method_12_code 40 = .ok (.invokestatic 17, 3) := by decide +kernel
theorem d7_43 : decode prog_23_method_12_code 43 = .ok (.ladd, 1) := by decide +kernel
theorem d7_44 : decode prog_23_method_12_code 44 = .ok (.putfield 72, 3) := by decide +kernel
theorem d7_47 : decode prog_23_method_12_code 47 = .ok (.return_, 1) := by decide +kernel
theorem d8_0 : decode prog_23_method_13_code 0 = .ok (.aload_n 0, 1) := by decide +kernel
theorem d8_1 : decode prog_23_method_13_code 1 = .ok (.ifnonnull 7, 3) := by decide +kernel
theorem d8_4 : decode prog_23_method_13_code 4 = .ok (.iconst 0, 1) := by decide +kernel
theorem d8_5 : decode prog_23_method_13_code 5 = .ok (.goto 7, 3) := by decide +kernel
theorem d8_8 : decode prog_23_method_13_code 8 = .ok (.aload_n 0, 1) := by decide +kernel
theorem d8_9 : decode prog_23_method_13_code 9 = .ok (.getfield 69, 3) := by decide +kernel
theorem d8_12 : decode prog_23_method_13_code 12 = .ok (.ireturn, 1) := by decide +kernel
theorem d9_0 : decode jdk_29_method_65_code 0 = .ok (.iload_n 0, 1) := by decide +kernel
theorem d9_1 : decode jdk_29_method_65_code 1 = .ok (.iload_n 1, 1) := by decide +kernel
theorem d9_2 : decode jdk_29_method_65_code 2 = .ok (.if_icmp .lt 7, 3) := by decide +kernel
theorem d9_5 : decode jdk_29_method_65_code 5 = .ok (.iload_n 0, 1) := by decide +kernel
theorem d9_6 : decode jdk_29_method_65_code 6 = .ok (.goto 4, 3) := by decide +kernel
theorem d9_9 : decode jdk_29_method_65_code 9 = .ok (.iload_n 1, 1) := by decide +kernel
theorem d9_10 : decode jdk_29_method_65_code 10 = .ok (.ireturn, 1) := by decide +kernel
theorem d10_0 : decode prog_23_method_14_code 0 = .ok (.aload_n 0, 1) := by decide +kernel
theorem d10_1 : decode prog_23_method_14_code 1 = .ok (.ifnonnull 7, 3) := by decide +kernel
theorem d10_4 : decode prog_23_method_14_code 4 = .ok (.lconst 0, 1) := by decide +kernel
theorem d10_5 : decode prog_23_method_14_code 5 = .ok (.goto 7, 3) := by decide +kernel
theorem d10_8 : decode prog_23_method_14_code 8 = .ok (.aload_n 0, 1) := by decide +kernel
theorem d10_9 : decode prog_23_method_14_code 9 = .ok (.getfield 72, 3) := by decide +kernel
theorem d10_12 : decode prog_23_method_14_code 12 = .ok (.lreturn, 1) := by decide +kernel
theorem d11_0 : decode prog_23_method_10_code 0 = .ok (.aload_n 0, 1) := by decide +kernel
theorem d11_1 : decode prog_23_method_10_code 1 = .ok (.getfield 27, 3) := by decide +kernel
theorem d11_4 : decode prog_23_method_10_code 4 = .ok (.astore_n 1, 1) := by decide +kernel
theorem d11_5 : decode prog_23_method_10_code 5 = .ok (.aload_n 0, 1) := by decide +kernel
theorem d11_6 : decode prog_23_method_10_code 6 = .ok (.aload_n 1, 1) := by decide +kernel
theorem d11_7 : decode prog_23_method_10_code 7 = .ok (.getfield 30, 3) := by decide +kernel
theorem d11_10 : decode prog_23_method_10_code 10 = .ok (.putfield 27, 3) := by decide +kernel
theorem d11_13 : decode prog_23_method_10_code 13 = .ok (.aload_n 1, 1) := by decide +kernel
theorem d11_14 : decode prog_23_method_10_code 14 = .ok (.aload_n 0, 1) := by decide +kernel
theorem d11_15 : decode prog_23_method_10_code 15 = .ok (.putfield 30, 3) := by decide +kernel
theorem d11_18 : decode prog_23_method_10_code 18 = .ok (.aload_n 0, 1) := by decide +kernel
theorem d11_19 : decode prog_23_method_10_code 19 = .ok (.invokestatic 49, 3) := by decide +kernel
theorem d11_22 : decode prog_23_method_10_code 22 = .ok (.aload_n 1, 1) := by decide +kernel
theorem d11_23 : decode prog_23_method_10_code 23 = .ok (.invokestatic 49, 3) := by decide +kernel
theorem d11_26 : decode prog_23_method_10_code 26 = .ok (.aload_n 1, 1) := by decide +kernel
theorem d11_27 : decode prog_23_method_10_code 27 = .ok (.areturn, 1) := by decide +kernel
theorem d12_0 : decode prog_23_method_4_code 0 = .ok (.aload_n 0, 1) := by decide +kernel
theorem d12_1 : decode prog_23_method_4_code 1 = .ok (.getfield 7, 3) := by decide +kernel
theorem d12_4 : decode prog_23_method_4_code 4 = .ok (.astore_n 3, 1) := by decide +kernel
theorem d12_5 : decode prog_23_method_4_code 5 = .ok (.aload_n 3, 1) := by decide +kernel
theorem d12_6 : decode prog_23_method_4_code 6 = .ok (.ifnull 36, 3) := by decide +kernel
theorem d12_9 : decode prog_23_method_4_code 9 = .ok (.aload_n 3, 1) := by decide +kernel
theorem d12_10 : decode prog_23_method_4_code 10 = .ok (.getfield 21, 3) := by decide +kernel
theorem d12_13 : decode prog_23_method_4_code 13 = .ok (.lload_n 1, 1) := by decide +kernel
theorem d12_14 : decode prog_23_method_4_code 14 = .ok (.lcmp, 1) := by decide +kernel
theorem d12_15 : decode prog_23_method_4_code 15 = .ok (.ifCond .eq 27, 3) := by decide +kernel
theorem d12_18 : decode prog_23_method_4_code 18 = .ok (.lload_n 1, 1) := by decide +kernel
theorem d12_19 : decode prog_23_method_4_code 19 = .ok (.aload_n 3, 1) := by decide +kernel
theorem d12_20 : decode prog_23_method_4_code 20 = .ok (.getfield 21, 3) := by decide +kernel
theorem d12_23 : decode prog_23_method_4_code 23 = .ok (.lcmp, 1) := by decide +kernel
theorem d12_24 : decode prog_23_method_4_code 24 = .ok (.ifCond .ge 10, 3) := by decide +kernel
theorem d12_27 : decode prog_23_method_4_code 27 = .ok (.aload_n 3, 1) := by decide +kernel
theorem d12_28 : decode prog_23_method_4_code 28 = .ok (.getfield 27, 3) := by decide +kernel
theorem d12_31 : decode prog_23_method_4_code 31 = .ok (.goto 7, 3) := by decide +kernel
theorem d12_34 : decode prog_23_method_4_code 34 = .ok (.aload_n 3, 1) := by decide +kernel
theorem d12_35 : decode prog_23_method_4_code 35 = .ok (.getfield 30, 3) := by decide +kernel
theorem d12_38 : decode prog_23_method_4_code 38 = .ok (.astore_n 3, 1) := by decide +kernel
theorem d12_39 : decode prog_23_method_4_code 39 = .ok (.goto (-34), 3) := by decide +kernel
theorem d12_42 : decode prog_23_method_4_code 42 = .ok (.aload_n 3, 1) := by decide +kernel
theorem d12_43 : decode prog_23_method_4_code 43 = .ok (.ifnonnull 7, 3) := by decide +kernel
theorem d12_46 : decode prog_23_method_4_code 46 = .ok (.lconst 0, 1) := by decide +kernel
theorem d12_47 : decode prog_23_method_4_code 47 = .ok (.goto 7, 3) := by decide +kernel
theorem d12_50 : decode prog_23_method_4_code 50 = .ok (.aload_n 3, 1) := by decide +kernel
theorem d12_51 : decode prog_23_method_4_code 51 = .ok (.getfield 33, 3) := by decide +kernel
theorem d12_54 : decode prog_23_method_4_code 54 = .ok (.lreturn, 1) := by decide +kernel
theorem d13_0 : decode method_3_code 0 = .ok (.lconst 0, 1) := by decide +kernel
theorem d13_1 : decode method_3_code 1 = .ok (.lstore 15, 2) := by decide +kernel
theorem d13_3 : decode method_3_code 3 = .ok (.lload_n 0, 1) := by decide +kernel
theorem d13_4 : decode method_3_code 4 = .ok (.lload_n 2, 1) := by decide +kernel
theorem d13_5 : decode method_3_code 5 = .ok (.lcmp, 1) := by decide +kernel
theorem d13_6 : decode method_3_code 6 = .ok (.ifCond .ne 15, 3) := by decide +kernel
theorem d13_9 : decode method_3_code 9 = .ok (.iload 14, 2) := by decide +kernel
theorem d13_11 : decode method_3_code 11 = .ok (.ifCond .ne 10, 3) := by decide +kernel
theorem d13_14 : decode method_3_code 14 = .ok (.lload 15, 2) := by decide +kernel
theorem d13_16 : decode method_3_code 16 = .ok (.lload 8, 2) := by decide +kernel
theorem d13_18 : decode method_3_code 18 = .ok (.ladd, 1) := by decide +kernel
theorem d13_19 : decode method_3_code 19 = .ok (.lstore 15, 2) := by decide +kernel
theorem d13_21 : decode method_3_code 21 = .ok (.lload_n 0, 1) := by decide +kernel
theorem d13_22 : decode method_3_code 22 = .ok (.lload 4, 2) := by decide +kernel
theorem d13_24 : decode method_3_code 24 = .ok (.lcmp, 1) := by decide +kernel
theorem d13_25 : decode method_3_code 25 = .ok (.ifCond .ne 10, 3) := by decide +kernel
theorem d13_28 : decode method_3_code 28 = .ok (.lload 15, 2) := by decide +kernel
theorem d13_30 : decode method_3_code 30 = .ok (.lload 10, 2) := by decide +kernel
theorem d13_32 : decode method_3_code 32 = .ok (.ladd, 1) := by decide +kernel
theorem d13_33 : decode method_3_code 33 = .ok (.lstore 15, 2) := by decide +kernel
theorem d13_35 : decode method_3_code 35 = .ok (.lload_n 0, 1) := by decide +kernel
theorem d13_36 : decode method_3_code 36 = .ok (.lload 6, 2) := by decide +kernel
theorem d13_38 : decode method_3_code 38 = .ok (.lcmp, 1) := by decide +kernel
theorem d13_39 : decode method_3_code 39 = .ok (.ifCond .ne 10, 3) := by decide +kernel
theorem d13_42 : decode method_3_code 42 = .ok (.lload 15, 2) := by decide +kernel
theorem d13_44 : decode method_3_code 44 = .ok (.lload 12, 2) := by decide +kernel
theorem d13_46 : decode method_3_code 46 = .ok (.ladd, 1) := by decide +kernel
theorem d13_47 : decode method_3_code 47 = .ok (.lstore 15, 2) := by decide +kernel
theorem d13_49 : decode method_3_code 49 = .ok (.lload 15, 2) := by decide +kernel
theorem d13_51 : decode method_3_code 51 = .ok (.lreturn, 1) := by decide +kernel
theorem d14_0 : decode prog_23_method_11_code 0 = .ok (.aload_n 0, 1) := by decide +kernel
theorem d14_1 : decode prog_23_method_11_code 1 = .ok (.getfield 30, 3) := by decide +kernel
theorem d14_4 : decode prog_23_method_11_code 4 = .ok (.astore_n 1, 1) := by decide +kernel
theorem d14_5 : decode prog_23_method_11_code 5 = .ok (.aload_n 0, 1) := by decide +kernel
theorem d14_6 : decode prog_23_method_11_code 6 = .ok (.aload_n 1, 1) := by decide +kernel
theorem d14_7 : decode prog_23_method_11_code 7 = .ok (.getfield 27, 3) := by decide +kernel
theorem d14_10 : decode prog_23_method_11_code 10 = .ok (.putfield 30, 3) := by decide +kernel
theorem d14_13 : decode prog_23_method_11_code 13 = .ok (.aload_n 1, 1) := by decide +kernel
theorem d14_14 : decode prog_23_method_11_code 14 = .ok (.aload_n 0, 1) := by decide +kernel
theorem d14_15 : decode prog_23_method_11_code 15 = .ok (.putfield 27, 3) := by decide +kernel
theorem d14_18 : decode prog_23_method_11_code 18 = .ok (.aload_n 0, 1) := by decide +kernel
theorem d14_19 : decode prog_23_method_11_code 19 = .ok (.invokestatic 49, 3) := by decide +kernel
theorem d14_22 : decode prog_23_method_11_code 22 = .ok (.aload_n 1, 1) := by decide +kernel
theorem d14_23 : decode prog_23_method_11_code 23 = .ok (.invokestatic 49, 3) := by decide +kernel
theorem d14_26 : decode prog_23_method_11_code 26 = .ok (.aload_n 1, 1) := by decide +kernel
theorem d14_27 : decode prog_23_method_11_code 27 = .ok (.areturn, 1) := by decide +kernel
theorem d15_0 : decode prog_23_method_7_code 0 = .ok (.aload_n 0, 1) := by decide +kernel
theorem d15_1 : decode prog_23_method_7_code 1 = .ok (.getfield 27, 3) := by decide +kernel
theorem d15_4 : decode prog_23_method_7_code 4 = .ok (.ifnonnull 11, 3) := by decide +kernel
theorem d15_7 : decode prog_23_method_7_code 7 = .ok (.aload_n 0, 1) := by decide +kernel
theorem d15_8 : decode prog_23_method_7_code 8 = .ok (.getfield 30, 3) := by decide +kernel
theorem d15_11 : decode prog_23_method_7_code 11 = .ok (.astore_n 1, 1) := by decide +kernel
theorem d15_12 : decode prog_23_method_7_code 12 = .ok (.goto 62, 3) := by decide +kernel
theorem d15_15 : decode prog_23_method_7_code 15 = .ok (.aload_n 0, 1) := by decide +kernel
theorem d15_16 : decode prog_23_method_7_code 16 = .ok (.getfield 30, 3) := by decide +kernel
theorem d15_19 : decode prog_23_method_7_code 19 = .ok (.ifnonnull 11, 3) := by decide +kernel
theorem d15_22 : decode prog_23_method_7_code 22 = .ok (.aload_n 0, 1) := by decide +kernel
theorem d15_23 : decode prog_23_method_7_code 23 = .ok (.getfield 27, 3) := by decide +kernel
theorem d15_26 : decode prog_23_method_7_code 26 = .ok (.astore_n 1, 1) := by decide +kernel
theorem d15_27 : decode prog_23_method_7_code 27 = .ok (.goto 47, 3) := by decide +kernel
theorem d15_30 : decode prog_23_method_7_code 30 = .ok (.aload_n 0, 1) := by decide +kernel
theorem d15_31 : decode prog_23_method_7_code 31 = .ok (.getfield 30, 3) := by decide +kernel
theorem d15_34 : decode prog_23_method_7_code 34 = .ok (.astore_n 2, 1) := by decide +kernel
theorem d15_35 : decode prog_23_method_7_code 35 = .ok (.aload_n 2, 1) := by decide +kernel
theorem d15_36 : decode prog_23_method_7_code 36 = .ok (.getfield 27, 3) := by decide +kernel
theorem d15_39 : decode prog_23_method_7_code 39 = .ok (.ifnull 11, 3) := by decide +kernel
theorem d15_42 : decode prog_23_method_7_code 42 = .ok (.aload_n 2, 1) := by decide +kernel
theorem d15_43 : decode prog_23_method_7_code 43 = .ok (.getfield 27, 3) := by decide +kernel
theorem d15_46 : decode prog_23_method_7_code 46 = .ok (.astore_n 2, 1) := by decide +kernel
theorem d15_47 : decode prog_23_method_7_code 47 = .ok (.goto (-12), 3) := by decide +kernel
theorem d15_50 : decode prog_23_method_7_code 50 = .ok (.aload_n 2, 1) := by decide +kernel
theorem d15_51 : decode prog_23_method_7_code 51 = .ok (.aload_n 0, 1) := by decide +kernel
theorem d15_52 : decode prog_23_method_7_code 52 = .ok (.getfield 30, 3) := by decide +kernel
theorem d15_55 : decode prog_23_method_7_code 55 = .ok (.invokestatic 46, 3) := by decide +kernel
theorem d15_58 : decode prog_23_method_7_code 58 = .ok (.putfield 30, 3) := by decide +kernel
theorem d15_61 : decode prog_23_method_7_code 61 = .ok (.aload_n 2, 1) := by decide +kernel
theorem d15_62 : decode prog_23_method_7_code 62 = .ok (.aload_n 0, 1) := by decide +kernel
theorem d15_63 : decode prog_23_method_7_code 63 = .ok (.getfield 27, 3) := by decide +kernel
theorem d15_66 : decode prog_23_method_7_code 66 = .ok (.putfield 27, 3) := by decide +kernel
theorem d15_69 : decode prog_23_method_7_code 69 = .ok (.aload_n 2, 1) := by decide +kernel
theorem d15_70 : decode prog_23_method_7_code 70 = .ok (.invokestatic 39, 3) := by decide +kernel
theorem d15_73 : decode prog_23_method_7_code 73 = .ok (.astore_n 1, 1) := by decide +kernel
theorem d15_74 : decode prog_23_method_7_code 74 = .ok (.aload_n 1, 1) := by decide +kernel
theorem d15_75 : decode prog_23_method_7_code 75 = .ok (.areturn, 1) := by decide +kernel
theorem d16_0 : decode prog_23_method_8_code 0 = .ok (.aload_n 0, 1) := by decide +kernel
theorem d16_1 : decode prog_23_method_8_code 1 = .ok (.getfield 27, 3) := by decide +kernel
theorem d16_4 : decode prog_23_method_8_code 4 = .ok (.ifnonnull 11, 3) := by decide +kernel
theorem d16_7 : decode prog_23_method_8_code 7 = .ok (.aload_n 0, 1) := by decide +kernel
theorem d16_8 : decode prog_23_method_8_code 8 = .ok (.getfield 30, 3) := by decide +kernel
theorem d16_11 : decode prog_23_method_8_code 11 = .ok (.astore_n 1, 1) := by decide +kernel
theorem d16_12 : decode prog_23_method_8_code 12 = .ok (.goto 19, 3) := by decide +kernel
theorem d16_15 : decode prog_23_method_8_code 15 = .ok (.aload_n 0, 1) := by decide +kernel
theorem d16_16 : decode prog_23_method_8_code 16 = .ok (.aload_n 0, 1) := by decide +kernel
theorem d16_17 : decode prog_23_method_8_code 17 = .ok (.getfield 27, 3) := by decide +kernel
theorem d16_20 : decode prog_23_method_8_code 20 = .ok (.invokestatic 46, 3) := by decide +kernel
theorem d16_23 : decode prog_23_method_8_code 23 = .ok (.putfield 27, 3) := by decide +kernel
theorem d16_26 : decode prog_23_method_8_code 26 = .ok (.aload_n 0, 1) := by decide +kernel
theorem d16_27 : decode prog_23_method_8_code 27 = .ok (.invokestatic 39, 3) := by decide +kernel
theorem d16_30 : decode prog_23_method_8_code 30 = .ok (.astore_n 1, 1) := by decide +kernel
theorem d16_31 : decode prog_23_method_8_code 31 = .ok (.aload_n 1, 1) := by decide +kernel
theorem d16_32 : decode prog_23_method_8_code 32 = .ok (.areturn, 1) := by decide +kernel
def kget (x : Int64) : List (Int64 × Int64) → Int64
  | [] => 0
  | y :: r => if y.1.toInt = x.toInt then y.2 else kget x r
def own_if (k x d : Int64) : Int64 := if k.toInt = x.toInt then d else 0
theorem kget_lo {x : Int64} {R : List (Int64 × Int64)} : ∀ {L : List (Int64 × Int64)}, (∀ y ∈ L, y.1.toInt ≠ x.toInt) → kget x (L ++ R) = kget x R
  | [], _ => rfl
  | y :: L, h => by simp only [List.cons_append, kget]; rw [if_neg (h y (by simp)), kget_lo (fun z hz => h z (by simp [hz]))]
theorem kget_ap {x : Int64} {R : List (Int64 × Int64)} (q : ∀ y ∈ R, y.1.toInt ≠ x.toInt) : ∀ L : List (Int64 × Int64), kget x (L ++ R) = kget x L
  | [] => by have := kget_lo (x := x) (L := R) (R := []) q; simpa using this
  | y :: L => by simp only [List.cons_append, kget]; rw [kget_ap q L]
theorem kget_ins (x k d : Int64) : ∀ {L : List (Int64 × Int64)}, ksorted L → kget x (kinz k d L) = kget x L + own_if k x d
  | [], _ => by simp only [kinz, kget, own_if]; rw [Int64.zero_add]
  | y :: L, h => by
    unfold ksorted at h; rw [List.pairwise_cons] at h
    have hL : ∀ z ∈ L, z.1.toInt ≠ y.1.toInt := fun z hz => by have := h.1 z hz; omega
    simp only [kinz]
    split
    · rename_i q
      simp only [kget, own_if]
      by_cases e : k.toInt = x.toInt
      · rw [if_pos e, if_pos e, if_neg (by omega)]
        have h0 : kget x L = 0 := by have := kget_lo (x := x) (L := L) (R := []) (fun z hz => by have := h.1 z hz; omega); simpa [kget] using this
        rw [h0, Int64.zero_add]
      · rw [if_neg e, if_neg e, Int64.add_zero]
    · split
      · rename_i q1 q2
        simp only [kget]
        by_cases e : y.1.toInt = x.toInt
        · rw [if_pos e, if_pos e, own_if, if_neg (by omega), Int64.add_zero]
        · rw [if_neg e, if_neg e]; exact kget_ins x k d h.2
      · rename_i q1 q2
        have ek : y.1.toInt = k.toInt := by omega
        split
        · rename_i q3
          simp only [kget, own_if]
          by_cases e : y.1.toInt = x.toInt
          · rw [if_pos e, if_pos (by omega)]
            have h0 : kget x L = 0 := by have := kget_lo (x := x) (L := L) (R := []) (fun z hz => by have := hL z hz; omega); simpa [kget] using this
            rw [h0]; exact (Int64.toInt_inj.mp (by rw [q3]; rfl)).symm
          · rw [if_neg e, if_neg (by omega), Int64.add_zero]
        · simp only [kget, own_if]
          by_cases e : y.1.toInt = x.toInt
          · rw [if_pos e, if_pos e, if_pos (by omega)]
          · rw [if_neg e, if_neg e, if_neg (by omega), Int64.add_zero]
def own_st (P : Prop) [Decidable P] (e c : Int64) : Int64 := if P then e + c else e
theorem own_stP {P : Prop} [Decidable P] (h : P) (e c : Int64) : own_st P e c = e + c := if_pos h
theorem own_stN {P : Prop} [Decidable P] (h : ¬ P) (e c : Int64) : own_st P e c = e := if_neg h
def own_ex (x a b c ca cb cc : Int64) (dr : Int32) : Int64 := own_st (x.toInt = c.toInt) (own_st (x.toInt = b.toInt) (own_st (x.toInt = a.toInt ∧ dr.toInt = 0) 0 ca) cb) cc
theorem own_keep (x a b c ca cb cc : Int64) (dr : Int32) (h : dr.toInt = 0) : 0 + own_if a x ca + own_if b x cb + own_if c x cc = own_ex x a b c ca cb cc dr := by
  unfold own_ex own_st own_if
  repeat' split
  all_goals first | (exfalso; omega) | simp
theorem own_cancel (x y z : Int64) : x + y + z + -x = y + z := by
  rw [Int64.add_assoc x y z, Int64.add_comm x, Int64.add_assoc, Int64.add_right_neg, Int64.add_zero]
theorem own_drop (x a b c ca cb cc : Int64) (dr : Int32) (h : dr.toInt ≠ 0) : 0 + own_if a x ca + own_if b x cb + own_if c x cc + own_if a x (-ca) = own_ex x a b c ca cb cc dr := by
  have e : own_if a x (-ca) = - own_if a x ca := by unfold own_if; split <;> simp
  rw [e, Int64.zero_add, own_cancel]
  unfold own_ex own_st own_if
  repeat' split
  all_goals first | (exfalso; omega) | simp

theorem pn_0 : plainName "com/example/ugello/ugello/service/KeyCounts" = true := by first | (simp [plainName, overriddenIn]; done) | decide +kernel
theorem pn_1 : plainName "com/example/ugello/ugello/service/KeyCounts$Node" = true := by first | (simp [plainName, overriddenIn]; done) | decide +kernel
theorem pn_2 : plainName "com/example/ugello/ugello/service/KeyCountsCountOfPinLaw" = true := by first | (simp [plainName, overriddenIn]; done) | decide +kernel
theorem pd_0 : parseMethodDescriptor "(Lcom/example/ugello/ugello/service/KeyCounts$Node;)I" = some ⟨[(.object "com/example/ugello/ugello/service/KeyCounts$Node")], some .int⟩ := by decide +kernel
theorem pd_1 : parseMethodDescriptor "(II)I" = some ⟨[.int, .int], some .int⟩ := by decide +kernel
theorem pd_2 : parseMethodDescriptor "(Lcom/example/ugello/ugello/service/KeyCounts$Node;)J" = some ⟨[(.object "com/example/ugello/ugello/service/KeyCounts$Node")], some .long⟩ := by decide +kernel
theorem pd_3 : parseMethodDescriptor "(Lcom/example/ugello/ugello/service/KeyCounts$Node;)V" = some ⟨[(.object "com/example/ugello/ugello/service/KeyCounts$Node")], none⟩ := by decide +kernel
theorem pd_4 : parseMethodDescriptor "(Lcom/example/ugello/ugello/service/KeyCounts$Node;)Lcom/example/ugello/ugello/service/KeyCounts$Node;" = some ⟨[(.object "com/example/ugello/ugello/service/KeyCounts$Node")], some (.object "com/example/ugello/ugello/service/KeyCounts$Node")⟩ := by decide +kernel
theorem pd_5 : parseMethodDescriptor "(JJ)V" = some ⟨[.long, .long], none⟩ := by decide +kernel
theorem pd_6 : parseMethodDescriptor "(Lcom/example/ugello/ugello/service/KeyCounts$Node;JJ)Lcom/example/ugello/ugello/service/KeyCounts$Node;" = some ⟨[(.object "com/example/ugello/ugello/service/KeyCounts$Node"), .long, .long], some (.object "com/example/ugello/ugello/service/KeyCounts$Node")⟩ := by decide +kernel
theorem pd_7 : parseMethodDescriptor "()V" = some ⟨[], none⟩ := by decide +kernel
theorem pd_8 : parseMethodDescriptor "(J)J" = some ⟨[.long], some .long⟩ := by decide +kernel
theorem pd_9 : parseMethodDescriptor "(JJJJJJJZ)J" = some ⟨[.long, .long, .long, .long, .long, .long, .long, .boolean], some .long⟩ := by decide +kernel
theorem ef_rmMax (m : MethodId) (p1 : Int32) (p2 : Int32) : entryFrame m #[(.int p1), (.int p2)] 2 = mkF m 0 #[.val (.int p1), .val (.int p2)] [] := by first | (simp [entryFrame, mkF, argsToLocals, Value.category]; done) | rfl
set_option maxRecDepth 65536 in
set_option maxHeartbeats 40000000 in
theorem rmMax (l : Launch) (Z : State) (a0 : Array Value) (hw : ∀ d ∈ tables_1, d.before a0 Z = true) (p1 p2 : Int32) (h0 : Heap) (n0 : Nat) (hz0 : Lo n0 h0.size)  (ws : List Jvm.Cond) :
    Ctr l (⟨"java/lang/Math", "max", "(II)I"⟩ : MethodName) jdk_29_method_65_code 2 (some .int) ({ frames := 0, cells := 0, slots := 0, locals := 0 } : Room) Z n0 #[(.int p1), (.int p2)] h0 (fun v h => ∃ r : Int32, v = some (.int r) ∧ max32 p1 p2 r ∧ h = h0) ws := by
  refine ctr_of (by decide +kernel) ?_
  intro p e s m below meth c T0 X0 C
  refine go_cast (ef_rmMax m p1 p2) ?_
  obtain ⟨RS, hRS⟩ : ∃ RS, RS = Rs s below n0 (fun v h => ∃ r : Int32, v = some (.int r) ∧ max32 p1 p2 r ∧ h = h0) ({ frames := 0, cells := 0, slots := 0, locals := 0 } : Room).cells ({ frames := 0, cells := 0, slots := 0, locals := 0 } : Room).slots := ⟨_, rfl⟩
  suffices HG : Go p e below RS T0 (mkF m 0 #[.val (.int p1), .val (.int p2)] []) by rw [hRS] at HG; exact HG
  show Go p e below RS T0 (mkF m 0 #[.val (.int p1), .val (.int p2)] [])
  refine g_iloadN X0 C d9_0 rfl rfl ?_
  refine g_iloadN X0 C d9_1 rfl rfl ?_
  refine g_icmp_lt (a := p1.toInt) (b := p2.toInt) X0 C d9_2 rfl rfl (by decide) (pT := 9) (by decide) (pF := 5) rfl (fun hc2 => ?_) (fun hc2 => ?_)
  ·
    refine g_iloadN X0 C d9_9 rfl rfl ?_
    rw [hRS]
    refine g_retI X0 C d9_10 ?_ (by decide) (by decide)
    exact ⟨_, rfl, by unfold max32; omega, rfl⟩
  ·
    refine g_iloadN X0 C d9_5 rfl rfl ?_
    refine g_goto (pc' := 10) X0 C d9_6 (by decide) (by decide) ?_
    rw [hRS]
    refine g_retI X0 C d9_10 ?_ (by decide) (by decide)
    exact ⟨_, rfl, by unfold max32; omega, rfl⟩
theorem ef_rm_height_n (m : MethodId)  : entryFrame m #[.null] 1 = mkF m 0 #[.val .null] [] := by first | (simp [entryFrame, mkF, argsToLocals, Value.category]; done) | rfl
set_option maxRecDepth 65536 in
set_option maxHeartbeats 40000000 in
theorem rm_height_n (l : Launch) (Z : State) (a0 : Array Value) (hw : ∀ d ∈ tables_1, d.before a0 Z = true)  (h0 : Heap) (n0 : Nat) (hz0 : Lo n0 h0.size)  (ws : List Jvm.Cond) :
    Ctr l (⟨"com/example/ugello/ugello/service/KeyCounts", "height", "(Lcom/example/ugello/ugello/service/KeyCounts$Node;)I"⟩ : MethodName) prog_23_method_13_code 1 (some .int) ({ frames := 0, cells := 0, slots := 0, locals := 0 } : Room) Z n0 #[.null] h0 (fun v h => v = some (.int 0) ∧ h = h0) ws := by
  refine ctr_of (plainFor_of_name pn_0) ?_
  intro p e s m below meth c T0 X0 C
  refine go_cast (ef_rm_height_n m ) ?_
  obtain ⟨RS, hRS⟩ : ∃ RS, RS = Rs s below n0 (fun v h => v = some (.int 0) ∧ h = h0) ({ frames := 0, cells := 0, slots := 0, locals := 0 } : Room).cells ({ frames := 0, cells := 0, slots := 0, locals := 0 } : Room).slots := ⟨_, rfl⟩
  suffices HG : Go p e below RS T0 (mkF m 0 #[.val .null] []) by rw [hRS] at HG; exact HG
  show Go p e below RS T0 (mkF m 0 #[.val .null] [])
  refine g_aloadN X0 C d8_0 rfl rfl rfl ?_
  refine g_nonnullN (pF := 4) X0 C d8_1 rfl ?_
  refine g_iconst (v := 0) X0 C d8_4 (by decide) rfl ?_
  refine g_goto (pc' := 12) X0 C d8_5 (by decide) (by decide) ?_
  rw [hRS]
  refine g_retI X0 C d8_12 ?_ (by decide) (by decide)
  exact ⟨rfl, rfl⟩
theorem ef_rm_height_r (m : MethodId) (a1 : Addr) : entryFrame m #[(.ref a1)] 1 = mkF m 0 #[.val (.ref a1)] [] := by first | (simp [entryFrame, mkF, argsToLocals, Value.category]; done) | rfl
set_option maxRecDepth 65536 in
set_option maxHeartbeats 40000000 in
theorem rm_height_r (l : Launch) (Z : State) (a0 : Array Value) (hw : ∀ d ∈ tables_1, d.before a0 Z = true) (a1 : Addr) (H : Int32) (ky cn S : Int64) (vl vr : Value) (h0 : Heap) (n0 : Nat) (hz0 : Lo n0 h0.size) (O_a1 : Ob Z h0 a1 "com/example/ugello/ugello/service/KeyCounts$Node" NS_N [(.int H), (.long ky), (.long cn), (.long S), vl, vr]) (ws : List Jvm.Cond) :
    Ctr l (⟨"com/example/ugello/ugello/service/KeyCounts", "height", "(Lcom/example/ugello/ugello/service/KeyCounts$Node;)I"⟩ : MethodName) prog_23_method_13_code 1 (some .int) ({ frames := 0, cells := 0, slots := 0, locals := 0 } : Room) Z n0 #[(.ref a1)] h0 (fun v h => v = some (.int H) ∧ h = h0) ws := by
  refine ctr_of (plainFor_of_name pn_0) ?_
  intro p e s m below meth c T0 X0 C
  refine go_cast (ef_rm_height_r m a1) ?_
  obtain ⟨RS, hRS⟩ : ∃ RS, RS = Rs s below n0 (fun v h => v = some (.int H) ∧ h = h0) ({ frames := 0, cells := 0, slots := 0, locals := 0 } : Room).cells ({ frames := 0, cells := 0, slots := 0, locals := 0 } : Room).slots := ⟨_, rfl⟩
  suffices HG : Go p e below RS T0 (mkF m 0 #[.val (.ref a1)] []) by rw [hRS] at HG; exact HG
  show Go p e below RS T0 (mkF m 0 #[.val (.ref a1)] [])
  refine g_aloadN X0 C d8_0 rfl rfl rfl ?_
  refine g_nonnullY X0 C d8_1 (by decide) (pT := 8) (by decide) ?_
  refine g_aloadN X0 C d8_8 rfl rfl rfl ?_
  refine g_getRef (i := 0) X0 C O_a1 rfl rfl (hw _ (List.mem_of_getElem? (i := 46) rfl)) d8_9 rfl ?_
  rw [hRS]
  refine g_retI X0 C d8_12 ?_ (by decide) (by decide)
  exact ⟨rfl, rfl⟩
theorem rm_height (l : Launch) (Z : State) (a0 : Array Value) (hw : ∀ d ∈ tables_1, d.before a0 Z = true) (v1 : Value) (H : Int32) (S : Int64) (h0 : Heap) (n0 : Nat) (hz0 : Lo n0 h0.size) (q : HS Z h0 v1 H S) (ws : List Jvm.Cond) :
    Ctr l (⟨"com/example/ugello/ugello/service/KeyCounts", "height", "(Lcom/example/ugello/ugello/service/KeyCounts$Node;)I"⟩ : MethodName) prog_23_method_13_code 1 (some .int) ({ frames := 0, cells := 0, slots := 0, locals := 0 } : Room) Z n0 #[v1] h0 (fun v h => v = some (.int H) ∧ h = h0) ws := by
  rcases q with ⟨rfl, rfl, rfl⟩ | ⟨a, k, c, vl, vr, rfl, O⟩
  · exact rm_height_n l Z a0 hw h0 n0 hz0 ws
  · exact rm_height_r l Z a0 hw a H k c S vl vr h0 n0 hz0 O ws
theorem ef_rm_total_n (m : MethodId)  : entryFrame m #[.null] 1 = mkF m 0 #[.val .null] [] := by first | (simp [entryFrame, mkF, argsToLocals, Value.category]; done) | rfl
set_option maxRecDepth 65536 in
set_option maxHeartbeats 40000000 in
theorem rm_total_n (l : Launch) (Z : State) (a0 : Array Value) (hw : ∀ d ∈ tables_1, d.before a0 Z = true)  (h0 : Heap) (n0 : Nat) (hz0 : Lo n0 h0.size)  (ws : List Jvm.Cond) :
    Ctr l (⟨"com/example/ugello/ugello/service/KeyCounts", "total", "(Lcom/example/ugello/ugello/service/KeyCounts$Node;)J"⟩ : MethodName) prog_23_method_14_code 1 (some .long) ({ frames := 0, cells := 0, slots := 0, locals := 0 } : Room) Z n0 #[.null] h0 (fun v h => v = some (.long 0) ∧ h = h0) ws := by
  refine ctr_of (plainFor_of_name pn_0) ?_
  intro p e s m below meth c T0 X0 C
  refine go_cast (ef_rm_total_n m ) ?_
  obtain ⟨RS, hRS⟩ : ∃ RS, RS = Rs s below n0 (fun v h => v = some (.long 0) ∧ h = h0) ({ frames := 0, cells := 0, slots := 0, locals := 0 } : Room).cells ({ frames := 0, cells := 0, slots := 0, locals := 0 } : Room).slots := ⟨_, rfl⟩
  suffices HG : Go p e below RS T0 (mkF m 0 #[.val .null] []) by rw [hRS] at HG; exact HG
  show Go p e below RS T0 (mkF m 0 #[.val .null] [])
  refine g_aloadN X0 C d10_0 rfl rfl rfl ?_
  refine g_nonnullN (pF := 4) X0 C d10_1 rfl ?_
  refine g_lconst (v := 0) X0 C d10_4 (by decide) rfl ?_
  refine g_goto (pc' := 12) X0 C d10_5 (by decide) (by decide) ?_
  rw [hRS]
  refine g_retJ X0 C d10_12 ?_ (by decide) (by decide)
  exact ⟨rfl, rfl⟩
theorem ef_rm_total_r (m : MethodId) (a1 : Addr) : entryFrame m #[(.ref a1)] 1 = mkF m 0 #[.val (.ref a1)] [] := by first | (simp [entryFrame, mkF, argsToLocals, Value.category]; done) | rfl
set_option maxRecDepth 65536 in
set_option maxHeartbeats 40000000 in
theorem rm_total_r (l : Launch) (Z : State) (a0 : Array Value) (hw : ∀ d ∈ tables_1, d.before a0 Z = true) (a1 : Addr) (H : Int32) (ky cn S : Int64) (vl vr : Value) (h0 : Heap) (n0 : Nat) (hz0 : Lo n0 h0.size) (O_a1 : Ob Z h0 a1 "com/example/ugello/ugello/service/KeyCounts$Node" NS_N [(.int H), (.long ky), (.long cn), (.long S), vl, vr]) (ws : List Jvm.Cond) :
    Ctr l (⟨"com/example/ugello/ugello/service/KeyCounts", "total", "(Lcom/example/ugello/ugello/service/KeyCounts$Node;)J"⟩ : MethodName) prog_23_method_14_code 1 (some .long) ({ frames := 0, cells := 0, slots := 0, locals := 0 } : Room) Z n0 #[(.ref a1)] h0 (fun v h => v = some (.long S) ∧ h = h0) ws := by
  refine ctr_of (plainFor_of_name pn_0) ?_
  intro p e s m below meth c T0 X0 C
  refine go_cast (ef_rm_total_r m a1) ?_
  obtain ⟨RS, hRS⟩ : ∃ RS, RS = Rs s below n0 (fun v h => v = some (.long S) ∧ h = h0) ({ frames := 0, cells := 0, slots := 0, locals := 0 } : Room).cells ({ frames := 0, cells := 0, slots := 0, locals := 0 } : Room).slots := ⟨_, rfl⟩
  suffices HG : Go p e below RS T0 (mkF m 0 #[.val (.ref a1)] []) by rw [hRS] at HG; exact HG
  show Go p e below RS T0 (mkF m 0 #[.val (.ref a1)] [])
  refine g_aloadN X0 C d10_0 rfl rfl rfl ?_
  refine g_nonnullY X0 C d10_1 (by decide) (pT := 8) (by decide) ?_
  refine g_aloadN X0 C d10_8 rfl rfl rfl ?_
  refine g_getRef (i := 3) X0 C O_a1 rfl rfl (hw _ (List.mem_of_getElem? (i := 56) rfl)) d10_9 rfl ?_
  rw [hRS]
  refine g_retJ X0 C d10_12 ?_ (by decide) (by decide)
  exact ⟨rfl, rfl⟩
theorem rm_total (l : Launch) (Z : State) (a0 : Array Value) (hw : ∀ d ∈ tables_1, d.before a0 Z = true) (v1 : Value) (H : Int32) (S : Int64) (h0 : Heap) (n0 : Nat) (hz0 : Lo n0 h0.size) (q : HS Z h0 v1 H S) (ws : List Jvm.Cond) :
    Ctr l (⟨"com/example/ugello/ugello/service/KeyCounts", "total", "(Lcom/example/ugello/ugello/service/KeyCounts$Node;)J"⟩ : MethodName) prog_23_method_14_code 1 (some .long) ({ frames := 0, cells := 0, slots := 0, locals := 0 } : Room) Z n0 #[v1] h0 (fun v h => v = some (.long S) ∧ h = h0) ws := by
  rcases q with ⟨rfl, rfl, rfl⟩ | ⟨a, k, c, vl, vr, rfl, O⟩
  · exact rm_total_n l Z a0 hw h0 n0 hz0 ws
  · exact rm_total_r l Z a0 hw a H k c S vl vr h0 n0 hz0 O ws
theorem ef_rmU (m : MethodId) (a1 : Addr) : entryFrame m #[(.ref a1)] 1 = mkF m 0 #[.val (.ref a1)] [] := by first | (simp [entryFrame, mkF, argsToLocals, Value.category]; done) | rfl
set_option maxRecDepth 65536 in
set_option maxHeartbeats 40000000 in
theorem rmU (l : Launch) (Z : State) (a0 : Array Value) (hw : ∀ d ∈ tables_1, d.before a0 Z = true) (a1 : Addr) (H0 Hl Hr : Int32) (ky cn S0 Sl Sr : Int64) (vl vr : Value) (h0 : Heap) (n0 : Nat) (hz0 : Lo n0 h0.size) (hl0 : 0 ≤ Hl.toInt ∧ Hl.toInt ≤ 1000) (hr0 : 0 ≤ Hr.toInt ∧ Hr.toInt ≤ 1000) (ga_a1 : Lo n0 a1) (nvl : vl ≠ .ref a1) (nvr : vr ≠ .ref a1) (O_a1 : Ob Z h0 a1 "com/example/ugello/ugello/service/KeyCounts$Node" NS_N [(.int H0), (.long ky), (.long cn), (.long S0), vl, vr]) (HSl : HS Z h0 vl Hl Sl) (HSr : HS Z h0 vr Hr Sr) (ws : List Jvm.Cond) :
    Ctr l (⟨"com/example/ugello/ugello/service/KeyCounts", "update", "(Lcom/example/ugello/ugello/service/KeyCounts$Node;)V"⟩ : MethodName) prog_23_method_12_code 1 none ({ frames := 1, cells := 0, slots := 0, locals := 15 } : Room) Z n0 #[(.ref a1)] h0 (fun v h => v = none ∧ ∃ H' : Int32, Ob Z h a1 "com/example/ugello/ugello/service/KeyCounts$Node" NS_N [(.int H'), (.long ky), (.long cn), (.long (Sl + cn + Sr)), vl, vr] ∧ H'.toInt = 1 + max Hl.toInt Hr.toInt ∧ Keep h0 h [a1]) ws := by
  refine ctr_of (plainFor_of_name pn_0) ?_
  intro p e s m below meth c T0 X0 C
  refine go_cast (ef_rmU m a1) ?_
  obtain ⟨RS, hRS⟩ : ∃ RS, RS = Rs s below n0 (fun v h => v = none ∧ ∃ H' : Int32, Ob Z h a1 "com/example/ugello/ugello/service/KeyCounts$Node" NS_N [(.int H'), (.long ky), (.long cn), (.long (Sl + cn + Sr)), vl, vr] ∧ H'.toInt = 1 + max Hl.toInt Hr.toInt ∧ Keep h0 h [a1]) ({ frames := 1, cells := 0, slots := 0, locals := 15 } : Room).cells ({ frames := 1, cells := 0, slots := 0, locals := 15 } : Room).slots := ⟨_, rfl⟩
  suffices HG : Go p e below RS T0 (mkF m 0 #[.val (.ref a1)] []) by rw [hRS] at HG; exact HG
  show Go p e below RS T0 (mkF m 0 #[.val (.ref a1)] [])
  refine g_aloadN X0 C d7_0 rfl rfl rfl ?_
  refine g_iconst (v := 1) X0 C d7_1 (by decide) rfl ?_
  refine g_aloadN X0 C d7_2 rfl rfl rfl ?_
  refine g_getRef (i := 4) X0 C O_a1 rfl rfl (hw _ (List.mem_of_getElem? (i := 35) rfl)) d7_3 rfl ?_
  refine g_static (argsL := [vl]) (rest := [(.int (1 : Int32)), (.ref a1)]) (W := 2) X0 C (rm_height l Z a0 hw vl Hl Sl h0 n0 hz0 HSl []) (hw _ (List.mem_of_getElem? (i := 43) rfl)) (hw _ (List.mem_of_getElem? (i := 44) rfl)) (hw _ (List.mem_of_getElem? (i := 2) rfl)) (hw _ (List.mem_of_getElem? (i := 45) rfl)) (by decide) pd_0 rfl rfl rfl rfl rfl (by decide) (by decide) (by decide) (by decide) d7_6 rfl (fun r4 T1 h3 hQ5 X2 => ?_)
  obtain ⟨rfl, hh⟩ := hQ5; rw [hh] at X2
  show Go p e below RS T1 (mkF m 9 #[.val (.ref a1)] [(.int Hl), (.int (1 : Int32)), (.ref a1)])
  refine g_aloadN X2 C d7_9 rfl rfl rfl ?_
  refine g_getRef (i := 5) X2 C O_a1 rfl rfl (hw _ (List.mem_of_getElem? (i := 47) rfl)) d7_10 rfl ?_
  refine g_static (argsL := [vr]) (rest := [(.int Hl), (.int (1 : Int32)), (.ref a1)]) (W := 3) X2 C (rm_height l Z a0 hw vr Hr Sr h0 n0 hz0 HSr []) (hw _ (List.mem_of_getElem? (i := 43) rfl)) (hw _ (List.mem_of_getElem? (i := 44) rfl)) (hw _ (List.mem_of_getElem? (i := 2) rfl)) (hw _ (List.mem_of_getElem? (i := 45) rfl)) (by decide) pd_0 rfl rfl rfl rfl rfl (by decide) (by decide) (by decide) (by decide) d7_13 rfl (fun r9 T6 h8 hQ10 X7 => ?_)
  obtain ⟨rfl, hh⟩ := hQ10; rw [hh] at X7
  show Go p e below RS T6 (mkF m 16 #[.val (.ref a1)] [(.int Hr), (.int Hl), (.int (1 : Int32)), (.ref a1)])
  refine g_static (argsL := [(.int Hl), (.int Hr)]) (rest := [(.int (1 : Int32)), (.ref a1)]) (W := 2) X7 C (rmMax l Z a0 hw Hl Hr h0 n0 hz0 []) (hw _ (List.mem_of_getElem? (i := 49) rfl)) (hw _ (List.mem_of_getElem? (i := 50) rfl)) (hw _ (List.mem_of_getElem? (i := 51) rfl)) (hw _ (List.mem_of_getElem? (i := 52) rfl)) (by decide) pd_1 rfl rfl rfl rfl rfl (by decide) (by decide) (by decide) (by decide) d7_16 rfl (fun r14 T11 h13 hQ15 X12 => ?_)
  obtain ⟨m16, rfl, hm_m16, hh⟩ := hQ15; rw [hh] at X12
  show Go p e below RS T11 (mkF m 19 #[.val (.ref a1)] [(.int m16), (.int (1 : Int32)), (.ref a1)])
  refine g_iadd X12 C d7_19 rfl ?_
  refine g_putRef (i := 0) (vs' := [(.int ((1 : Int32) + m16)), (.long ky), (.long cn), (.long S0), vl, vr]) X12 C O_a1 (CF_N hw) rfl rfl rfl ga_a1 (hw _ (List.mem_of_getElem? (i := 46) rfl)) (hw _ (List.mem_of_getElem? (i := 27) rfl)) (ty := .int) (by decide) rfl rfl d7_20 rfl (fun T17 h19 X18 O_a1 K20 => ?_)
  have HSl := HSl.keep K20 (nv1 nvl)
  have HSr := HSr.keep K20 (nv1 nvr)
  have hz21 : Lo n0 h19.size := Lo.keep hz0 K20
  have KK22 := (Keep.refl h0 [a1]).trans K20 (allS (Or.inl (List.mem_of_getElem? (i := 0) rfl)) all0)
  refine g_aloadN X18 C d7_23 rfl rfl rfl ?_
  refine g_aloadN X18 C d7_24 rfl rfl rfl ?_
  refine g_getRef (i := 4) X18 C O_a1 rfl rfl (hw _ (List.mem_of_getElem? (i := 35) rfl)) d7_25 rfl ?_
  refine g_static (argsL := [vl]) (rest := [(.ref a1)]) (W := 1) X18 C (rm_total l Z a0 hw vl Hl Sl h19 n0 hz21 HSl []) (hw _ (List.mem_of_getElem? (i := 53) rfl)) (hw _ (List.mem_of_getElem? (i := 54) rfl)) (hw _ (List.mem_of_getElem? (i := 2) rfl)) (hw _ (List.mem_of_getElem? (i := 55) rfl)) (by decide) pd_2 rfl rfl rfl rfl rfl (by decide) (by decide) (by decide) (by decide) d7_28 rfl (fun r26 T23 h25 hQ27 X24 => ?_)
  obtain ⟨rfl, hh⟩ := hQ27; rw [hh] at X24
  show Go p e below RS T23 (mkF m 31 #[.val (.ref a1)] [(.long Sl), (.ref a1)])
  refine g_aloadN X24 C d7_31 rfl rfl rfl ?_
  refine g_getRef (i := 2) X24 C O_a1 rfl rfl (hw _ (List.mem_of_getElem? (i := 57) rfl)) d7_32 rfl ?_
  refine g_ladd X24 C d7_35 rfl ?_
  refine g_aloadN X24 C d7_36 rfl rfl rfl ?_
  refine g_getRef (i := 5) X24 C O_a1 rfl rfl (hw _ (List.mem_of_getElem? (i := 47) rfl)) d7_37 rfl ?_
  refine g_static (argsL := [vr]) (rest := [(.long (Sl + cn)), (.ref a1)]) (W := 3) X24 C (rm_total l Z a0 hw vr Hr Sr h19 n0 hz21 HSr []) (hw _ (List.mem_of_getElem? (i := 53) rfl)) (hw _ (List.mem_of_getElem? (i := 54) rfl)) (hw _ (List.mem_of_getElem? (i := 2) rfl)) (hw _ (List.mem_of_getElem? (i := 55) rfl)) (by decide) pd_2 rfl rfl rfl rfl rfl (by decide) (by decide) (by decide) (by decide) d7_40 rfl (fun r31 T28 h30 hQ32 X29 => ?_)
  obtain ⟨rfl, hh⟩ := hQ32; rw [hh] at X29
  show Go p e below RS T28 (mkF m 43 #[.val (.ref a1)] [(.long Sr), (.long (Sl + cn)), (.ref a1)])
  refine g_ladd X29 C d7_43 rfl ?_
  refine g_putRef (i := 3) (vs' := [(.int ((1 : Int32) + m16)), (.long ky), (.long cn), (.long ((Sl + cn) + Sr)), vl, vr]) X29 C O_a1 (CF_N hw) rfl rfl rfl ga_a1 (hw _ (List.mem_of_getElem? (i := 56) rfl)) (hw _ (List.mem_of_getElem? (i := 33) rfl)) (ty := .long) (by decide) rfl rfl d7_44 rfl (fun T33 h35 X34 O_a1 K36 => ?_)
  have HSl := HSl.keep K36 (nv1 nvl)
  have HSr := HSr.keep K36 (nv1 nvr)
  have hz37 : Lo n0 h35.size := Lo.keep hz21 K36
  have KK38 := KK22.trans K36 (allS (Or.inl (List.mem_of_getElem? (i := 0) rfl)) all0)
  rw [hRS]
  refine g_retV X34 C d7_47 ?_ (by decide) (by decide)
  refine ⟨rfl, _, O_a1, ?_, KK38⟩
  have g1 := c_iadd 1 m16; have g2 := rng32 (1 + m16); have g3 : (1 : Int32).toInt = 1 := (by decide); unfold max32 at hm_m16
  omega
theorem ef_rm_rotateRight (m : MethodId) (a1 : Addr) : entryFrame m #[(.ref a1)] 2 = mkF m 0 #[.val (.ref a1), .unset] [] := by first | (simp [entryFrame, mkF, argsToLocals, Value.category]; done) | rfl
set_option maxRecDepth 65536 in
set_option maxHeartbeats 40000000 in
theorem rm_rotateRight (l : Launch) (Z : State) (a0 : Array Value) (hw : ∀ d ∈ tables_1, d.before a0 Z = true) (a1 b : Addr) (H0 H1 : Int32) (ky cn S0 kb cb S1 : Int64) (vo vi vx : Value) (to ti tx : Tre) (h0 : Heap) (n0 : Nat) (hz0 : Lo n0 h0.size) (hht : kht to ≤ 900 ∧ kht ti ≤ 900 ∧ kht tx ≤ 900) (ga_a1 : Lo n0 a1) (ga_b : Lo n0 b) (ne_b_a1 : NE b a1) (na1_to : a1 ∉ kad to) (na1_ti : a1 ∉ kad ti) (na1_tx : a1 ∉ kad tx) (nb_to : b ∉ kad to) (nb_ti : b ∉ kad ti) (nb_tx : b ∉ kad tx) (O_a1 : Ob Z h0 a1 "com/example/ugello/ugello/service/KeyCounts$Node" NS_N [(.int H0), (.long ky), (.long cn), (.long S0), (.ref b), vx]) (O_b : Ob Z h0 b "com/example/ugello/ugello/service/KeyCounts$Node" NS_N [(.int H1), (.long kb), (.long cb), (.long S1), vo, vi]) (Ro : Rep Z h0 to vo) (Ri : Rep Z h0 ti vi) (Rx : Rep Z h0 tx vx) (ws : List Jvm.Cond) :
    Ctr l (⟨"com/example/ugello/ugello/service/KeyCounts", "rotateRight", "(Lcom/example/ugello/ugello/service/KeyCounts$Node;)Lcom/example/ugello/ugello/service/KeyCounts$Node;"⟩ : MethodName) prog_23_method_10_code 2 (some (.object "com/example/ugello/ugello/service/KeyCounts$Node")) ({ frames := 2, cells := 0, slots := 0, locals := 27 } : Room) Z n0 #[(.ref a1)] h0 (fun v h => v = some (.ref b) ∧ ∃ H2 H3 : Int32, Ob Z h a1 "com/example/ugello/ugello/service/KeyCounts$Node" NS_N [(.int H2), (.long ky), (.long cn), (.long (ksm ti + cn + ksm tx)), vi, vx] ∧ H2.toInt = ((1 + max (kht ti) (kht tx) : Nat) : Int) ∧ Ob Z h b "com/example/ugello/ugello/service/KeyCounts$Node" NS_N [(.int H3), (.long kb), (.long cb), (.long (ksm to + cb + (ksm ti + cn + ksm tx))), vo, (.ref a1)] ∧ H3.toInt = ((1 + max (kht to) (1 + max (kht ti) (kht tx)) : Nat) : Int) ∧ Rep Z h to vo ∧ Rep Z h ti vi ∧ Rep Z h tx vx ∧ Keep h0 h [a1, b]) ws := by
  refine ctr_of (plainFor_of_name pn_0) ?_
  intro p e s m below meth c T0 X0 C
  refine go_cast (ef_rm_rotateRight m a1) ?_
  obtain ⟨RS, hRS⟩ : ∃ RS, RS = Rs s below n0 (fun v h => v = some (.ref b) ∧ ∃ H2 H3 : Int32, Ob Z h a1 "com/example/ugello/ugello/service/KeyCounts$Node" NS_N [(.int H2), (.long ky), (.long cn), (.long (ksm ti + cn + ksm tx)), vi, vx] ∧ H2.toInt = ((1 + max (kht ti) (kht tx) : Nat) : Int) ∧ Ob Z h b "com/example/ugello/ugello/service/KeyCounts$Node" NS_N [(.int H3), (.long kb), (.long cb), (.long (ksm to + cb + (ksm ti + cn + ksm tx))), vo, (.ref a1)] ∧ H3.toInt = ((1 + max (kht to) (1 + max (kht ti) (kht tx)) : Nat) : Int) ∧ Rep Z h to vo ∧ Rep Z h ti vi ∧ Rep Z h tx vx ∧ Keep h0 h [a1, b]) ({ frames := 2, cells := 0, slots := 0, locals := 27 } : Room).cells ({ frames := 2, cells := 0, slots := 0, locals := 27 } : Room).slots := ⟨_, rfl⟩
  suffices HG : Go p e below RS T0 (mkF m 0 #[.val (.ref a1), .unset] []) by rw [hRS] at HG; exact HG
  show Go p e below RS T0 (mkF m 0 #[.val (.ref a1), .unset] [])
  refine g_aloadN X0 C d11_0 rfl rfl rfl ?_
  refine g_getRef (i := 4) X0 C O_a1 rfl rfl (hw _ (List.mem_of_getElem? (i := 35) rfl)) d11_1 rfl ?_
  refine g_astoreN (L' := #[.val (.ref a1), .val (.ref b)]) X0 C d11_4 rfl rfl rfl ?_
  refine g_aloadN X0 C d11_5 rfl rfl rfl ?_
  refine g_aloadN X0 C d11_6 rfl rfl rfl ?_
  refine g_getRef (i := 5) X0 C O_b rfl rfl (hw _ (List.mem_of_getElem? (i := 47) rfl)) d11_7 rfl ?_
  refine g_putRef (i := 4) (vs' := [(.int H0), (.long ky), (.long cn), (.long S0), vi, vx]) X0 C O_a1 (CF_N hw) rfl rfl rfl ga_a1 (hw _ (List.mem_of_getElem? (i := 35) rfl)) (hw _ (List.mem_of_getElem? (i := 36) rfl)) (ty := (.object "com/example/ugello/ugello/service/KeyCounts$Node")) (by decide) (narrowO Ri.isRef) (fitsO Ri.isRef) d11_10 rfl (fun T39 h41 X40 O_a1 K42 => ?_)
  have O_b := O_b.keep K42 (ninN ne_b_a1 nin0)
  have Rx := Rx.keep K42 (ninL na1_tx)
  have Ro := Ro.keep K42 (ninL na1_to)
  have Ri := Ri.keep K42 (ninL na1_ti)
  have hz43 : Lo n0 h41.size := Lo.keep hz0 K42
  have KK44 := (Keep.refl h0 [a1, b]).trans K42 (allS (Or.inl (List.mem_of_getElem? (i := 0) rfl)) all0)
  refine g_aloadN X40 C d11_13 rfl rfl rfl ?_
  refine g_aloadN X40 C d11_14 rfl rfl rfl ?_
  refine g_putRef (i := 5) (vs' := [(.int H1), (.long kb), (.long cb), (.long S1), vo, (.ref a1)]) X40 C O_b (CF_N hw) rfl rfl rfl ga_b (hw _ (List.mem_of_getElem? (i := 47) rfl)) (hw _ (List.mem_of_getElem? (i := 48) rfl)) (ty := (.object "com/example/ugello/ugello/service/KeyCounts$Node")) (by decide) rfl rfl d11_15 rfl (fun T45 h47 X46 O_b K48 => ?_)
  have O_a1 := O_a1.keep K48 (ninN (NE.symm ne_b_a1) nin0)
  have Rx := Rx.keep K48 (ninL nb_tx)
  have Ro := Ro.keep K48 (ninL nb_to)
  have Ri := Ri.keep K48 (ninL nb_ti)
  have hz49 : Lo n0 h47.size := Lo.keep hz43 K48
  have KK50 := KK44.trans K48 (allS (Or.inl (List.mem_of_getElem? (i := 1) rfl)) all0)
  refine g_aloadN X46 C d11_18 rfl rfl rfl ?_
  obtain ⟨H51, hs_H51, ht_H51⟩ := Rep.hs Rx
  obtain ⟨H52, hs_H52, ht_H52⟩ := Rep.hs Ro
  obtain ⟨H53, hs_H53, ht_H53⟩ := Rep.hs Ri
  refine g_static (argsL := [(.ref a1)]) (rest := []) (W := 0) X46 C (rmU l Z a0 hw a1 H0 H53 H51 ky cn S0 (ksm ti) (ksm tx) vi vx h47 n0 hz49 (by omega) (by omega) ga_a1 (Ri.ne na1_ti) (Rx.ne na1_tx) O_a1 hs_H53 hs_H51 []) (hw _ (List.mem_of_getElem? (i := 40) rfl)) (hw _ (List.mem_of_getElem? (i := 41) rfl)) (hw _ (List.mem_of_getElem? (i := 2) rfl)) (hw _ (List.mem_of_getElem? (i := 42) rfl)) (by decide) pd_3 rfl rfl rfl rfl rfl (by decide) (by decide) (by decide) (by decide) d11_19 rfl (fun r57 T54 h56 hQ58 X55 => ?_)
  obtain ⟨rfl, H59, O_a1, hH_H59, KU60⟩ := hQ58
  have O_b := O_b.keep KU60 (ninN ne_b_a1 nin0)
  have Rx := Rx.keep KU60 (ninL na1_tx)
  have Ro := Ro.keep KU60 (ninL na1_to)
  have Ri := Ri.keep KU60 (ninL na1_ti)
  have hz61 : Lo n0 h56.size := Lo.keep hz49 KU60
  have KK62 := KK50.trans KU60 (allS (Or.inl (List.mem_of_getElem? (i := 0) rfl)) all0)
  show Go p e below RS T54 (mkF m 22 #[.val (.ref a1), .val (.ref b)] [])
  refine g_aloadN X55 C d11_22 rfl rfl rfl ?_
  obtain ⟨H63, hs_H63, ht_H63⟩ := Rep.hs Rx
  obtain ⟨H64, hs_H64, ht_H64⟩ := Rep.hs Ro
  obtain ⟨H65, hs_H65, ht_H65⟩ := Rep.hs Ri
  refine g_static (argsL := [(.ref b)]) (rest := []) (W := 0) X55 C (rmU l Z a0 hw b H1 H64 H59 kb cb S1 (ksm to) ((ksm ti) + cn + (ksm tx)) vo (.ref a1) h56 n0 hz61 (by omega) (by omega) ga_b (Ro.ne nb_to) (fun q => (NE.symm ne_b_a1) (Value.ref.inj q)) O_b hs_H64 (Or.inr ⟨_, _, _, _, _, rfl, O_a1⟩) []) (hw _ (List.mem_of_getElem? (i := 40) rfl)) (hw _ (List.mem_of_getElem? (i := 41) rfl)) (hw _ (List.mem_of_getElem? (i := 2) rfl)) (hw _ (List.mem_of_getElem? (i := 42) rfl)) (by decide) pd_3 rfl rfl rfl rfl rfl (by decide) (by decide) (by decide) (by decide) d11_23 rfl (fun r69 T66 h68 hQ70 X67 => ?_)
  obtain ⟨rfl, H71, O_b, hH_H71, KU72⟩ := hQ70
  have O_a1 := O_a1.keep KU72 (ninN (NE.symm ne_b_a1) nin0)
  have Rx := Rx.keep KU72 (ninL nb_tx)
  have Ro := Ro.keep KU72 (ninL nb_to)
  have Ri := Ri.keep KU72 (ninL nb_ti)
  have hz73 : Lo n0 h68.size := Lo.keep hz61 KU72
  have KK74 := KK62.trans KU72 (allS (Or.inl (List.mem_of_getElem? (i := 1) rfl)) all0)
  show Go p e below RS T66 (mkF m 26 #[.val (.ref a1), .val (.ref b)] [])
  refine g_aloadN X67 C d11_26 rfl rfl rfl ?_
  rw [hRS]
  refine g_retA X67 C d11_27 rfl rfl ?_ (by decide) (by decide)
  exact ⟨rfl, _, _, O_a1, by omega, O_b, by omega, Ro, Ri, Rx, KK74⟩
theorem ef_rm_rotateLeft (m : MethodId) (a1 : Addr) : entryFrame m #[(.ref a1)] 2 = mkF m 0 #[.val (.ref a1), .unset] [] := by first | (simp [entryFrame, mkF, argsToLocals, Value.category]; done) | rfl
set_option maxRecDepth 65536 in
set_option maxHeartbeats 40000000 in
theorem rm_rotateLeft (l : Launch) (Z : State) (a0 : Array Value) (hw : ∀ d ∈ tables_1, d.before a0 Z = true) (a1 b : Addr) (H0 H1 : Int32) (ky cn S0 kb cb S1 : Int64) (vo vi vx : Value) (to ti tx : Tre) (h0 : Heap) (n0 : Nat) (hz0 : Lo n0 h0.size) (hht : kht to ≤ 900 ∧ kht ti ≤ 900 ∧ kht tx ≤ 900) (ga_a1 : Lo n0 a1) (ga_b : Lo n0 b) (ne_b_a1 : NE b a1) (na1_to : a1 ∉ kad to) (na1_ti : a1 ∉ kad ti) (na1_tx : a1 ∉ kad tx) (nb_to : b ∉ kad to) (nb_ti : b ∉ kad ti) (nb_tx : b ∉ kad tx) (O_a1 : Ob Z h0 a1 "com/example/ugello/ugello/service/KeyCounts$Node" NS_N [(.int H0), (.long ky), (.long cn), (.long S0), vx, (.ref b)]) (O_b : Ob Z h0 b "com/example/ugello/ugello/service/KeyCounts$Node" NS_N [(.int H1), (.long kb), (.long cb), (.long S1), vi, vo]) (Ro : Rep Z h0 to vo) (Ri : Rep Z h0 ti vi) (Rx : Rep Z h0 tx vx) (ws : List Jvm.Cond) :
    Ctr l (⟨"com/example/ugello/ugello/service/KeyCounts", "rotateLeft", "(Lcom/example/ugello/ugello/service/KeyCounts$Node;)Lcom/example/ugello/ugello/service/KeyCounts$Node;"⟩ : MethodName) prog_23_method_11_code 2 (some (.object "com/example/ugello/ugello/service/KeyCounts$Node")) ({ frames := 2, cells := 0, slots := 0, locals := 27 } : Room) Z n0 #[(.ref a1)] h0 (fun v h => v = some (.ref b) ∧ ∃ H2 H3 : Int32, Ob Z h a1 "com/example/ugello/ugello/service/KeyCounts$Node" NS_N [(.int H2), (.long ky), (.long cn), (.long (ksm tx + cn + ksm ti)), vx, vi] ∧ H2.toInt = ((1 + max (kht tx) (kht ti) : Nat) : Int) ∧ Ob Z h b "com/example/ugello/ugello/service/KeyCounts$Node" NS_N [(.int H3), (.long kb), (.long cb), (.long ((ksm tx + cn + ksm ti) + cb + ksm to)), (.ref a1), vo] ∧ H3.toInt = ((1 + max (1 + max (kht tx) (kht ti)) (kht to) : Nat) : Int) ∧ Rep Z h to vo ∧ Rep Z h ti vi ∧ Rep Z h tx vx ∧ Keep h0 h [a1, b]) ws := by
  refine ctr_of (plainFor_of_name pn_0) ?_
  intro p e s m below meth c T0 X0 C
  refine go_cast (ef_rm_rotateLeft m a1) ?_
  obtain ⟨RS, hRS⟩ : ∃ RS, RS = Rs s below n0 (fun v h => v = some (.ref b) ∧ ∃ H2 H3 : Int32, Ob Z h a1 "com/example/ugello/ugello/service/KeyCounts$Node" NS_N [(.int H2), (.long ky), (.long cn), (.long (ksm tx + cn + ksm ti)), vx, vi] ∧ H2.toInt = ((1 + max (kht tx) (kht ti) : Nat) : Int) ∧ Ob Z h b "com/example/ugello/ugello/service/KeyCounts$Node" NS_N [(.int H3), (.long kb), (.long cb), (.long ((ksm tx + cn + ksm ti) + cb + ksm to)), (.ref a1), vo] ∧ H3.toInt = ((1 + max (1 + max (kht tx) (kht ti)) (kht to) : Nat) : Int) ∧ Rep Z h to vo ∧ Rep Z h ti vi ∧ Rep Z h tx vx ∧ Keep h0 h [a1, b]) ({ frames := 2, cells := 0, slots := 0, locals := 27 } : Room).cells ({ frames := 2, cells := 0, slots := 0, locals := 27 } : Room).slots := ⟨_, rfl⟩
  suffices HG : Go p e below RS T0 (mkF m 0 #[.val (.ref a1), .unset] []) by rw [hRS] at HG; exact HG
  show Go p e below RS T0 (mkF m 0 #[.val (.ref a1), .unset] [])
  refine g_aloadN X0 C d14_0 rfl rfl rfl ?_
  refine g_getRef (i := 5) X0 C O_a1 rfl rfl (hw _ (List.mem_of_getElem? (i := 47) rfl)) d14_1 rfl ?_
  refine g_astoreN (L' := #[.val (.ref a1), .val (.ref b)]) X0 C d14_4 rfl rfl rfl ?_
  refine g_aloadN X0 C d14_5 rfl rfl rfl ?_
  refine g_aloadN X0 C d14_6 rfl rfl rfl ?_
  refine g_getRef (i := 4) X0 C O_b rfl rfl (hw _ (List.mem_of_getElem? (i := 35) rfl)) d14_7 rfl ?_
  refine g_putRef (i := 5) (vs' := [(.int H0), (.long ky), (.long cn), (.long S0), vx, vi]) X0 C O_a1 (CF_N hw) rfl rfl rfl ga_a1 (hw _ (List.mem_of_getElem? (i := 47) rfl)) (hw _ (List.mem_of_getElem? (i := 48) rfl)) (ty := (.object "com/example/ugello/ugello/service/KeyCounts$Node")) (by decide) (narrowO Ri.isRef) (fitsO Ri.isRef) d14_10 rfl (fun T75 h77 X76 O_a1 K78 => ?_)
  have O_b := O_b.keep K78 (ninN ne_b_a1 nin0)
  have Rx := Rx.keep K78 (ninL na1_tx)
  have Ro := Ro.keep K78 (ninL na1_to)
  have Ri := Ri.keep K78 (ninL na1_ti)
  have hz79 : Lo n0 h77.size := Lo.keep hz0 K78
  have KK80 := (Keep.refl h0 [a1, b]).trans K78 (allS (Or.inl (List.mem_of_getElem? (i := 0) rfl)) all0)
  refine g_aloadN X76 C d14_13 rfl rfl rfl ?_
  refine g_aloadN X76 C d14_14 rfl rfl rfl ?_
  refine g_putRef (i := 4) (vs' := [(.int H1), (.long kb), (.long cb), (.long S1), (.ref a1), vo]) X76 C O_b (CF_N hw) rfl rfl rfl ga_b (hw _ (List.mem_of_getElem? (i := 35) rfl)) (hw _ (List.mem_of_getElem? (i := 36) rfl)) (ty := (.object "com/example/ugello/ugello/service/KeyCounts$Node")) (by decide) rfl rfl d14_15 rfl (fun T81 h83 X82 O_b K84 => ?_)
  have O_a1 := O_a1.keep K84 (ninN (NE.symm ne_b_a1) nin0)
  have Rx := Rx.keep K84 (ninL nb_tx)
  have Ro := Ro.keep K84 (ninL nb_to)
  have Ri := Ri.keep K84 (ninL nb_ti)
  have hz85 : Lo n0 h83.size := Lo.keep hz79 K84
  have KK86 := KK80.trans K84 (allS (Or.inl (List.mem_of_getElem? (i := 1) rfl)) all0)
  refine g_aloadN X82 C d14_18 rfl rfl rfl ?_
  obtain ⟨H87, hs_H87, ht_H87⟩ := Rep.hs Rx
  obtain ⟨H88, hs_H88, ht_H88⟩ := Rep.hs Ro
  obtain ⟨H89, hs_H89, ht_H89⟩ := Rep.hs Ri
  refine g_static (argsL := [(.ref a1)]) (rest := []) (W := 0) X82 C (rmU l Z a0 hw a1 H0 H87 H89 ky cn S0 (ksm tx) (ksm ti) vx vi h83 n0 hz85 (by omega) (by omega) ga_a1 (Rx.ne na1_tx) (Ri.ne na1_ti) O_a1 hs_H87 hs_H89 []) (hw _ (List.mem_of_getElem? (i := 40) rfl)) (hw _ (List.mem_of_getElem? (i := 41) rfl)) (hw _ (List.mem_of_getElem? (i := 2) rfl)) (hw _ (List.mem_of_getElem? (i := 42) rfl)) (by decide) pd_3 rfl rfl rfl rfl rfl (by decide) (by decide) (by decide) (by decide) d14_19 rfl (fun r93 T90 h92 hQ94 X91 => ?_)
  obtain ⟨rfl, H95, O_a1, hH_H95, KU96⟩ := hQ94
  have O_b := O_b.keep KU96 (ninN ne_b_a1 nin0)
  have Rx := Rx.keep KU96 (ninL na1_tx)
  have Ro := Ro.keep KU96 (ninL na1_to)
  have Ri := Ri.keep KU96 (ninL na1_ti)
  have hz97 : Lo n0 h92.size := Lo.keep hz85 KU96
  have KK98 := KK86.trans KU96 (allS (Or.inl (List.mem_of_getElem? (i := 0) rfl)) all0)
  show Go p e below RS T90 (mkF m 22 #[.val (.ref a1), .val (.ref b)] [])
  refine g_aloadN X91 C d14_22 rfl rfl rfl ?_
  obtain ⟨H99, hs_H99, ht_H99⟩ := Rep.hs Rx
  obtain ⟨H100, hs_H100, ht_H100⟩ := Rep.hs Ro
  obtain ⟨H101, hs_H101, ht_H101⟩ := Rep.hs Ri
  refine g_static (argsL := [(.ref b)]) (rest := []) (W := 0) X91 C (rmU l Z a0 hw b H1 H95 H100 kb cb S1 ((ksm tx) + cn + (ksm ti)) (ksm to) (.ref a1) vo h92 n0 hz97 (by omega) (by omega) ga_b (fun q => (NE.symm ne_b_a1) (Value.ref.inj q)) (Ro.ne nb_to) O_b (Or.inr ⟨_, _, _, _, _, rfl, O_a1⟩) hs_H100 []) (hw _ (List.mem_of_getElem? (i := 40) rfl)) (hw _ (List.mem_of_getElem? (i := 41) rfl)) (hw _ (List.mem_of_getElem? (i := 2) rfl)) (hw _ (List.mem_of_getElem? (i := 42) rfl)) (by decide) pd_3 rfl rfl rfl rfl rfl (by decide) (by decide) (by decide) (by decide) d14_23 rfl (fun r105 T102 h104 hQ106 X103 => ?_)
  obtain ⟨rfl, H107, O_b, hH_H107, KU108⟩ := hQ106
  have O_a1 := O_a1.keep KU108 (ninN (NE.symm ne_b_a1) nin0)
  have Rx := Rx.keep KU108 (ninL nb_tx)
  have Ro := Ro.keep KU108 (ninL nb_to)
  have Ri := Ri.keep KU108 (ninL nb_ti)
  have hz109 : Lo n0 h104.size := Lo.keep hz97 KU108
  have KK110 := KK98.trans KU108 (allS (Or.inl (List.mem_of_getElem? (i := 1) rfl)) all0)
  show Go p e below RS T102 (mkF m 26 #[.val (.ref a1), .val (.ref b)] [])
  refine g_aloadN X103 C d14_26 rfl rfl rfl ?_
  rw [hRS]
  refine g_retA X103 C d14_27 rfl rfl ?_ (by decide) (by decide)
  exact ⟨rfl, _, _, O_a1, by omega, O_b, by omega, Ro, Ri, Rx, KK110⟩
theorem ef_rmBal (m : MethodId) (a1 : Addr) : entryFrame m #[(.ref a1)] 3 = mkF m 0 #[.val (.ref a1), .unset, .unset] [] := by first | (simp [entryFrame, mkF, argsToLocals, Value.category]; done) | rfl
set_option maxRecDepth 65536 in
set_option maxHeartbeats 40000000 in
theorem rmBal (l : Launch) (Z : State) (a0 : Array Value) (hw : ∀ d ∈ tables_1, d.before a0 Z = true) (a1 : Addr) (H0 : Int32) (ky cn S0 : Int64) (vl vr : Value) (tl tr : Tre) (h0 : Heap) (n0 : Nat) (hz0 : Lo n0 h0.size) (hht : kht tl ≤ 800 ∧ kht tr ≤ 800) (ga_a1 : Lo n0 a1) (gaA : ∀ x ∈ kad tl ++ kad tr, Lo n0 x) (NDp : (a1 :: (kad tl ++ kad tr)).Nodup) (O_a1 : Ob Z h0 a1 "com/example/ugello/ugello/service/KeyCounts$Node" NS_N [(.int H0), (.long ky), (.long cn), (.long S0), vl, vr]) (Rl : Rep Z h0 tl vl) (Rr : Rep Z h0 tr vr) (ws : List Jvm.Cond) :
    Ctr l (⟨"com/example/ugello/ugello/service/KeyCounts", "balance", "(Lcom/example/ugello/ugello/service/KeyCounts$Node;)Lcom/example/ugello/ugello/service/KeyCounts$Node;"⟩ : MethodName) prog_23_method_9_code 3 (some (.object "com/example/ugello/ugello/service/KeyCounts$Node")) ({ frames := 3, cells := 0, slots := 0, locals := 41 } : Room) Z n0 #[(.ref a1)] h0 (fun v h => ∃ (t' : Tre) (v' : Value), v = some v' ∧ Rep Z h t' v' ∧ kin t' = kin tl ++ (ky, cn) :: kin tr ∧ (kad t').Perm (a1 :: (kad tl ++ kad tr)) ∧ Keep h0 h (a1 :: (kad tl ++ kad tr))) ws := by
  refine ctr_of (plainFor_of_name pn_0) ?_
  intro p e s m below meth c T0 X0 C
  refine go_cast (ef_rmBal m a1) ?_
  obtain ⟨RS, hRS⟩ : ∃ RS, RS = Rs s below n0 (fun v h => ∃ (t' : Tre) (v' : Value), v = some v' ∧ Rep Z h t' v' ∧ kin t' = kin tl ++ (ky, cn) :: kin tr ∧ (kad t').Perm (a1 :: (kad tl ++ kad tr)) ∧ Keep h0 h (a1 :: (kad tl ++ kad tr))) ({ frames := 3, cells := 0, slots := 0, locals := 41 } : Room).cells ({ frames := 3, cells := 0, slots := 0, locals := 41 } : Room).slots := ⟨_, rfl⟩
  suffices HG : Go p e below RS T0 (mkF m 0 #[.val (.ref a1), .unset, .unset] []) by rw [hRS] at HG; exact HG
  show Go p e below RS T0 (mkF m 0 #[.val (.ref a1), .unset, .unset] [])
  have NDc := List.nodup_cons.mp NDp
  have na1_tl : a1 ∉ kad tl := fun q => NDc.1 (List.mem_append_left _ q)
  have na1_tr : a1 ∉ kad tr := fun q => NDc.1 (List.mem_append_right _ q)
  obtain ⟨H111, hs_H111, ht_H111⟩ := Rep.hs Rl
  obtain ⟨H112, hs_H112, ht_H112⟩ := Rep.hs Rr
  refine g_aloadN X0 C d6_0 rfl rfl rfl ?_
  refine g_static (argsL := [(.ref a1)]) (rest := []) (W := 0) X0 C (rmU l Z a0 hw a1 H0 H111 H112 ky cn S0 (ksm tl) (ksm tr) vl vr h0 n0 hz0 (by omega) (by omega) ga_a1 (Rl.ne na1_tl) (Rr.ne na1_tr) O_a1 hs_H111 hs_H112 []) (hw _ (List.mem_of_getElem? (i := 40) rfl)) (hw _ (List.mem_of_getElem? (i := 41) rfl)) (hw _ (List.mem_of_getElem? (i := 2) rfl)) (hw _ (List.mem_of_getElem? (i := 42) rfl)) (by decide) pd_3 rfl rfl rfl rfl rfl (by decide) (by decide) (by decide) (by decide) d6_1 rfl (fun r116 T113 h115 hQ117 X114 => ?_)
  obtain ⟨rfl, H118, O_a1, hH_H118, KU119⟩ := hQ117
  have Rl := Rl.keep KU119 (ninL na1_tl)
  have Rr := Rr.keep KU119 (ninL na1_tr)
  have hz120 : Lo n0 h115.size := Lo.keep hz0 KU119
  have KK121 := (Keep.refl h0 (a1 :: (kad tl ++ kad tr))).trans KU119 (allS (Or.inl (List.mem_of_getElem? (i := 0) rfl)) all0)
  show Go p e below RS T113 (mkF m 4 #[.val (.ref a1), .unset, .unset] [])
  obtain ⟨H122, hs_H122, ht_H122⟩ := Rep.hs Rl
  obtain ⟨H123, hs_H123, ht_H123⟩ := Rep.hs Rr
  refine g_aloadN X114 C d6_4 rfl rfl rfl ?_
  refine g_getRef (i := 4) X114 C O_a1 rfl rfl (hw _ (List.mem_of_getElem? (i := 35) rfl)) d6_5 rfl ?_
  refine g_static (argsL := [vl]) (rest := []) (W := 0) X114 C (rm_height l Z a0 hw vl H122 (ksm tl) h115 n0 hz120 hs_H122 []) (hw _ (List.mem_of_getElem? (i := 43) rfl)) (hw _ (List.mem_of_getElem? (i := 44) rfl)) (hw _ (List.mem_of_getElem? (i := 2) rfl)) (hw _ (List.mem_of_getElem? (i := 45) rfl)) (by decide) pd_0 rfl rfl rfl rfl rfl (by decide) (by decide) (by decide) (by decide) d6_8 rfl (fun r127 T124 h126 hQ128 X125 => ?_)
  obtain ⟨rfl, hh⟩ := hQ128; rw [hh] at X125
  show Go p e below RS T124 (mkF m 11 #[.val (.ref a1), .unset, .unset] [(.int H122)])
  refine g_aloadN X125 C d6_11 rfl rfl rfl ?_
  refine g_getRef (i := 5) X125 C O_a1 rfl rfl (hw _ (List.mem_of_getElem? (i := 47) rfl)) d6_12 rfl ?_
  refine g_static (argsL := [vr]) (rest := [(.int H122)]) (W := 1) X125 C (rm_height l Z a0 hw vr H123 (ksm tr) h115 n0 hz120 hs_H123 []) (hw _ (List.mem_of_getElem? (i := 43) rfl)) (hw _ (List.mem_of_getElem? (i := 44) rfl)) (hw _ (List.mem_of_getElem? (i := 2) rfl)) (hw _ (List.mem_of_getElem? (i := 45) rfl)) (by decide) pd_0 rfl rfl rfl rfl rfl (by decide) (by decide) (by decide) (by decide) d6_15 rfl (fun r132 T129 h131 hQ133 X130 => ?_)
  obtain ⟨rfl, hh⟩ := hQ133; rw [hh] at X130
  show Go p e below RS T129 (mkF m 18 #[.val (.ref a1), .unset, .unset] [(.int H123), (.int H122)])
  refine g_isub X130 C d6_18 rfl ?_
  obtain ⟨i134, h_i134⟩ : ∃ z, z = (H122 - H123) := ⟨_, rfl⟩
  have hx_i134 : i134.toInt = H122.toInt - H123.toInt := by
    have g1 := c_isub H122 H123; have g2 := rng32 i134; rw [← h_i134] at g1; omega
  refine g_istoreN (L' := #[.val (.ref a1), .val (.int i134), .unset]) X130 C d6_19 h_i134 rfl rfl ?_
  refine g_aloadN X130 C d6_20 rfl rfl rfl ?_
  refine g_astoreN (L' := #[.val (.ref a1), .val (.int i134), .val (.ref a1)]) X130 C d6_21 rfl rfl rfl ?_
  refine g_iloadN X130 C d6_22 rfl rfl ?_
  refine g_iconst (v := 1) X130 C d6_23 (by decide) rfl ?_
  refine g_icmp_le (a := i134.toInt) (b := 1) X130 C d6_24 rfl (by decide) (by decide) (pT := 69) (by decide) (pF := 27) rfl (fun hc24 => ?_) (fun hc24 => ?_)
  ·
    refine g_iloadN X130 C d6_69 rfl rfl ?_
    refine g_iconst (v := -1) X130 C d6_70 (by decide) rfl ?_
    refine g_icmp_ge (a := i134.toInt) (b := (-1)) X130 C d6_71 rfl (by decide) (by decide) (pT := 113) (by decide) (pF := 74) rfl (fun hc71 => ?_) (fun hc71 => ?_)
    ·
      refine g_aloadN X130 C d6_113 rfl rfl rfl ?_
      rw [hRS]
      refine g_retA X130 C d6_114 rfl rfl ?_ (by decide) (by decide)
      refine ⟨(.inner 0 a1 (ky, cn) tl tr), _, rfl, ⟨rfl, _, _, _, O_a1, by omega, Rl, Rr⟩, ?_, ?_, KK121⟩
      · simp [kin]
      · rw [List.perm_iff_count]; intro x; simp [kad, List.count_cons, List.count_append]; try omega
    ·
      obtain ⟨sb, b, kb, cb, li, lo, rfl⟩ : ∃ s b k c l r, tr = .inner s b (k, c) l r := by
        cases tr with
        | leaf => exfalso; simp only [kht] at *; omega
        | inner s b kc l r => exact ⟨s, b, kc.1, kc.2, l, r, rfl⟩
      obtain ⟨rfl, Hb, vi, vo, O_b, hHb, Rli, Rlo⟩ := Rr
      have O_b : Ob Z h115 b "com/example/ugello/ugello/service/KeyCounts$Node" NS_N [(.int Hb), (.long kb), (.long cb), (.long (ksm li + cb + ksm lo)), vi, vo] := O_b
      obtain ⟨ne0, ⟨qa1, qa2, qa3⟩, qb1, qb2, qb3⟩ := nd_R (lo := kad lo) (li := kad li) (tx := kad tl) NDp
      have ne_b_a1 : NE b a1 := ne0
      obtain ⟨H135, hs_H135, ht_H135⟩ := Rep.hs Rlo
      obtain ⟨H136, hs_H136, ht_H136⟩ := Rep.hs Rli
      refine g_aloadN X130 C d6_74 rfl rfl rfl ?_
      refine g_getRef (i := 5) X130 C O_a1 rfl rfl (hw _ (List.mem_of_getElem? (i := 47) rfl)) d6_75 rfl ?_
      refine g_getRef (i := 5) X130 C O_b rfl rfl (hw _ (List.mem_of_getElem? (i := 47) rfl)) d6_78 rfl ?_
      refine g_static (argsL := [vo]) (rest := []) (W := 0) X130 C (rm_height l Z a0 hw vo H135 (ksm lo) h115 n0 hz120 hs_H135 []) (hw _ (List.mem_of_getElem? (i := 43) rfl)) (hw _ (List.mem_of_getElem? (i := 44) rfl)) (hw _ (List.mem_of_getElem? (i := 2) rfl)) (hw _ (List.mem_of_getElem? (i := 45) rfl)) (by decide) pd_0 rfl rfl rfl rfl rfl (by decide) (by decide) (by decide) (by decide) d6_81 rfl (fun r140 T137 h139 hQ141 X138 => ?_)
      obtain ⟨rfl, hh⟩ := hQ141; rw [hh] at X138
      show Go p e below RS T137 (mkF m 84 #[.val (.ref a1), .val (.int i134), .val (.ref a1)] [(.int H135)])
      refine g_aloadN X138 C d6_84 rfl rfl rfl ?_
      refine g_getRef (i := 5) X138 C O_a1 rfl rfl (hw _ (List.mem_of_getElem? (i := 47) rfl)) d6_85 rfl ?_
      refine g_getRef (i := 4) X138 C O_b rfl rfl (hw _ (List.mem_of_getElem? (i := 35) rfl)) d6_88 rfl ?_
      refine g_static (argsL := [vi]) (rest := [(.int H135)]) (W := 1) X138 C (rm_height l Z a0 hw vi H136 (ksm li) h115 n0 hz120 hs_H136 []) (hw _ (List.mem_of_getElem? (i := 43) rfl)) (hw _ (List.mem_of_getElem? (i := 44) rfl)) (hw _ (List.mem_of_getElem? (i := 2) rfl)) (hw _ (List.mem_of_getElem? (i := 45) rfl)) (by decide) pd_0 rfl rfl rfl rfl rfl (by decide) (by decide) (by decide) (by decide) d6_91 rfl (fun r145 T142 h144 hQ146 X143 => ?_)
      obtain ⟨rfl, hh⟩ := hQ146; rw [hh] at X143
      show Go p e below RS T142 (mkF m 94 #[.val (.ref a1), .val (.int i134), .val (.ref a1)] [(.int H136), (.int H135)])
      refine g_icmp_ge (a := H135.toInt) (b := H136.toInt) X143 C d6_94 rfl rfl (by decide) (pT := 108) (by decide) (pF := 97) rfl (fun hc94 => ?_) (fun hc94 => ?_)
      ·
        refine g_aloadN X143 C d6_108 rfl rfl rfl ?_
        refine g_static (argsL := [(.ref a1)]) (rest := []) (W := 0) X143 C (rm_rotateLeft l Z a0 hw a1 b H118 Hb ky cn ((ksm tl) + cn + (ksm (.inner sb b (kb, cb) li lo))) kb cb (ksm li + cb + ksm lo) vo vi vl lo li tl h115 n0 hz120 (by simp only [kht] at *; omega) ga_a1 (gaA b (by simp [kad])) ne_b_a1 qa1 qa2 qa3 qb1 qb2 qb3 O_a1 O_b Rlo Rli Rl []) (hw _ (List.mem_of_getElem? (i := 70) rfl)) (hw _ (List.mem_of_getElem? (i := 71) rfl)) (hw _ (List.mem_of_getElem? (i := 2) rfl)) (hw _ (List.mem_of_getElem? (i := 72) rfl)) (by decide) pd_4 rfl rfl rfl rfl rfl (by decide) (by decide) (by decide) (by decide) d6_109 rfl (fun r150 T147 h149 hQ151 X148 => ?_)
        obtain ⟨rfl, H152, H153, O_a1, hH_H152, O_b, hH_H153, Roq155, Riq155, Rxq155, KR154⟩ := hQ151
        have hz156 : Lo n0 h149.size := Lo.keep hz120 KR154
        have KK157 := KK121.trans KR154 (fun z hz => Or.inl (by simp only [List.mem_cons, List.not_mem_nil, or_false] at hz; rcases hz with rfl | rfl <;> simp [kad]))
        show Go p e below RS T147 (mkF m 112 #[.val (.ref a1), .val (.int i134), .val (.ref a1)] [(.ref b)])
        refine g_astoreN (L' := #[.val (.ref a1), .val (.int i134), .val (.ref b)]) X148 C d6_112 rfl rfl rfl ?_
        refine g_aloadN X148 C d6_113 rfl rfl rfl ?_
        rw [hRS]
        refine g_retA X148 C d6_114 rfl rfl ?_ (by decide) (by decide)
        refine ⟨(.inner 0 b (kb, cb) (.inner 0 a1 (ky, cn) tl li) lo), _, rfl, ⟨rfl, H153, _, _, O_b, hH_H153, ⟨rfl, H152, _, _, O_a1, hH_H152, Rxq155, Riq155⟩, Roq155⟩, ?_, ?_, KK157⟩
        · simp [kin]
        · rw [List.perm_iff_count]; intro x; simp [kad, List.count_cons, List.count_append]; try omega
      ·
        obtain ⟨sd, d, kd, cd, co, ci, rfl⟩ : ∃ s b k c l r, li = .inner s b (k, c) l r := by
          cases li with
          | leaf => exfalso; simp only [kht] at *; omega
          | inner s b kc l r => exact ⟨s, b, kc.1, kc.2, l, r, rfl⟩
        obtain ⟨rfl, Hd, vco, vci, O_d, hHd, Rco, Rci⟩ := Rli
        have O_d : Ob Z h115 d "com/example/ugello/ugello/service/KeyCounts$Node" NS_N [(.int Hd), (.long kd), (.long cd), (.long (ksm co + cd + ksm ci)), vco, vci] := O_d
        obtain ⟨⟨nf1, nf2⟩, ⟨qd1, qd2, qd3, qd4⟩, ⟨qe1, qe2⟩, qg1, qg2⟩ := nd_RL (lo := kad lo) (ci := kad ci) (co := kad co) (tx := kad tl) (by simpa [kad] using NDp)
        have ne_d_a1 : NE d a1 := nf1
        have ne_d_b : NE d b := nf2
        refine g_aloadN X143 C d6_97 rfl rfl rfl ?_
        refine g_aloadN X143 C d6_98 rfl rfl rfl ?_
        refine g_getRef (i := 5) X143 C O_a1 rfl rfl (hw _ (List.mem_of_getElem? (i := 47) rfl)) d6_99 rfl ?_
        refine g_static (argsL := [(.ref b)]) (rest := [(.ref a1)]) (W := 1) X143 C (rm_rotateRight l Z a0 hw b d Hb Hd kb cb (ksm (.inner sd d (kd, cd) co ci) + cb + ksm lo) kd cd (ksm co + cd + ksm ci) vco vci vo co ci lo h115 n0 hz120 (by simp only [kht] at *; omega) (gaA b (by simp [kad])) (gaA d (by simp [kad])) ne_d_b qe2 qe1 qb1 qd3 qd2 qd1 O_b O_d Rco Rci Rlo []) (hw _ (List.mem_of_getElem? (i := 58) rfl)) (hw _ (List.mem_of_getElem? (i := 59) rfl)) (hw _ (List.mem_of_getElem? (i := 2) rfl)) (hw _ (List.mem_of_getElem? (i := 60) rfl)) (by decide) pd_4 rfl rfl rfl rfl rfl (by decide) (by decide) (by decide) (by decide) d6_102 rfl (fun r161 T158 h160 hQ162 X159 => ?_)
        obtain ⟨rfl, H163, H164, O_b, hH_H163, O_d, hH_H164, Roq166, Riq166, Rxq166, KR165⟩ := hQ162
        have O_a1 := O_a1.keep KR165 (ninN (NE.symm ne_b_a1) (ninN (NE.symm ne_d_a1) nin0))
        have Rl := Rl.keep KR165 (ninL2 qb3 qd4)
        have hz167 : Lo n0 h160.size := Lo.keep hz120 KR165
        have KK168 := KK121.trans KR165 (fun z hz => Or.inl (by simp only [List.mem_cons, List.not_mem_nil, or_false] at hz; rcases hz with rfl | rfl <;> simp [kad]))
        show Go p e below RS T158 (mkF m 105 #[.val (.ref a1), .val (.int i134), .val (.ref a1)] [(.ref d), (.ref a1)])
        refine g_putRef (i := 5) (vs' := [(.int H118), (.long ky), (.long cn), (.long ((ksm tl) + cn + (ksm (.inner sb b (kb, cb) (.inner sd d (kd, cd) co ci) lo)))), vl, (.ref d)]) X159 C O_a1 (CF_N hw) rfl rfl rfl ga_a1 (hw _ (List.mem_of_getElem? (i := 47) rfl)) (hw _ (List.mem_of_getElem? (i := 48) rfl)) (ty := (.object "com/example/ugello/ugello/service/KeyCounts$Node")) (by decide) rfl rfl d6_105 rfl (fun T169 h171 X170 O_a1 K172 => ?_)
        have Rl := Rl.keep K172 (ninL na1_tl)
        have O_b := O_b.keep K172 (ninN ne_b_a1 nin0)
        have Rxq166 := Rxq166.keep K172 (ninL qa1)
        have O_d := O_d.keep K172 (ninN ne_d_a1 nin0)
        have Roq166 := Roq166.keep K172 (ninL qg2)
        have Riq166 := Riq166.keep K172 (ninL qg1)
        have hz173 : Lo n0 h171.size := Lo.keep hz167 K172
        have KK174 := KK168.trans K172 (allS (Or.inl (List.mem_of_getElem? (i := 0) rfl)) all0)
        refine g_aloadN X170 C d6_108 rfl rfl rfl ?_
        refine g_static (argsL := [(.ref a1)]) (rest := []) (W := 0) X170 C (rm_rotateLeft l Z a0 hw a1 d H118 H164 ky cn ((ksm tl) + cn + (ksm (.inner sb b (kb, cb) (.inner sd d (kd, cd) co ci) lo))) kd cd (ksm co + cd + (ksm ci + cb + ksm lo)) (.ref b) vco vl (.inner 0 b (kb, cb) ci lo) co tl h171 n0 hz173 (by simp only [kht] at *; omega) ga_a1 (gaA d (by simp [kad])) ne_d_a1 (fun q => by simp only [kad, List.mem_cons, List.mem_append] at q; rcases q with q | q | q <;> first | exact ne_b_a1 q.symm | exact qa1 q | exact qg1 q) qg2 qa3 (fun q => by simp only [kad, List.mem_cons, List.mem_append] at q; rcases q with q | q | q <;> first | exact ne_d_b q | exact qd1 q | exact qd2 q) qd3 qd4 O_a1 O_d ⟨rfl, H163, _, _, O_b, hH_H163, Riq166, Rxq166⟩ Roq166 Rl []) (hw _ (List.mem_of_getElem? (i := 70) rfl)) (hw _ (List.mem_of_getElem? (i := 71) rfl)) (hw _ (List.mem_of_getElem? (i := 2) rfl)) (hw _ (List.mem_of_getElem? (i := 72) rfl)) (by decide) pd_4 rfl rfl rfl rfl rfl (by decide) (by decide) (by decide) (by decide) d6_109 rfl (fun r178 T175 h177 hQ179 X176 => ?_)
        obtain ⟨rfl, H180, H181, O_a1, hH_H180, O_d, hH_H181, Roq183, Riq183, Rxq183, KR182⟩ := hQ179
        have O_b := O_b.keep KR182 (ninN ne_b_a1 (ninN (NE.symm ne_d_b) nin0))
        have Rxq166 := Rxq166.keep KR182 (ninL2 qa1 qd1)
        have Riq166 := Riq166.keep KR182 (ninL2 qg1 qd2)
        have hz184 : Lo n0 h177.size := Lo.keep hz173 KR182
        have KK185 := KK174.trans KR182 (fun z hz => Or.inl (by simp only [List.mem_cons, List.not_mem_nil, or_false] at hz; rcases hz with rfl | rfl <;> simp [kad]))
        show Go p e below RS T175 (mkF m 112 #[.val (.ref a1), .val (.int i134), .val (.ref a1)] [(.ref d)])
        refine g_astoreN (L' := #[.val (.ref a1), .val (.int i134), .val (.ref d)]) X176 C d6_112 rfl rfl rfl ?_
        refine g_aloadN X176 C d6_113 rfl rfl rfl ?_
        rw [hRS]
        refine g_retA X176 C d6_114 rfl rfl ?_ (by decide) (by decide)
        refine ⟨(.inner 0 d (kd, cd) (.inner 0 a1 (ky, cn) tl co) (.inner 0 b (kb, cb) ci lo)), _, rfl, ⟨rfl, H181, _, _, O_d, hH_H181, ⟨rfl, H180, _, _, O_a1, hH_H180, Rxq183, Riq183⟩, Roq183⟩, ?_, ?_, KK185⟩
        · simp [kin]
        · rw [List.perm_iff_count]; intro x; simp [kad, List.count_cons, List.count_append]; try omega
  ·
    obtain ⟨sb, b, kb, cb, lo, li, rfl⟩ : ∃ s b k c l r, tl = .inner s b (k, c) l r := by
      cases tl with
      | leaf => exfalso; simp only [kht] at *; omega
      | inner s b kc l r => exact ⟨s, b, kc.1, kc.2, l, r, rfl⟩
    obtain ⟨rfl, Hb, vo, vi, O_b, hHb, Rlo, Rli⟩ := Rl
    have O_b : Ob Z h115 b "com/example/ugello/ugello/service/KeyCounts$Node" NS_N [(.int Hb), (.long kb), (.long cb), (.long (ksm lo + cb + ksm li)), vo, vi] := O_b
    obtain ⟨ne0, ⟨qa1, qa2, qa3⟩, qb1, qb2, qb3⟩ := nd_L (lo := kad lo) (li := kad li) (tx := kad tr) NDp
    have ne_b_a1 : NE b a1 := ne0
    obtain ⟨H186, hs_H186, ht_H186⟩ := Rep.hs Rlo
    obtain ⟨H187, hs_H187, ht_H187⟩ := Rep.hs Rli
    refine g_aloadN X130 C d6_27 rfl rfl rfl ?_
    refine g_getRef (i := 4) X130 C O_a1 rfl rfl (hw _ (List.mem_of_getElem? (i := 35) rfl)) d6_28 rfl ?_
    refine g_getRef (i := 4) X130 C O_b rfl rfl (hw _ (List.mem_of_getElem? (i := 35) rfl)) d6_31 rfl ?_
    refine g_static (argsL := [vo]) (rest := []) (W := 0) X130 C (rm_height l Z a0 hw vo H186 (ksm lo) h115 n0 hz120 hs_H186 []) (hw _ (List.mem_of_getElem? (i := 43) rfl)) (hw _ (List.mem_of_getElem? (i := 44) rfl)) (hw _ (List.mem_of_getElem? (i := 2) rfl)) (hw _ (List.mem_of_getElem? (i := 45) rfl)) (by decide) pd_0 rfl rfl rfl rfl rfl (by decide) (by decide) (by decide) (by decide) d6_34 rfl (fun r191 T188 h190 hQ192 X189 => ?_)
    obtain ⟨rfl, hh⟩ := hQ192; rw [hh] at X189
    show Go p e below RS T188 (mkF m 37 #[.val (.ref a1), .val (.int i134), .val (.ref a1)] [(.int H186)])
    refine g_aloadN X189 C d6_37 rfl rfl rfl ?_
    refine g_getRef (i := 4) X189 C O_a1 rfl rfl (hw _ (List.mem_of_getElem? (i := 35) rfl)) d6_38 rfl ?_
    refine g_getRef (i := 5) X189 C O_b rfl rfl (hw _ (List.mem_of_getElem? (i := 47) rfl)) d6_41 rfl ?_
    refine g_static (argsL := [vi]) (rest := [(.int H186)]) (W := 1) X189 C (rm_height l Z a0 hw vi H187 (ksm li) h115 n0 hz120 hs_H187 []) (hw _ (List.mem_of_getElem? (i := 43) rfl)) (hw _ (List.mem_of_getElem? (i := 44) rfl)) (hw _ (List.mem_of_getElem? (i := 2) rfl)) (hw _ (List.mem_of_getElem? (i := 45) rfl)) (by decide) pd_0 rfl rfl rfl rfl rfl (by decide) (by decide) (by decide) (by decide) d6_44 rfl (fun r196 T193 h195 hQ197 X194 => ?_)
    obtain ⟨rfl, hh⟩ := hQ197; rw [hh] at X194
    show Go p e below RS T193 (mkF m 47 #[.val (.ref a1), .val (.int i134), .val (.ref a1)] [(.int H187), (.int H186)])
    refine g_icmp_ge (a := H186.toInt) (b := H187.toInt) X194 C d6_47 rfl rfl (by decide) (pT := 61) (by decide) (pF := 50) rfl (fun hc47 => ?_) (fun hc47 => ?_)
    ·
      refine g_aloadN X194 C d6_61 rfl rfl rfl ?_
      refine g_static (argsL := [(.ref a1)]) (rest := []) (W := 0) X194 C (rm_rotateRight l Z a0 hw a1 b H118 Hb ky cn ((ksm (.inner sb b (kb, cb) lo li)) + cn + (ksm tr)) kb cb (ksm lo + cb + ksm li) vo vi vr lo li tr h115 n0 hz120 (by simp only [kht] at *; omega) ga_a1 (gaA b (by simp [kad])) ne_b_a1 qa1 qa2 qa3 qb1 qb2 qb3 O_a1 O_b Rlo Rli Rr []) (hw _ (List.mem_of_getElem? (i := 58) rfl)) (hw _ (List.mem_of_getElem? (i := 59) rfl)) (hw _ (List.mem_of_getElem? (i := 2) rfl)) (hw _ (List.mem_of_getElem? (i := 60) rfl)) (by decide) pd_4 rfl rfl rfl rfl rfl (by decide) (by decide) (by decide) (by decide) d6_62 rfl (fun r201 T198 h200 hQ202 X199 => ?_)
      obtain ⟨rfl, H203, H204, O_a1, hH_H203, O_b, hH_H204, Roq206, Riq206, Rxq206, KR205⟩ := hQ202
      have hz207 : Lo n0 h200.size := Lo.keep hz120 KR205
      have KK208 := KK121.trans KR205 (fun z hz => Or.inl (by simp only [List.mem_cons, List.not_mem_nil, or_false] at hz; rcases hz with rfl | rfl <;> simp [kad]))
      show Go p e below RS T198 (mkF m 65 #[.val (.ref a1), .val (.int i134), .val (.ref a1)] [(.ref b)])
      refine g_astoreN (L' := #[.val (.ref a1), .val (.int i134), .val (.ref b)]) X199 C d6_65 rfl rfl rfl ?_
      refine g_goto (pc' := 113) X199 C d6_66 (by decide) (by decide) ?_
      refine g_aloadN X199 C d6_113 rfl rfl rfl ?_
      rw [hRS]
      refine g_retA X199 C d6_114 rfl rfl ?_ (by decide) (by decide)
      refine ⟨(.inner 0 b (kb, cb) lo (.inner 0 a1 (ky, cn) li tr)), _, rfl, ⟨rfl, H204, _, _, O_b, hH_H204, Roq206, ⟨rfl, H203, _, _, O_a1, hH_H203, Riq206, Rxq206⟩⟩, ?_, ?_, KK208⟩
      · simp [kin]
      · rw [List.perm_iff_count]; intro x; simp [kad, List.count_cons, List.count_append]; try omega
    ·
      obtain ⟨sd, d, kd, cd, ci, co, rfl⟩ : ∃ s b k c l r, li = .inner s b (k, c) l r := by
        cases li with
        | leaf => exfalso; simp only [kht] at *; omega
        | inner s b kc l r => exact ⟨s, b, kc.1, kc.2, l, r, rfl⟩
      obtain ⟨rfl, Hd, vci, vco, O_d, hHd, Rci, Rco⟩ := Rli
      have O_d : Ob Z h115 d "com/example/ugello/ugello/service/KeyCounts$Node" NS_N [(.int Hd), (.long kd), (.long cd), (.long (ksm ci + cd + ksm co)), vci, vco] := O_d
      obtain ⟨⟨nf1, nf2⟩, ⟨qd1, qd2, qd3, qd4⟩, ⟨qe1, qe2⟩, qg1, qg2⟩ := nd_LR (lo := kad lo) (ci := kad ci) (co := kad co) (tx := kad tr) (by simpa [kad] using NDp)
      have ne_d_a1 : NE d a1 := nf1
      have ne_d_b : NE d b := nf2
      refine g_aloadN X194 C d6_50 rfl rfl rfl ?_
      refine g_aloadN X194 C d6_51 rfl rfl rfl ?_
      refine g_getRef (i := 4) X194 C O_a1 rfl rfl (hw _ (List.mem_of_getElem? (i := 35) rfl)) d6_52 rfl ?_
      refine g_static (argsL := [(.ref b)]) (rest := [(.ref a1)]) (W := 1) X194 C (rm_rotateLeft l Z a0 hw b d Hb Hd kb cb (ksm lo + cb + ksm (.inner sd d (kd, cd) ci co)) kd cd (ksm ci + cd + ksm co) vco vci vo co ci lo h115 n0 hz120 (by simp only [kht] at *; omega) (gaA b (by simp [kad])) (gaA d (by simp [kad])) ne_d_b qe2 qe1 qb1 qd3 qd2 qd1 O_b O_d Rco Rci Rlo []) (hw _ (List.mem_of_getElem? (i := 70) rfl)) (hw _ (List.mem_of_getElem? (i := 71) rfl)) (hw _ (List.mem_of_getElem? (i := 2) rfl)) (hw _ (List.mem_of_getElem? (i := 72) rfl)) (by decide) pd_4 rfl rfl rfl rfl rfl (by decide) (by decide) (by decide) (by decide) d6_55 rfl (fun r212 T209 h211 hQ213 X210 => ?_)
      obtain ⟨rfl, H214, H215, O_b, hH_H214, O_d, hH_H215, Roq217, Riq217, Rxq217, KR216⟩ := hQ213
      have O_a1 := O_a1.keep KR216 (ninN (NE.symm ne_b_a1) (ninN (NE.symm ne_d_a1) nin0))
      have Rr := Rr.keep KR216 (ninL2 qb3 qd4)
      have hz218 : Lo n0 h211.size := Lo.keep hz120 KR216
      have KK219 := KK121.trans KR216 (fun z hz => Or.inl (by simp only [List.mem_cons, List.not_mem_nil, or_false] at hz; rcases hz with rfl | rfl <;> simp [kad]))
      show Go p e below RS T209 (mkF m 58 #[.val (.ref a1), .val (.int i134), .val (.ref a1)] [(.ref d), (.ref a1)])
      refine g_putRef (i := 4) (vs' := [(.int H118), (.long ky), (.long cn), (.long ((ksm (.inner sb b (kb, cb) lo (.inner sd d (kd, cd) ci co))) + cn + (ksm tr))), (.ref d), vr]) X210 C O_a1 (CF_N hw) rfl rfl rfl ga_a1 (hw _ (List.mem_of_getElem? (i := 35) rfl)) (hw _ (List.mem_of_getElem? (i := 36) rfl)) (ty := (.object "com/example/ugello/ugello/service/KeyCounts$Node")) (by decide) rfl rfl d6_58 rfl (fun T220 h222 X221 O_a1 K223 => ?_)
      have Rr := Rr.keep K223 (ninL na1_tr)
      have O_b := O_b.keep K223 (ninN ne_b_a1 nin0)
      have Rxq217 := Rxq217.keep K223 (ninL qa1)
      have O_d := O_d.keep K223 (ninN ne_d_a1 nin0)
      have Roq217 := Roq217.keep K223 (ninL qg2)
      have Riq217 := Riq217.keep K223 (ninL qg1)
      have hz224 : Lo n0 h222.size := Lo.keep hz218 K223
      have KK225 := KK219.trans K223 (allS (Or.inl (List.mem_of_getElem? (i := 0) rfl)) all0)
      refine g_aloadN X221 C d6_61 rfl rfl rfl ?_
      refine g_static (argsL := [(.ref a1)]) (rest := []) (W := 0) X221 C (rm_rotateRight l Z a0 hw a1 d H118 H215 ky cn ((ksm (.inner sb b (kb, cb) lo (.inner sd d (kd, cd) ci co))) + cn + (ksm tr)) kd cd ((ksm lo + cb + ksm ci) + cd + ksm co) (.ref b) vco vr (.inner 0 b (kb, cb) lo ci) co tr h222 n0 hz224 (by simp only [kht] at *; omega) ga_a1 (gaA d (by simp [kad])) ne_d_a1 (fun q => by simp only [kad, List.mem_cons, List.mem_append] at q; rcases q with q | q | q <;> first | exact ne_b_a1 q.symm | exact qa1 q | exact qg1 q) qg2 qa3 (fun q => by simp only [kad, List.mem_cons, List.mem_append] at q; rcases q with q | q | q <;> first | exact ne_d_b q | exact qd1 q | exact qd2 q) qd3 qd4 O_a1 O_d ⟨rfl, H214, _, _, O_b, hH_H214, Rxq217, Riq217⟩ Roq217 Rr []) (hw _ (List.mem_of_getElem? (i := 58) rfl)) (hw _ (List.mem_of_getElem? (i := 59) rfl)) (hw _ (List.mem_of_getElem? (i := 2) rfl)) (hw _ (List.mem_of_getElem? (i := 60) rfl)) (by decide) pd_4 rfl rfl rfl rfl rfl (by decide) (by decide) (by decide) (by decide) d6_62 rfl (fun r229 T226 h228 hQ230 X227 => ?_)
      obtain ⟨rfl, H231, H232, O_a1, hH_H231, O_d, hH_H232, Roq234, Riq234, Rxq234, KR233⟩ := hQ230
      have O_b := O_b.keep KR233 (ninN ne_b_a1 (ninN (NE.symm ne_d_b) nin0))
      have Rxq217 := Rxq217.keep KR233 (ninL2 qa1 qd1)
      have Riq217 := Riq217.keep KR233 (ninL2 qg1 qd2)
      have hz235 : Lo n0 h228.size := Lo.keep hz224 KR233
      have KK236 := KK225.trans KR233 (fun z hz => Or.inl (by simp only [List.mem_cons, List.not_mem_nil, or_false] at hz; rcases hz with rfl | rfl <;> simp [kad]))
      show Go p e below RS T226 (mkF m 65 #[.val (.ref a1), .val (.int i134), .val (.ref a1)] [(.ref d)])
      refine g_astoreN (L' := #[.val (.ref a1), .val (.int i134), .val (.ref d)]) X227 C d6_65 rfl rfl rfl ?_
      refine g_goto (pc' := 113) X227 C d6_66 (by decide) (by decide) ?_
      refine g_aloadN X227 C d6_113 rfl rfl rfl ?_
      rw [hRS]
      refine g_retA X227 C d6_114 rfl rfl ?_ (by decide) (by decide)
      refine ⟨(.inner 0 d (kd, cd) (.inner 0 b (kb, cb) lo ci) (.inner 0 a1 (ky, cn) co tr)), _, rfl, ⟨rfl, H232, _, _, O_d, hH_H232, Roq234, ⟨rfl, H231, _, _, O_a1, hH_H231, Riq234, Rxq234⟩⟩, ?_, ?_, KK236⟩
      · simp [kin]
      · rw [List.perm_iff_count]; intro x; simp [kad, List.count_cons, List.count_append]; try omega
theorem ef_rmNi (m : MethodId) (a1 : Addr) (q2 : Int64) (q3 : Int64) : entryFrame m #[(.ref a1), (.long q2), (.long q3)] 5 = mkF m 0 #[.val (.ref a1), .val (.long q2), .second, .val (.long q3), .second] [] := by first | (simp [entryFrame, mkF, argsToLocals, Value.category]; done) | rfl
set_option maxRecDepth 65536 in
set_option maxHeartbeats 40000000 in
theorem rmNi (l : Launch) (Z : State) (a0 : Array Value) (hw : ∀ d ∈ tables_1, d.before a0 Z = true) (a1 : Addr) (q2 q3 : Int64) (h0 : Heap) (n0 : Nat) (hz0 : Lo n0 h0.size) (ga_a1 : Lo n0 a1) (O_a1 : Ob Z h0 a1 "com/example/ugello/ugello/service/KeyCounts$Node" NS_N [(.int (0 : Int32)), (.long (0 : Int64)), (.long (0 : Int64)), (.long (0 : Int64)), .null, .null]) (ws : List Jvm.Cond) :
    Ctr l (⟨"com/example/ugello/ugello/service/KeyCounts$Node", "<init>", "(JJ)V"⟩ : MethodName) prog_24_method_1_code 5 none ({ frames := 1, cells := 0, slots := 0, locals := 12 } : Room) Z n0 #[(.ref a1), (.long q2), (.long q3)] h0 (fun v h => v = none ∧ Ob Z h a1 "com/example/ugello/ugello/service/KeyCounts$Node" NS_N [(.int (1 : Int32)), (.long q2), (.long q3), (.long q3), .null, .null] ∧ Keep h0 h [a1]) ws := by
  refine ctr_of (plainFor_of_name pn_1) ?_
  intro p e s m below meth c T0 X0 C
  refine go_cast (ef_rmNi m a1 q2 q3) ?_
  obtain ⟨RS, hRS⟩ : ∃ RS, RS = Rs s below n0 (fun v h => v = none ∧ Ob Z h a1 "com/example/ugello/ugello/service/KeyCounts$Node" NS_N [(.int (1 : Int32)), (.long q2), (.long q3), (.long q3), .null, .null] ∧ Keep h0 h [a1]) ({ frames := 1, cells := 0, slots := 0, locals := 12 } : Room).cells ({ frames := 1, cells := 0, slots := 0, locals := 12 } : Room).slots := ⟨_, rfl⟩
  suffices HG : Go p e below RS T0 (mkF m 0 #[.val (.ref a1), .val (.long q2), .second, .val (.long q3), .second] []) by rw [hRS] at HG; exact HG
  show Go p e below RS T0 (mkF m 0 #[.val (.ref a1), .val (.long q2), .second, .val (.long q3), .second] [])
  refine g_aloadN X0 C d5_0 rfl rfl rfl ?_
  refine g_initO (W := 0) X0 C (hw _ (List.mem_of_getElem? (i := 25) rfl)) (hw _ (List.mem_of_getElem? (i := 7) rfl)) (hw _ (List.mem_of_getElem? (i := 8) rfl)) rfl rfl (by decide) (by decide) d5_1 rfl (fun T237 X238 => ?_)
  refine g_aloadN X238 C d5_4 rfl rfl rfl ?_
  refine g_iconst (v := 1) X238 C d5_5 (by decide) rfl ?_
  refine g_putO (i := 0) (vs' := [(.int (1 : Int32)), (.long (0 : Int64)), (.long (0 : Int64)), (.long (0 : Int64)), .null, .null]) X238 C O_a1 (CF_N hw) rfl rfl rfl ga_a1 (host := "") (Or.inl (hw _ (List.mem_of_getElem? (i := 26) rfl))) (Or.inl (hw _ (List.mem_of_getElem? (i := 27) rfl))) (ty := .int) (by decide) rfl rfl d5_6 rfl (fun T239 h241 X240 O_a1 K242 => ?_)
  have hz243 : Lo n0 h241.size := Lo.keep hz0 K242
  have KK244 := (Keep.refl h0 [a1]).trans K242 (allS (Or.inl (List.mem_of_getElem? (i := 0) rfl)) all0)
  refine g_aloadN X240 C d5_9 rfl rfl rfl ?_
  refine g_lloadN X240 C d5_10 rfl rfl ?_
  refine g_putO (i := 1) (vs' := [(.int (1 : Int32)), (.long q2), (.long (0 : Int64)), (.long (0 : Int64)), .null, .null]) X240 C O_a1 (CF_N hw) rfl rfl rfl ga_a1 (host := "") (Or.inl (hw _ (List.mem_of_getElem? (i := 28) rfl))) (Or.inr ⟨(hw _ (List.mem_of_getElem? (i := 29) rfl)), rfl, rfl⟩) (ty := .long) (by decide) rfl rfl d5_11 rfl (fun T245 h247 X246 O_a1 K248 => ?_)
  have hz249 : Lo n0 h247.size := Lo.keep hz243 K248
  have KK250 := KK244.trans K248 (allS (Or.inl (List.mem_of_getElem? (i := 0) rfl)) all0)
  refine g_aloadN X246 C d5_14 rfl rfl rfl ?_
  refine g_lloadN X246 C d5_15 rfl rfl ?_
  refine g_putO (i := 2) (vs' := [(.int (1 : Int32)), (.long q2), (.long q3), (.long (0 : Int64)), .null, .null]) X246 C O_a1 (CF_N hw) rfl rfl rfl ga_a1 (host := "") (Or.inl (hw _ (List.mem_of_getElem? (i := 30) rfl))) (Or.inl (hw _ (List.mem_of_getElem? (i := 31) rfl))) (ty := .long) (by decide) rfl rfl d5_16 rfl (fun T251 h253 X252 O_a1 K254 => ?_)
  have hz255 : Lo n0 h253.size := Lo.keep hz249 K254
  have KK256 := KK250.trans K254 (allS (Or.inl (List.mem_of_getElem? (i := 0) rfl)) all0)
  refine g_aloadN X252 C d5_19 rfl rfl rfl ?_
  refine g_lloadN X252 C d5_20 rfl rfl ?_
  refine g_putO (i := 3) (vs' := [(.int (1 : Int32)), (.long q2), (.long q3), (.long q3), .null, .null]) X252 C O_a1 (CF_N hw) rfl rfl rfl ga_a1 (host := "") (Or.inl (hw _ (List.mem_of_getElem? (i := 32) rfl))) (Or.inl (hw _ (List.mem_of_getElem? (i := 33) rfl))) (ty := .long) (by decide) rfl rfl d5_21 rfl (fun T257 h259 X258 O_a1 K260 => ?_)
  have hz261 : Lo n0 h259.size := Lo.keep hz255 K260
  have KK262 := KK256.trans K260 (allS (Or.inl (List.mem_of_getElem? (i := 0) rfl)) all0)
  rw [hRS]
  refine g_retV X258 C d5_24 ?_ (by decide) (by decide)
  exact ⟨rfl, O_a1, KK262⟩
theorem ef_rmKi (m : MethodId) (a1 : Addr) : entryFrame m #[(.ref a1)] 1 = mkF m 0 #[.val (.ref a1)] [] := by first | (simp [entryFrame, mkF, argsToLocals, Value.category]; done) | rfl
set_option maxRecDepth 65536 in
set_option maxHeartbeats 40000000 in
theorem rmKi (l : Launch) (Z : State) (a0 : Array Value) (hw : ∀ d ∈ tables_1, d.before a0 Z = true) (a1 : Addr) (h0 : Heap) (n0 : Nat) (hz0 : Lo n0 h0.size)  (ws : List Jvm.Cond) :
    Ctr l (⟨"com/example/ugello/ugello/service/KeyCounts", "<init>", "()V"⟩ : MethodName) prog_23_method_1_code 1 none ({ frames := 1, cells := 0, slots := 0, locals := 12 } : Room) Z n0 #[(.ref a1)] h0 (fun v h => v = none ∧ h = h0) ws := by
  refine ctr_of (plainFor_of_name pn_0) ?_
  intro p e s m below meth c T0 X0 C
  refine go_cast (ef_rmKi m a1) ?_
  obtain ⟨RS, hRS⟩ : ∃ RS, RS = Rs s below n0 (fun v h => v = none ∧ h = h0) ({ frames := 1, cells := 0, slots := 0, locals := 12 } : Room).cells ({ frames := 1, cells := 0, slots := 0, locals := 12 } : Room).slots := ⟨_, rfl⟩
  suffices HG : Go p e below RS T0 (mkF m 0 #[.val (.ref a1)] []) by rw [hRS] at HG; exact HG
  show Go p e below RS T0 (mkF m 0 #[.val (.ref a1)] [])
  refine g_aloadN X0 C d1_0 rfl rfl rfl ?_
  refine g_initO (W := 0) X0 C (hw _ (List.mem_of_getElem? (i := 6) rfl)) (hw _ (List.mem_of_getElem? (i := 7) rfl)) (hw _ (List.mem_of_getElem? (i := 8) rfl)) rfl rfl (by decide) (by decide) d1_1 rfl (fun T263 X264 => ?_)
  rw [hRS]
  refine g_retV X264 C d1_4 ?_ (by decide) (by decide)
  exact ⟨rfl, rfl⟩
theorem ef_rmWL (m : MethodId) (a1 : Addr) : entryFrame m #[(.ref a1)] 2 = mkF m 0 #[.val (.ref a1), .unset] [] := by first | (simp [entryFrame, mkF, argsToLocals, Value.category]; done) | rfl
set_option maxRecDepth 65536 in
set_option maxHeartbeats 40000000 in
theorem rmWL (l : Launch) (Z : State) (a0 : Array Value) (hw : ∀ d ∈ tables_1, d.before a0 Z = true) (a1 : Addr) (H0 : Int32) (ky cn S0 : Int64) (vr : Value) (h0 : Heap) (n0 : Nat) (hz0 : Lo n0 h0.size) (hvr : vr.isRef = true) (O_a1 : Ob Z h0 a1 "com/example/ugello/ugello/service/KeyCounts$Node" NS_N [(.int H0), (.long ky), (.long cn), (.long S0), .null, vr]) (ws : List Jvm.Cond) :
    Ctr l (⟨"com/example/ugello/ugello/service/KeyCounts", "withoutLeftmost", "(Lcom/example/ugello/ugello/service/KeyCounts$Node;)Lcom/example/ugello/ugello/service/KeyCounts$Node;"⟩ : MethodName) prog_23_method_8_code 2 (some (.object "com/example/ugello/ugello/service/KeyCounts$Node")) ({ frames := 0, cells := 0, slots := 0, locals := 0 } : Room) Z n0 #[(.ref a1)] h0 (fun v h => v = some vr ∧ h = h0) ws := by
  refine ctr_of (plainFor_of_name pn_0) ?_
  intro p e s m below meth c T0 X0 C
  refine go_cast (ef_rmWL m a1) ?_
  obtain ⟨RS, hRS⟩ : ∃ RS, RS = Rs s below n0 (fun v h => v = some vr ∧ h = h0) ({ frames := 0, cells := 0, slots := 0, locals := 0 } : Room).cells ({ frames := 0, cells := 0, slots := 0, locals := 0 } : Room).slots := ⟨_, rfl⟩
  suffices HG : Go p e below RS T0 (mkF m 0 #[.val (.ref a1), .unset] []) by rw [hRS] at HG; exact HG
  show Go p e below RS T0 (mkF m 0 #[.val (.ref a1), .unset] [])
  refine g_aloadN X0 C d16_0 rfl rfl rfl ?_
  refine g_getRef (i := 4) X0 C O_a1 rfl rfl (hw _ (List.mem_of_getElem? (i := 35) rfl)) d16_1 rfl ?_
  refine g_nonnullN (pF := 7) X0 C d16_4 rfl ?_
  refine g_aloadN X0 C d16_7 rfl rfl rfl ?_
  refine g_getRef (i := 5) X0 C O_a1 rfl rfl (hw _ (List.mem_of_getElem? (i := 47) rfl)) d16_8 rfl ?_
  refine g_astoreN (L' := #[.val (.ref a1), .val vr]) X0 C d16_11 hvr (by rcases ref_cases hvr with q | ⟨_, q⟩ <;> rw [q] <;> rfl) rfl ?_
  refine g_goto (pc' := 31) X0 C d16_12 (by decide) (by decide) ?_
  refine g_aloadN X0 C d16_31 rfl hvr rfl ?_
  rw [hRS]
  refine g_retA X0 C d16_32 rfl hvr ?_ (by decide) (by decide)
  exact ⟨rfl, rfl⟩
theorem ef_rmWRl (m : MethodId) (a1 : Addr) : entryFrame m #[(.ref a1)] 3 = mkF m 0 #[.val (.ref a1), .unset, .unset] [] := by first | (simp [entryFrame, mkF, argsToLocals, Value.category]; done) | rfl
set_option maxRecDepth 65536 in
set_option maxHeartbeats 40000000 in
theorem rmWRl (l : Launch) (Z : State) (a0 : Array Value) (hw : ∀ d ∈ tables_1, d.before a0 Z = true) (a1 : Addr) (H0 : Int32) (ky cn S0 : Int64) (vr : Value) (h0 : Heap) (n0 : Nat) (hz0 : Lo n0 h0.size) (hvr : vr.isRef = true) (O_a1 : Ob Z h0 a1 "com/example/ugello/ugello/service/KeyCounts$Node" NS_N [(.int H0), (.long ky), (.long cn), (.long S0), .null, vr]) (ws : List Jvm.Cond) :
    Ctr l (⟨"com/example/ugello/ugello/service/KeyCounts", "withoutRoot", "(Lcom/example/ugello/ugello/service/KeyCounts$Node;)Lcom/example/ugello/ugello/service/KeyCounts$Node;"⟩ : MethodName) prog_23_method_7_code 3 (some (.object "com/example/ugello/ugello/service/KeyCounts$Node")) ({ frames := 0, cells := 0, slots := 0, locals := 0 } : Room) Z n0 #[(.ref a1)] h0 (fun v h => v = some vr ∧ h = h0) ws := by
  refine ctr_of (plainFor_of_name pn_0) ?_
  intro p e s m below meth c T0 X0 C
  refine go_cast (ef_rmWRl m a1) ?_
  obtain ⟨RS, hRS⟩ : ∃ RS, RS = Rs s below n0 (fun v h => v = some vr ∧ h = h0) ({ frames := 0, cells := 0, slots := 0, locals := 0 } : Room).cells ({ frames := 0, cells := 0, slots := 0, locals := 0 } : Room).slots := ⟨_, rfl⟩
  suffices HG : Go p e below RS T0 (mkF m 0 #[.val (.ref a1), .unset, .unset] []) by rw [hRS] at HG; exact HG
  show Go p e below RS T0 (mkF m 0 #[.val (.ref a1), .unset, .unset] [])
  refine g_aloadN X0 C d15_0 rfl rfl rfl ?_
  refine g_getRef (i := 4) X0 C O_a1 rfl rfl (hw _ (List.mem_of_getElem? (i := 35) rfl)) d15_1 rfl ?_
  refine g_nonnullN (pF := 7) X0 C d15_4 rfl ?_
  refine g_aloadN X0 C d15_7 rfl rfl rfl ?_
  refine g_getRef (i := 5) X0 C O_a1 rfl rfl (hw _ (List.mem_of_getElem? (i := 47) rfl)) d15_8 rfl ?_
  refine g_astoreN (L' := #[.val (.ref a1), .val vr, .unset]) X0 C d15_11 hvr (by rcases ref_cases hvr with q | ⟨_, q⟩ <;> rw [q] <;> rfl) rfl ?_
  refine g_goto (pc' := 74) X0 C d15_12 (by decide) (by decide) ?_
  refine g_aloadN X0 C d15_74 rfl hvr rfl ?_
  rw [hRS]
  refine g_retA X0 C d15_75 rfl hvr ?_ (by decide) (by decide)
  exact ⟨rfl, rfl⟩
theorem ef_rmWRr (m : MethodId) (a1 : Addr) : entryFrame m #[(.ref a1)] 3 = mkF m 0 #[.val (.ref a1), .unset, .unset] [] := by first | (simp [entryFrame, mkF, argsToLocals, Value.category]; done) | rfl
set_option maxRecDepth 65536 in
set_option maxHeartbeats 40000000 in
theorem rmWRr (l : Launch) (Z : State) (a0 : Array Value) (hw : ∀ d ∈ tables_1, d.before a0 Z = true) (a1 b : Addr) (H0 : Int32) (ky cn S0 : Int64) (h0 : Heap) (n0 : Nat) (hz0 : Lo n0 h0.size) (O_a1 : Ob Z h0 a1 "com/example/ugello/ugello/service/KeyCounts$Node" NS_N [(.int H0), (.long ky), (.long cn), (.long S0), (.ref b), .null]) (ws : List Jvm.Cond) :
    Ctr l (⟨"com/example/ugello/ugello/service/KeyCounts", "withoutRoot", "(Lcom/example/ugello/ugello/service/KeyCounts$Node;)Lcom/example/ugello/ugello/service/KeyCounts$Node;"⟩ : MethodName) prog_23_method_7_code 3 (some (.object "com/example/ugello/ugello/service/KeyCounts$Node")) ({ frames := 0, cells := 0, slots := 0, locals := 0 } : Room) Z n0 #[(.ref a1)] h0 (fun v h => v = some (.ref b) ∧ h = h0) ws := by
  refine ctr_of (plainFor_of_name pn_0) ?_
  intro p e s m below meth c T0 X0 C
  refine go_cast (ef_rmWRr m a1) ?_
  obtain ⟨RS, hRS⟩ : ∃ RS, RS = Rs s below n0 (fun v h => v = some (.ref b) ∧ h = h0) ({ frames := 0, cells := 0, slots := 0, locals := 0 } : Room).cells ({ frames := 0, cells := 0, slots := 0, locals := 0 } : Room).slots := ⟨_, rfl⟩
  suffices HG : Go p e below RS T0 (mkF m 0 #[.val (.ref a1), .unset, .unset] []) by rw [hRS] at HG; exact HG
  show Go p e below RS T0 (mkF m 0 #[.val (.ref a1), .unset, .unset] [])
  refine g_aloadN X0 C d15_0 rfl rfl rfl ?_
  refine g_getRef (i := 4) X0 C O_a1 rfl rfl (hw _ (List.mem_of_getElem? (i := 35) rfl)) d15_1 rfl ?_
  refine g_nonnullY X0 C d15_4 (by decide) (pT := 15) (by decide) ?_
  refine g_aloadN X0 C d15_15 rfl rfl rfl ?_
  refine g_getRef (i := 5) X0 C O_a1 rfl rfl (hw _ (List.mem_of_getElem? (i := 47) rfl)) d15_16 rfl ?_
  refine g_nonnullN (pF := 22) X0 C d15_19 rfl ?_
  refine g_aloadN X0 C d15_22 rfl rfl rfl ?_
  refine g_getRef (i := 4) X0 C O_a1 rfl rfl (hw _ (List.mem_of_getElem? (i := 35) rfl)) d15_23 rfl ?_
  refine g_astoreN (L' := #[.val (.ref a1), .val (.ref b), .unset]) X0 C d15_26 rfl rfl rfl ?_
  refine g_goto (pc' := 74) X0 C d15_27 (by decide) (by decide) ?_
  refine g_aloadN X0 C d15_74 rfl rfl rfl ?_
  rw [hRS]
  refine g_retA X0 C d15_75 rfl rfl ?_ (by decide) (by decide)
  exact ⟨rfl, rfl⟩
theorem ef_rmWR2 (m : MethodId) (a1 : Addr) : entryFrame m #[(.ref a1)] 3 = mkF m 0 #[.val (.ref a1), .unset, .unset] [] := by first | (simp [entryFrame, mkF, argsToLocals, Value.category]; done) | rfl
set_option maxRecDepth 65536 in
set_option maxHeartbeats 40000000 in
theorem rmWR2 (l : Launch) (Z : State) (a0 : Array Value) (hw : ∀ d ∈ tables_1, d.before a0 Z = true) (a1 b sx : Addr) (H0 H1 : Int32) (ky cn S0 ks cx S1 : Int64) (vx : Value) (tl tx : Tre) (h0 : Heap) (n0 : Nat) (hz0 : Lo n0 h0.size) (hht : kht tl ≤ 800 ∧ kht tx ≤ 800) (ga_sx : Lo n0 sx) (gaA : ∀ x ∈ kad tl ++ kad tx, Lo n0 x) (NDp : (sx :: (kad tl ++ kad tx)).Nodup) (ne_a1_sx : NE a1 sx) (nsx_tl : sx ∉ kad tl) (nsx_tx : sx ∉ kad tx) (O_a1 : Ob Z h0 a1 "com/example/ugello/ugello/service/KeyCounts$Node" NS_N [(.int H0), (.long ky), (.long cn), (.long S0), (.ref b), (.ref sx)]) (O_sx : Ob Z h0 sx "com/example/ugello/ugello/service/KeyCounts$Node" NS_N [(.int H1), (.long ks), (.long cx), (.long S1), .null, vx]) (Rl : Rep Z h0 tl (.ref b)) (Rx : Rep Z h0 tx vx) (ws : List Jvm.Cond) :
    Ctr l (⟨"com/example/ugello/ugello/service/KeyCounts", "withoutRoot", "(Lcom/example/ugello/ugello/service/KeyCounts$Node;)Lcom/example/ugello/ugello/service/KeyCounts$Node;"⟩ : MethodName) prog_23_method_7_code 3 (some (.object "com/example/ugello/ugello/service/KeyCounts$Node")) ({ frames := 4, cells := 0, slots := 0, locals := 55 } : Room) Z n0 #[(.ref a1)] h0 (fun v h => ∃ (t' : Tre) (v' : Value), v = some v' ∧ Rep Z h t' v' ∧ kin t' = kin tl ++ (ks, cx) :: kin tx ∧ (kad t').Perm (sx :: (kad tl ++ kad tx)) ∧ Keep h0 h (sx :: (kad tl ++ kad tx))) ws := by
  refine ctr_of (plainFor_of_name pn_0) ?_
  intro p e s m below meth c T0 X0 C
  refine go_cast (ef_rmWR2 m a1) ?_
  obtain ⟨RS, hRS⟩ : ∃ RS, RS = Rs s below n0 (fun v h => ∃ (t' : Tre) (v' : Value), v = some v' ∧ Rep Z h t' v' ∧ kin t' = kin tl ++ (ks, cx) :: kin tx ∧ (kad t').Perm (sx :: (kad tl ++ kad tx)) ∧ Keep h0 h (sx :: (kad tl ++ kad tx))) ({ frames := 4, cells := 0, slots := 0, locals := 55 } : Room).cells ({ frames := 4, cells := 0, slots := 0, locals := 55 } : Room).slots := ⟨_, rfl⟩
  suffices HG : Go p e below RS T0 (mkF m 0 #[.val (.ref a1), .unset, .unset] []) by rw [hRS] at HG; exact HG
  show Go p e below RS T0 (mkF m 0 #[.val (.ref a1), .unset, .unset] [])
  refine g_aloadN X0 C d15_0 rfl rfl rfl ?_
  refine g_getRef (i := 4) X0 C O_a1 rfl rfl (hw _ (List.mem_of_getElem? (i := 35) rfl)) d15_1 rfl ?_
  refine g_nonnullY X0 C d15_4 (by decide) (pT := 15) (by decide) ?_
  refine g_aloadN X0 C d15_15 rfl rfl rfl ?_
  refine g_getRef (i := 5) X0 C O_a1 rfl rfl (hw _ (List.mem_of_getElem? (i := 47) rfl)) d15_16 rfl ?_
  refine g_nonnullY X0 C d15_19 (by decide) (pT := 30) (by decide) ?_
  refine g_aloadN X0 C d15_30 rfl rfl rfl ?_
  refine g_getRef (i := 5) X0 C O_a1 rfl rfl (hw _ (List.mem_of_getElem? (i := 47) rfl)) d15_31 rfl ?_
  refine g_astoreN (L' := #[.val (.ref a1), .unset, .val (.ref sx)]) X0 C d15_34 rfl rfl rfl ?_
  refine g_aloadN X0 C d15_35 rfl rfl rfl ?_
  refine g_getRef (i := 4) X0 C O_sx rfl rfl (hw _ (List.mem_of_getElem? (i := 35) rfl)) d15_36 rfl ?_
  refine g_nullY X0 C d15_39 (by decide) (pT := 50) (by decide) ?_
  refine g_aloadN X0 C d15_50 rfl rfl rfl ?_
  refine g_aloadN X0 C d15_51 rfl rfl rfl ?_
  refine g_getRef (i := 5) X0 C O_a1 rfl rfl (hw _ (List.mem_of_getElem? (i := 47) rfl)) d15_52 rfl ?_
  refine g_static (argsL := [(.ref sx)]) (rest := [(.ref sx)]) (W := 1) X0 C (rmWL l Z a0 hw sx H1 ks cx S1 vx h0 n0 hz0 Rx.isRef O_sx []) (hw _ (List.mem_of_getElem? (i := 76) rfl)) (hw _ (List.mem_of_getElem? (i := 77) rfl)) (hw _ (List.mem_of_getElem? (i := 2) rfl)) (hw _ (List.mem_of_getElem? (i := 78) rfl)) (by decide) pd_4 rfl rfl rfl rfl rfl (by decide) (by decide) (by decide) (by decide) d15_55 rfl (fun r268 T265 h267 hQ269 X266 => ?_)
  obtain ⟨rfl, hh⟩ := hQ269; rw [hh] at X266
  show Go p e below RS T265 (mkF m 58 #[.val (.ref a1), .unset, .val (.ref sx)] [vx, (.ref sx)])
  refine g_putRef (i := 5) (vs' := [(.int H1), (.long ks), (.long cx), (.long S1), .null, vx]) X266 C O_sx (CF_N hw) rfl rfl rfl ga_sx (hw _ (List.mem_of_getElem? (i := 47) rfl)) (hw _ (List.mem_of_getElem? (i := 48) rfl)) (ty := (.object "com/example/ugello/ugello/service/KeyCounts$Node")) (by decide) (narrowO Rx.isRef) (fitsO Rx.isRef) d15_58 rfl (fun T270 h272 X271 O_sx K273 => ?_)
  have O_a1 := O_a1.keep K273 (ninN ne_a1_sx nin0)
  have Rl := Rl.keep K273 (ninL nsx_tl)
  have Rx := Rx.keep K273 (ninL nsx_tx)
  have hz274 : Lo n0 h272.size := Lo.keep hz0 K273
  have KK275 := (Keep.refl h0 (sx :: (kad tl ++ kad tx))).trans K273 (allS (Or.inl (List.mem_of_getElem? (i := 0) rfl)) all0)
  refine g_aloadN X271 C d15_61 rfl rfl rfl ?_
  refine g_aloadN X271 C d15_62 rfl rfl rfl ?_
  refine g_getRef (i := 4) X271 C O_a1 rfl rfl (hw _ (List.mem_of_getElem? (i := 35) rfl)) d15_63 rfl ?_
  refine g_putRef (i := 4) (vs' := [(.int H1), (.long ks), (.long cx), (.long S1), (.ref b), vx]) X271 C O_sx (CF_N hw) rfl rfl rfl ga_sx (hw _ (List.mem_of_getElem? (i := 35) rfl)) (hw _ (List.mem_of_getElem? (i := 36) rfl)) (ty := (.object "com/example/ugello/ugello/service/KeyCounts$Node")) (by decide) rfl rfl d15_66 rfl (fun T276 h278 X277 O_sx K279 => ?_)
  have O_a1 := O_a1.keep K279 (ninN ne_a1_sx nin0)
  have Rl := Rl.keep K279 (ninL nsx_tl)
  have Rx := Rx.keep K279 (ninL nsx_tx)
  have hz280 : Lo n0 h278.size := Lo.keep hz274 K279
  have KK281 := KK275.trans K279 (allS (Or.inl (List.mem_of_getElem? (i := 0) rfl)) all0)
  refine g_aloadN X277 C d15_69 rfl rfl rfl ?_
  refine g_static (argsL := [(.ref sx)]) (rest := []) (W := 0) X277 C (rmBal l Z a0 hw sx H1 ks cx S1 (.ref b) vx tl tx h278 n0 hz280 hht ga_sx gaA NDp O_sx Rl Rx []) (hw _ (List.mem_of_getElem? (i := 37) rfl)) (hw _ (List.mem_of_getElem? (i := 38) rfl)) (hw _ (List.mem_of_getElem? (i := 2) rfl)) (hw _ (List.mem_of_getElem? (i := 39) rfl)) (by decide) pd_4 rfl rfl rfl rfl rfl (by decide) (by decide) (by decide) (by decide) d15_70 rfl (fun r285 T282 h284 hQ286 X283 => ?_)
  obtain ⟨tb, vb, rfl, Rb, kinb, permb, Kb⟩ := hQ286
  have KK2 := KK281.trans Kb (fun x hx => Or.inl hx)
  show Go p e below RS T282 (mkF m 73 #[.val (.ref a1), .unset, .val (.ref sx)] [vb])
  refine g_astoreN (L' := #[.val (.ref a1), .val vb, .val (.ref sx)]) X283 C d15_73 Rb.isRef (by rcases ref_cases Rb.isRef with q | ⟨_, q⟩ <;> rw [q] <;> rfl) rfl ?_
  refine g_aloadN X283 C d15_74 rfl Rb.isRef rfl ?_
  rw [hRS]
  refine g_retA X283 C d15_75 rfl Rb.isRef ?_ (by decide) (by decide)
  exact ⟨tb, _, rfl, Rb, kinb, permb, KK2⟩
def SpecS (d : Nat) : Prop := ∀ (l : Launch) (Z : State) (a0 : Array Value) (hw : ∀ d ∈ tables_1, d.before a0 Z = true) (t : Tre) (v1 : Value) (q2 q3 : Int64) (h0 : Heap) (n0 : Nat) (hz0 : Lo n0 h0.size) (hht : kht t ≤ d) (hR : Rep Z h0 t v1) (hND : (kad t).Nodup) (hga : ∀ x ∈ kad t, Lo n0 x) (hso : ksorted (kin t)) (hd3 : d ≤ 3) (hlen : (kin t).length ≤ d) (ws : List Jvm.Cond),
    Ctr l (⟨"com/example/ugello/ugello/service/KeyCounts", "add", "(Lcom/example/ugello/ugello/service/KeyCounts$Node;JJ)Lcom/example/ugello/ugello/service/KeyCounts$Node;"⟩ : MethodName) prog_23_method_6_code 6 (some (.object "com/example/ugello/ugello/service/KeyCounts$Node")) ({ frames := 3 + d, cells := 1, slots := 6, locals := 55 + 18 * d } : Room) Z n0 #[v1, (.long q2), (.long q3)] h0 (fun v h => ∃ (t' : Tre) (v' : Value), v = some v' ∧ Rep Z h t' v' ∧ (kad t').Nodup ∧ (∀ x ∈ kad t', x ∈ kad t ∨ Lo h0.size x) ∧ kin t' = kinz q2 q3 (kin t) ∧ Keep h0 h (kad t)) ws
theorem ef_rmS_n (m : MethodId) (q2 : Int64) (q3 : Int64) : entryFrame m #[.null, (.long q2), (.long q3)] 6 = mkF m 0 #[.val .null, .val (.long q2), .second, .val (.long q3), .second, .unset] [] := by first | (simp [entryFrame, mkF, argsToLocals, Value.category]; done) | rfl
set_option maxRecDepth 65536 in
set_option maxHeartbeats 40000000 in
theorem rmS_n (l : Launch) (Z : State) (a0 : Array Value) (hw : ∀ d ∈ tables_1, d.before a0 Z = true) (d : Nat) (q2 q3 : Int64) (h0 : Heap) (n0 : Nat) (hz0 : Lo n0 h0.size)  (ws : List Jvm.Cond) :
    Ctr l (⟨"com/example/ugello/ugello/service/KeyCounts", "add", "(Lcom/example/ugello/ugello/service/KeyCounts$Node;JJ)Lcom/example/ugello/ugello/service/KeyCounts$Node;"⟩ : MethodName) prog_23_method_6_code 6 (some (.object "com/example/ugello/ugello/service/KeyCounts$Node")) ({ frames := 3 + d, cells := 1, slots := 6, locals := 55 + 18 * d } : Room) Z n0 #[.null, (.long q2), (.long q3)] h0 (fun v h => ∃ (t' : Tre) (v' : Value), v = some v' ∧ Rep Z h t' v' ∧ (kad t').Nodup ∧ (∀ x ∈ kad t', x ∈ kad (.leaf : Tre) ∨ Lo h0.size x) ∧ kin t' = kinz q2 q3 (kin (.leaf : Tre)) ∧ Keep h0 h (kad (.leaf : Tre))) ws := by
  refine ctr_of (plainFor_of_name pn_0) ?_
  intro p e s m below meth c T0 X0 C
  refine go_cast (ef_rmS_n m q2 q3) ?_
  obtain ⟨RS, hRS⟩ : ∃ RS, RS = Rs s below n0 (fun v h => ∃ (t' : Tre) (v' : Value), v = some v' ∧ Rep Z h t' v' ∧ (kad t').Nodup ∧ (∀ x ∈ kad t', x ∈ kad (.leaf : Tre) ∨ Lo h0.size x) ∧ kin t' = kinz q2 q3 (kin (.leaf : Tre)) ∧ Keep h0 h (kad (.leaf : Tre))) ({ frames := 3 + d, cells := 1, slots := 6, locals := 55 + 18 * d } : Room).cells ({ frames := 3 + d, cells := 1, slots := 6, locals := 55 + 18 * d } : Room).slots := ⟨_, rfl⟩
  suffices HG : Go p e below RS T0 (mkF m 0 #[.val .null, .val (.long q2), .second, .val (.long q3), .second, .unset] []) by rw [hRS] at HG; exact HG
  show Go p e below RS T0 (mkF m 0 #[.val .null, .val (.long q2), .second, .val (.long q3), .second, .unset] [])
  refine g_aloadN X0 C d4_0 rfl rfl rfl ?_
  refine g_nonnullN (pF := 4) X0 C d4_1 rfl ?_
  refine g_newO (vs := [(.int (0 : Int32)), (.long (0 : Int64)), (.long (0 : Int64)), (.long (0 : Int64)), .null, .null]) X0 C (hw _ (List.mem_of_getElem? (i := 19) rfl)) (CF_N hw) (hw _ (List.mem_of_getElem? (i := 21) rfl)) (by decide) (by dsimp only; omega) (by dsimp only; omega) d4_4 rfl (fun T287 h289 b291 hb292 X288 O_b291 K290 => ?_)
  have ga_b291 : Lo n0 b291 := Sz.lo hb292 hz0
  have sz_b291 : Lo h0.size b291 := Sz.lo hb292 ((Keep.refl h0 []).1)
  have hz293 : Lo n0 h289.size := Lo.keep hz0 K290
  have KK294 := (Keep.refl h0 []).trans K290 (fun x hx => nomatch hx)
  refine g_dup X288 C d4_7 rfl rfl ?_
  refine g_lloadN X288 C d4_8 rfl rfl ?_
  refine g_lloadN X288 C d4_9 rfl rfl ?_
  refine g_specialRef (argsL := [(.long q2), (.long q3)]) (rest := [(.ref b291)]) (W := 1) (a := b291) X288 C (rmNi l Z a0 hw b291 q2 q3 h289 n0 hz293 ga_b291 O_b291 []) rfl rfl (hw _ (List.mem_of_getElem? (i := 22) rfl)) (hw _ (List.mem_of_getElem? (i := 23) rfl)) (hw _ (List.mem_of_getElem? (i := 21) rfl)) (hw _ (List.mem_of_getElem? (i := 24) rfl)) (by decide) pd_5 rfl rfl rfl rfl rfl (by dsimp only; omega) (by dsimp only; omega) (by dsimp only; omega) (by dsimp only; omega) d4_10 rfl (fun r298 T295 h297 hQ299 X296 => ?_)
  obtain ⟨rfl, O_b291, KN300⟩ := hQ299
  have hz301 : Lo n0 h297.size := Lo.keep hz293 KN300
  have KK302 := KK294.trans KN300 (allS (Or.inr sz_b291) all0)
  show Go p e below RS T295 (mkF m 13 #[.val .null, .val (.long q2), .second, .val (.long q3), .second, .unset] [(.ref b291)])
  refine g_astore (L' := #[.val .null, .val (.long q2), .second, .val (.long q3), .second, .val (.ref b291)]) X296 C d4_13 rfl rfl rfl ?_
  refine g_goto (pc' := 112) X296 C d4_15 (by decide) (by decide) ?_
  refine g_aload X296 C d4_112 rfl rfl rfl ?_
  rw [hRS]
  refine g_retA X296 C d4_114 rfl rfl ?_ (by dsimp only; omega) (by dsimp only; omega)
  refine ⟨.inner 0 b291 (q2, q3) .leaf .leaf, _, rfl, ⟨rfl, 1, .null, .null, ?_, by decide, rfl, rfl⟩, by simp [kad], fun x hx => Or.inr ?_, rfl, KK302⟩
  · have q := O_b291; rw [show (q3 : Int64) = ksm .leaf + q3 + ksm .leaf by simp [ksm]] at q; simpa [ksm] using O_b291
  · simp [kad] at hx; subst hx; exact sz_b291
theorem ef_rmS_r (m : MethodId) (a1 : Addr) (q2 : Int64) (q3 : Int64) : entryFrame m #[(.ref a1), (.long q2), (.long q3)] 6 = mkF m 0 #[.val (.ref a1), .val (.long q2), .second, .val (.long q3), .second, .unset] [] := by first | (simp [entryFrame, mkF, argsToLocals, Value.category]; done) | rfl
set_option maxRecDepth 65536 in
set_option maxHeartbeats 40000000 in
theorem rmS_r (l : Launch) (Z : State) (a0 : Array Value) (hw : ∀ d ∈ tables_1, d.before a0 Z = true) (d : Nat) (ih : SpecS d) (a1 : Addr) (q2 q3 : Int64) (sz : Nat) (ky cn : Int64) (tl tr : Tre) (H0 : Int32) (vl vr : Value) (h0 : Heap) (n0 : Nat) (hz0 : Lo n0 h0.size) (O_a1 : Ob Z h0 a1 "com/example/ugello/ugello/service/KeyCounts$Node" NS_N [(.int H0), (.long ky), (.long cn), (.long (ksm tl + cn + ksm tr)), vl, vr]) (Rl : Rep Z h0 tl vl) (Rr : Rep Z h0 tr vr) (hht : kht (.inner sz a1 (ky, cn) tl tr) ≤ d + 1) (hND : (kad ((.inner sz a1 (ky, cn) tl tr) : Tre)).Nodup) (hga : ∀ x ∈ kad ((.inner sz a1 (ky, cn) tl tr) : Tre), Lo n0 x) (hso : ksorted (kin (.inner sz a1 (ky, cn) tl tr))) (hd3 : d + 1 ≤ 3) (hlen : (kin (.inner sz a1 (ky, cn) tl tr)).length ≤ d + 1) (ws : List Jvm.Cond) :
    Ctr l (⟨"com/example/ugello/ugello/service/KeyCounts", "add", "(Lcom/example/ugello/ugello/service/KeyCounts$Node;JJ)Lcom/example/ugello/ugello/service/KeyCounts$Node;"⟩ : MethodName) prog_23_method_6_code 6 (some (.object "com/example/ugello/ugello/service/KeyCounts$Node")) ({ frames := 3 + (d + 1), cells := 1, slots := 6, locals := 55 + 18 * (d + 1) } : Room) Z n0 #[(.ref a1), (.long q2), (.long q3)] h0 (fun v h => ∃ (t' : Tre) (v' : Value), v = some v' ∧ Rep Z h t' v' ∧ (kad t').Nodup ∧ (∀ x ∈ kad t', x ∈ kad ((.inner sz a1 (ky, cn) tl tr) : Tre) ∨ Lo h0.size x) ∧ kin t' = kinz q2 q3 (kin (.inner sz a1 (ky, cn) tl tr)) ∧ Keep h0 h (kad ((.inner sz a1 (ky, cn) tl tr) : Tre))) ws := by
  refine ctr_of (plainFor_of_name pn_0) ?_
  intro p e s m below meth c T0 X0 C
  refine go_cast (ef_rmS_r m a1 q2 q3) ?_
  obtain ⟨RS, hRS⟩ : ∃ RS, RS = Rs s below n0 (fun v h => ∃ (t' : Tre) (v' : Value), v = some v' ∧ Rep Z h t' v' ∧ (kad t').Nodup ∧ (∀ x ∈ kad t', x ∈ kad ((.inner sz a1 (ky, cn) tl tr) : Tre) ∨ Lo h0.size x) ∧ kin t' = kinz q2 q3 (kin (.inner sz a1 (ky, cn) tl tr)) ∧ Keep h0 h (kad ((.inner sz a1 (ky, cn) tl tr) : Tre))) ({ frames := 3 + (d + 1), cells := 1, slots := 6, locals := 55 + 18 * (d + 1) } : Room).cells ({ frames := 3 + (d + 1), cells := 1, slots := 6, locals := 55 + 18 * (d + 1) } : Room).slots := ⟨_, rfl⟩
  suffices HG : Go p e below RS T0 (mkF m 0 #[.val (.ref a1), .val (.long q2), .second, .val (.long q3), .second, .unset] []) by rw [hRS] at HG; exact HG
  show Go p e below RS T0 (mkF m 0 #[.val (.ref a1), .val (.long q2), .second, .val (.long q3), .second, .unset] [])
  have NDc := List.nodup_cons.mp hND
  have na1_tl : a1 ∉ kad tl := fun q => NDc.1 (List.mem_append_left _ q)
  have na1_tr : a1 ∉ kad tr := fun q => NDc.1 (List.mem_append_right _ q)
  have NDlr := List.nodup_append.mp NDc.2
  have disj : ∀ x ∈ kad tl, x ∉ kad tr := fun x hx hy => NDlr.2.2 x hx x hy rfl
  obtain ⟨so1, so2, so3, so4⟩ := ksplit (show ksorted (kin tl ++ (ky, cn) :: kin tr) from hso)
  have hln : (kin tl).length + (kin tr).length + 1 ≤ d + 1 := by have q := hlen; simp only [kin, List.length_append, List.length_cons] at q; omega
  have hhx : kht tl ≤ d ∧ kht tr ≤ d := by have q := hht; simp only [kht] at q; omega
  have ga_a1 : Lo n0 a1 := hga a1 (by simp [kad])
  have lt_a1 := O_a1.lt
  have ltl := Rl.lt
  have ltr := Rr.lt
  refine g_aloadN X0 C d4_0 rfl rfl rfl ?_
  refine g_nonnullY X0 C d4_1 (by decide) (pT := 18) (by decide) ?_
  refine g_lloadN X0 C d4_18 rfl rfl ?_
  refine g_aloadN X0 C d4_19 rfl rfl rfl ?_
  refine g_getRef (i := 1) X0 C O_a1 rfl rfl (hw _ (List.mem_of_getElem? (i := 34) rfl)) d4_20 rfl ?_
  refine g_lcmp X0 C d4_23 rfl ?_
  refine g_lif_ge (a := q2.toInt) (b := ky.toInt) X0 C d4_24 rfl rfl (by decide) (pT := 49) (by decide) (pF := 27) rfl (fun hc24 => ?_) (fun hc24 => ?_)
  ·
    refine g_lloadN X0 C d4_49 rfl rfl ?_
    refine g_aloadN X0 C d4_50 rfl rfl rfl ?_
    refine g_getRef (i := 1) X0 C O_a1 rfl rfl (hw _ (List.mem_of_getElem? (i := 34) rfl)) d4_51 rfl ?_
    refine g_lcmp X0 C d4_54 rfl ?_
    refine g_lif_le (a := q2.toInt) (b := ky.toInt) X0 C d4_55 rfl rfl (by decide) (pT := 80) (by decide) (pF := 58) rfl (fun hc55 => ?_) (fun hc55 => ?_)
    ·
      refine g_aloadN X0 C d4_80 rfl rfl rfl ?_
      refine g_dup X0 C d4_81 rfl rfl ?_
      refine g_getRef (i := 2) X0 C O_a1 rfl rfl (hw _ (List.mem_of_getElem? (i := 57) rfl)) d4_82 rfl ?_
      refine g_lloadN X0 C d4_85 rfl rfl ?_
      refine g_ladd X0 C d4_86 rfl ?_
      refine g_putRef (i := 2) (vs' := [(.int H0), (.long ky), (.long (cn + q3)), (.long (ksm tl + cn + ksm tr)), vl, vr]) X0 C O_a1 (CF_N hw) rfl rfl rfl ga_a1 (hw _ (List.mem_of_getElem? (i := 57) rfl)) (hw _ (List.mem_of_getElem? (i := 31) rfl)) (ty := .long) (by decide) rfl rfl d4_87 rfl (fun T303 h305 X304 O_a1 K306 => ?_)
      have Rl := Rl.keep K306 (ninL na1_tl)
      have Rr := Rr.keep K306 (ninL na1_tr)
      have hz307 : Lo n0 h305.size := Lo.keep hz0 K306
      have KK308 := (Keep.refl h0 (kad ((.inner sz a1 (ky, cn) tl tr) : Tre))).trans K306 (allS (Or.inl (List.mem_of_getElem? (i := 0) rfl)) all0)
      refine g_aloadN X304 C d4_90 rfl rfl rfl ?_
      refine g_getRef (i := 2) X304 C O_a1 rfl rfl (hw _ (List.mem_of_getElem? (i := 57) rfl)) d4_91 rfl ?_
      refine g_lconst (v := 0) X304 C d4_94 (by decide) rfl ?_
      refine g_lcmp X304 C d4_95 rfl ?_
      refine g_lif_ne (a := (cn + q3).toInt) (b := 0) X304 C d4_96 rfl (by decide) (by decide) (pT := 106) (by decide) (pF := 99) rfl (fun hc96 => ?_) (fun hc96 => ?_)
      ·
        refine g_aloadN X304 C d4_106 rfl rfl rfl ?_
        have NDb : (a1 :: (kad tl ++ kad tr)).Nodup := hND
        have mm : ∀ x ∈ kad tl ++ kad tr, x ∈ kad ((.inner sz a1 (ky, cn) tl tr) : Tre) ∨ Lo h0.size x := by
          intro x hx; rcases List.mem_append.mp hx with hx | hx
          · exact Or.inl (List.mem_cons_of_mem _ (List.mem_append_left _ hx))
          · exact Or.inl (List.mem_cons_of_mem _ (List.mem_append_right _ hx))
        have gaB : ∀ x ∈ kad tl ++ kad tr, Lo n0 x := fun x hx => by rcases mm x hx with q | q <;> first | exact hga x q | exact Lo.tr hz0 q
        refine g_static (argsL := [(.ref a1)]) (rest := []) (W := 0) X304 C (rmBal l Z a0 hw a1 H0 ky (cn + q3) (ksm tl + cn + ksm tr) vl vr tl tr h305 n0 hz307 (by have g1 := kht_le tl; have g2 := kht_le tr; omega) ga_a1 gaB NDb O_a1 Rl Rr []) (hw _ (List.mem_of_getElem? (i := 37) rfl)) (hw _ (List.mem_of_getElem? (i := 38) rfl)) (hw _ (List.mem_of_getElem? (i := 2) rfl)) (hw _ (List.mem_of_getElem? (i := 39) rfl)) (by decide) pd_4 rfl rfl rfl rfl rfl (by dsimp only; omega) (by dsimp only; omega) (by dsimp only; omega) (by dsimp only; omega) d4_107 rfl (fun r312 T309 h311 hQ313 X310 => ?_)
        obtain ⟨tb, vb, rfl, Rb, kinb, permb, Kb⟩ := hQ313
        have KK2 := KK308.trans Kb (fun x hx => (List.mem_cons.mp hx).elim (fun q => Or.inl (q ▸ List.mem_cons_self)) (fun q => mm x q))
        show Go p e below RS T309 (mkF m 110 #[.val (.ref a1), .val (.long q2), .second, .val (.long q3), .second, .unset] [vb])
        refine g_astore (L' := #[.val (.ref a1), .val (.long q2), .second, .val (.long q3), .second, .val vb]) X310 C d4_110 Rb.isRef (by rcases ref_cases Rb.isRef with q | ⟨_, q⟩ <;> rw [q] <;> rfl) rfl ?_
        refine g_aload X310 C d4_112 rfl Rb.isRef rfl ?_
        rw [hRS]
        refine g_retA X310 C d4_114 rfl Rb.isRef ?_ (by dsimp only; omega) (by dsimp only; omega)
        refine ⟨tb, _, rfl, Rb, permb.nodup_iff.mpr NDb, fun x hx => ?_, ?_, KK2⟩
        · exact (List.mem_cons.mp (permb.mem_iff.mp hx)).elim (fun q => Or.inl (q ▸ List.mem_cons_self)) (fun q => mm x q)
        · rw [kinb]; exact (kinz_e (x := (ky, cn)) (by show ky.toInt = q2.toInt; omega) (by show (cn + q3).toInt ≠ 0; omega) _ so3).symm
      ·
        rcases Tcases tl with rfl | ⟨s2, b, k2, c2, l2, r2, rfl⟩
        ·
          obtain rfl : vl = .null := Rl
          refine g_aloadN X304 C d4_99 rfl rfl rfl ?_
          refine g_static (argsL := [(.ref a1)]) (rest := []) (W := 0) X304 C (rmWRl l Z a0 hw a1 H0 ky (cn + q3) (ksm .leaf + cn + ksm tr) vr h305 n0 hz307 Rr.isRef O_a1 []) (hw _ (List.mem_of_getElem? (i := 73) rfl)) (hw _ (List.mem_of_getElem? (i := 74) rfl)) (hw _ (List.mem_of_getElem? (i := 2) rfl)) (hw _ (List.mem_of_getElem? (i := 75) rfl)) (by decide) pd_4 rfl rfl rfl rfl rfl (by dsimp only; omega) (by dsimp only; omega) (by dsimp only; omega) (by dsimp only; omega) d4_100 rfl (fun r317 T314 h316 hQ318 X315 => ?_)
          obtain ⟨rfl, hh⟩ := hQ318; rw [hh] at X315
          show Go p e below RS T314 (mkF m 103 #[.val (.ref a1), .val (.long q2), .second, .val (.long q3), .second, .unset] [vr])
          refine g_goto (pc' := 110) X315 C d4_103 (by decide) (by decide) ?_
          refine g_astore (L' := #[.val (.ref a1), .val (.long q2), .second, .val (.long q3), .second, .val vr]) X315 C d4_110 Rr.isRef (by rcases ref_cases Rr.isRef with q | ⟨_, q⟩ <;> rw [q] <;> rfl) rfl ?_
          refine g_aload X315 C d4_112 rfl Rr.isRef rfl ?_
          rw [hRS]
          refine g_retA X315 C d4_114 rfl Rr.isRef ?_ (by dsimp only; omega) (by dsimp only; omega)
          refine ⟨tr, _, rfl, Rr, NDlr.2.1, fun x hx => Or.inl (List.mem_cons_of_mem _ (List.mem_append_right _ hx)), ?_, KK308⟩
          exact (kinz_0 (x := (ky, cn)) (R := kin tr) (by show ky.toInt = q2.toInt; omega) (by show (cn + q3).toInt = 0; omega) (kin .leaf) so3).symm
        ·
          obtain ⟨rfl, Hb, vl2, vr2, O_b, hHb, Rl2, Rr2⟩ := Rl
          have Rl : Rep Z h305 (.inner s2 b (k2, c2) l2 r2) (.ref b) := ⟨rfl, Hb, vl2, vr2, O_b, hHb, Rl2, Rr2⟩
          rcases Tcases tr with rfl | ⟨s3, sx, k3, c3, l3, r3, rfl⟩
          ·
            obtain rfl : vr = .null := Rr
            refine g_aloadN X304 C d4_99 rfl rfl rfl ?_
            refine g_static (argsL := [(.ref a1)]) (rest := []) (W := 0) X304 C (rmWRr l Z a0 hw a1 b H0 ky (cn + q3) (ksm (.inner s2 b (k2, c2) l2 r2) + cn + ksm .leaf) h305 n0 hz307 O_a1 []) (hw _ (List.mem_of_getElem? (i := 73) rfl)) (hw _ (List.mem_of_getElem? (i := 74) rfl)) (hw _ (List.mem_of_getElem? (i := 2) rfl)) (hw _ (List.mem_of_getElem? (i := 75) rfl)) (by decide) pd_4 rfl rfl rfl rfl rfl (by dsimp only; omega) (by dsimp only; omega) (by dsimp only; omega) (by dsimp only; omega) d4_100 rfl (fun r322 T319 h321 hQ323 X320 => ?_)
            obtain ⟨rfl, hh⟩ := hQ323; rw [hh] at X320
            show Go p e below RS T319 (mkF m 103 #[.val (.ref a1), .val (.long q2), .second, .val (.long q3), .second, .unset] [(.ref b)])
            refine g_goto (pc' := 110) X320 C d4_103 (by decide) (by decide) ?_
            refine g_astore (L' := #[.val (.ref a1), .val (.long q2), .second, .val (.long q3), .second, .val (.ref b)]) X320 C d4_110 rfl rfl rfl ?_
            refine g_aload X320 C d4_112 rfl rfl rfl ?_
            rw [hRS]
            refine g_retA X320 C d4_114 rfl rfl ?_ (by dsimp only; omega) (by dsimp only; omega)
            refine ⟨(.inner s2 b (k2, c2) l2 r2), _, rfl, Rl, NDlr.1, fun x hx => Or.inl (List.mem_cons_of_mem _ (List.mem_append_left _ hx)), ?_, KK308⟩
            exact ((kinz_0 (x := (ky, cn)) (R := kin .leaf) (by show ky.toInt = q2.toInt; omega) (by show (cn + q3).toInt = 0; omega) (kin (.inner s2 b (k2, c2) l2 r2)) so3).trans (List.append_nil _)).symm
          ·
            obtain ⟨hd2, hl1⟩ : 2 ≤ d ∧ (kin (.inner s3 sx (k3, c3) l3 r3 : Tre)).length ≤ 1 := by
              have q := hln; have q' := hd3; simp only [kin, List.length_append, List.length_cons] at q ⊢; omega
            obtain ⟨rfl, rfl⟩ := kin1 hl1 rfl
            obtain ⟨rfl, Hs, vls, vrs, O_sx, hHs, Rls, Rx⟩ := Rr
            obtain rfl : vls = .null := Rls
            have O_sx : Ob Z h305 sx "com/example/ugello/ugello/service/KeyCounts$Node" NS_N [(.int Hs), (.long k3), (.long c3), (.long (ksm .leaf + c3 + ksm .leaf)), .null, vrs] := O_sx
            obtain ⟨qw1, ⟨qw2, qw3⟩, ⟨qw4, qw5⟩, qw6⟩ := nd_wr (l := kad (.inner s2 b (k2, c2) l2 r2)) (r := kad .leaf) (by simpa [kad] using hND)
            refine g_aloadN X304 C d4_99 rfl rfl rfl ?_
            refine g_static (argsL := [(.ref a1)]) (rest := []) (W := 0) X304 C (rmWR2 l Z a0 hw a1 b sx H0 Hs ky (cn + q3) (ksm (.inner s2 b (k2, c2) l2 r2) + cn + ksm (.inner s3 sx (k3, c3) .leaf .leaf)) k3 c3 (ksm .leaf + c3 + ksm .leaf) vrs (.inner s2 b (k2, c2) l2 r2) .leaf h305 n0 hz307 (by have g := kht_le ((.inner s2 b (k2, c2) l2 r2) : Tre); simp only [kht] at g ⊢; omega) (hga sx (by simp [kad])) (fun x hx => hga x (by simp only [kad, List.append_nil] at hx ⊢; exact List.mem_cons_of_mem _ (List.mem_append_left _ hx))) qw6 qw1 qw4 qw5 O_a1 O_sx Rl Rx []) (hw _ (List.mem_of_getElem? (i := 73) rfl)) (hw _ (List.mem_of_getElem? (i := 74) rfl)) (hw _ (List.mem_of_getElem? (i := 2) rfl)) (hw _ (List.mem_of_getElem? (i := 75) rfl)) (by decide) pd_4 rfl rfl rfl rfl rfl (by dsimp only; omega) (by dsimp only; omega) (by dsimp only; omega) (by dsimp only; omega) d4_100 rfl (fun r327 T324 h326 hQ328 X325 => ?_)
            obtain ⟨tb, vb, rfl, Rb, kinb, permb, Kb⟩ := hQ328
            have mm : ∀ x ∈ sx :: (kad (.inner s2 b (k2, c2) l2 r2) ++ kad .leaf), x ∈ kad (.inner sz a1 (ky, cn) (.inner s2 b (k2, c2) l2 r2) (.inner s3 sx (k3, c3) .leaf .leaf) : Tre) := by intro x hx; simp only [kad, List.mem_cons, List.mem_append, List.not_mem_nil, or_false] at hx ⊢; grind
            have KK2 := KK308.trans Kb (fun x hx => Or.inl (mm x hx))
            show Go p e below RS T324 (mkF m 103 #[.val (.ref a1), .val (.long q2), .second, .val (.long q3), .second, .unset] [vb])
            refine g_goto (pc' := 110) X325 C d4_103 (by decide) (by decide) ?_
            refine g_astore (L' := #[.val (.ref a1), .val (.long q2), .second, .val (.long q3), .second, .val vb]) X325 C d4_110 Rb.isRef (by rcases ref_cases Rb.isRef with q | ⟨_, q⟩ <;> rw [q] <;> rfl) rfl ?_
            refine g_aload X325 C d4_112 rfl Rb.isRef rfl ?_
            rw [hRS]
            refine g_retA X325 C d4_114 rfl Rb.isRef ?_ (by dsimp only; omega) (by dsimp only; omega)
            refine ⟨tb, _, rfl, Rb, permb.nodup_iff.mpr qw6, fun x hx => Or.inl (mm x (permb.mem_iff.mp hx)), ?_, KK2⟩
            rw [kinb]; exact (kinz_0 (x := (ky, cn)) (R := kin (.inner s3 sx (k3, c3) .leaf .leaf)) (by show ky.toInt = q2.toInt; omega) (by show (cn + q3).toInt = 0; omega) (kin (.inner s2 b (k2, c2) l2 r2)) so3).symm
    ·
      refine g_aloadN X0 C d4_58 rfl rfl rfl ?_
      refine g_aloadN X0 C d4_59 rfl rfl rfl ?_
      refine g_getRef (i := 5) X0 C O_a1 rfl rfl (hw _ (List.mem_of_getElem? (i := 47) rfl)) d4_60 rfl ?_
      refine g_lloadN X0 C d4_63 rfl rfl ?_
      refine g_lloadN X0 C d4_64 rfl rfl ?_
      refine g_static (argsL := [vr, (.long q2), (.long q3)]) (rest := [(.ref a1)]) (W := 1) X0 C (ih l Z a0 hw tr vr q2 q3 h0 n0 hz0 hhx.2 Rr NDlr.2.1 (fun x hx => hga x (List.mem_cons_of_mem _ (List.mem_append_right _ hx))) so2 (by omega) (by omega) []) (hw _ (List.mem_of_getElem? (i := 16) rfl)) (hw _ (List.mem_of_getElem? (i := 17) rfl)) (hw _ (List.mem_of_getElem? (i := 2) rfl)) (hw _ (List.mem_of_getElem? (i := 18) rfl)) (by decide) pd_6 rfl rfl rfl rfl rfl (by dsimp only; omega) (by dsimp only; omega) (by dsimp only; omega) (by dsimp only; omega) d4_65 rfl (fun r332 T329 h331 hQ333 X330 => ?_)
      obtain ⟨tn, vn, rfl, Rn, NDn, adn, kinn, Kn⟩ := hQ333
      have O_a1 := O_a1.keep Kn na1_tr
      have Rl := Rl.keep Kn (fun x hx q => disj x hx q)
      have hz334 : Lo n0 h331.size := Lo.keep hz0 Kn
      have KK1 := (Keep.refl h0 (kad ((.inner sz a1 (ky, cn) tl tr) : Tre))).trans Kn (fun x hx => Or.inl (List.mem_cons_of_mem _ (List.mem_append_right _ hx)))
      have na1_tn : a1 ∉ kad tn := fun q => by rcases adn a1 q with q | q <;> first | exact na1_tr q | exact absurd lt_a1 (Nat.not_lt.mpr q)
      show Go p e below RS T329 (mkF m 68 #[.val (.ref a1), .val (.long q2), .second, .val (.long q3), .second, .unset] [vn, (.ref a1)])
      refine g_putRef (i := 5) (vs' := [(.int H0), (.long ky), (.long cn), (.long (ksm tl + cn + ksm tr)), vl, vn]) X330 C O_a1 (CF_N hw) rfl rfl rfl ga_a1 (hw _ (List.mem_of_getElem? (i := 47) rfl)) (hw _ (List.mem_of_getElem? (i := 48) rfl)) (ty := (.object "com/example/ugello/ugello/service/KeyCounts$Node")) (by decide) (narrowO Rn.isRef) (fitsO Rn.isRef) d4_68 rfl (fun T335 h337 X336 O_a1 K338 => ?_)
      have Rl := Rl.keep K338 (ninL na1_tl)
      have Rn := Rn.keep K338 (ninL na1_tn)
      have hz339 : Lo n0 h337.size := Lo.keep hz334 K338
      have KK340 := KK1.trans K338 (allS (Or.inl (List.mem_of_getElem? (i := 0) rfl)) all0)
      refine g_aloadN X336 C d4_71 rfl rfl rfl ?_
      have NDb : (a1 :: (kad tl ++ kad tn)).Nodup := (nd_newR hND NDn (fun x hx => adn x hx) lt_a1 ltl)
      have mm : ∀ x ∈ kad tl ++ kad tn, x ∈ kad ((.inner sz a1 (ky, cn) tl tr) : Tre) ∨ Lo h0.size x := by
        intro x hx; rcases List.mem_append.mp hx with hx | hx
        · exact Or.inl (List.mem_cons_of_mem _ (List.mem_append_left _ hx))
        · rcases adn x hx with q | q
          · exact Or.inl (List.mem_cons_of_mem _ (List.mem_append_right _ q))
          · exact Or.inr q
      have gaB : ∀ x ∈ kad tl ++ kad tn, Lo n0 x := fun x hx => by rcases mm x hx with q | q <;> first | exact hga x q | exact Lo.tr hz0 q
      refine g_static (argsL := [(.ref a1)]) (rest := []) (W := 0) X336 C (rmBal l Z a0 hw a1 H0 ky cn (ksm tl + cn + ksm tr) vl vn tl tn h337 n0 hz339 (by have g1 := kht_le tl; have g2 := kht_le tn; have g3 := kinz_len q2 q3 (kin tr); rw [← kinn] at g3; omega) ga_a1 gaB NDb O_a1 Rl Rn []) (hw _ (List.mem_of_getElem? (i := 37) rfl)) (hw _ (List.mem_of_getElem? (i := 38) rfl)) (hw _ (List.mem_of_getElem? (i := 2) rfl)) (hw _ (List.mem_of_getElem? (i := 39) rfl)) (by decide) pd_4 rfl rfl rfl rfl rfl (by dsimp only; omega) (by dsimp only; omega) (by dsimp only; omega) (by dsimp only; omega) d4_72 rfl (fun r344 T341 h343 hQ345 X342 => ?_)
      obtain ⟨tb, vb, rfl, Rb, kinb, permb, Kb⟩ := hQ345
      have KK2 := KK340.trans Kb (fun x hx => (List.mem_cons.mp hx).elim (fun q => Or.inl (q ▸ List.mem_cons_self)) (fun q => mm x q))
      show Go p e below RS T341 (mkF m 75 #[.val (.ref a1), .val (.long q2), .second, .val (.long q3), .second, .unset] [vb])
      refine g_astore (L' := #[.val (.ref a1), .val (.long q2), .second, .val (.long q3), .second, .val vb]) X342 C d4_75 Rb.isRef (by rcases ref_cases Rb.isRef with q | ⟨_, q⟩ <;> rw [q] <;> rfl) rfl ?_
      refine g_goto (pc' := 112) X342 C d4_77 (by decide) (by decide) ?_
      refine g_aload X342 C d4_112 rfl Rb.isRef rfl ?_
      rw [hRS]
      refine g_retA X342 C d4_114 rfl Rb.isRef ?_ (by dsimp only; omega) (by dsimp only; omega)
      refine ⟨tb, _, rfl, Rb, permb.nodup_iff.mpr NDb, fun x hx => ?_, ?_, KK2⟩
      · exact (List.mem_cons.mp (permb.mem_iff.mp hx)).elim (fun q => Or.inl (q ▸ List.mem_cons_self)) (fun q => mm x q)
      · rw [kinb, kinn]; exact (kinz_r (x := (ky, cn)) (by show ky.toInt < q2.toInt; omega) _ so3).symm
  ·
    refine g_aloadN X0 C d4_27 rfl rfl rfl ?_
    refine g_aloadN X0 C d4_28 rfl rfl rfl ?_
    refine g_getRef (i := 4) X0 C O_a1 rfl rfl (hw _ (List.mem_of_getElem? (i := 35) rfl)) d4_29 rfl ?_
    refine g_lloadN X0 C d4_32 rfl rfl ?_
    refine g_lloadN X0 C d4_33 rfl rfl ?_
    refine g_static (argsL := [vl, (.long q2), (.long q3)]) (rest := [(.ref a1)]) (W := 1) X0 C (ih l Z a0 hw tl vl q2 q3 h0 n0 hz0 hhx.1 Rl NDlr.1 (fun x hx => hga x (List.mem_cons_of_mem _ (List.mem_append_left _ hx))) so1 (by omega) (by omega) []) (hw _ (List.mem_of_getElem? (i := 16) rfl)) (hw _ (List.mem_of_getElem? (i := 17) rfl)) (hw _ (List.mem_of_getElem? (i := 2) rfl)) (hw _ (List.mem_of_getElem? (i := 18) rfl)) (by decide) pd_6 rfl rfl rfl rfl rfl (by dsimp only; omega) (by dsimp only; omega) (by dsimp only; omega) (by dsimp only; omega) d4_34 rfl (fun r349 T346 h348 hQ350 X347 => ?_)
    obtain ⟨tn, vn, rfl, Rn, NDn, adn, kinn, Kn⟩ := hQ350
    have O_a1 := O_a1.keep Kn na1_tl
    have Rr := Rr.keep Kn (fun x hx q => disj x q hx)
    have hz351 : Lo n0 h348.size := Lo.keep hz0 Kn
    have KK1 := (Keep.refl h0 (kad ((.inner sz a1 (ky, cn) tl tr) : Tre))).trans Kn (fun x hx => Or.inl (List.mem_cons_of_mem _ (List.mem_append_left _ hx)))
    have na1_tn : a1 ∉ kad tn := fun q => by rcases adn a1 q with q | q <;> first | exact na1_tl q | exact absurd lt_a1 (Nat.not_lt.mpr q)
    show Go p e below RS T346 (mkF m 37 #[.val (.ref a1), .val (.long q2), .second, .val (.long q3), .second, .unset] [vn, (.ref a1)])
    refine g_putRef (i := 4) (vs' := [(.int H0), (.long ky), (.long cn), (.long (ksm tl + cn + ksm tr)), vn, vr]) X347 C O_a1 (CF_N hw) rfl rfl rfl ga_a1 (hw _ (List.mem_of_getElem? (i := 35) rfl)) (hw _ (List.mem_of_getElem? (i := 36) rfl)) (ty := (.object "com/example/ugello/ugello/service/KeyCounts$Node")) (by decide) (narrowO Rn.isRef) (fitsO Rn.isRef) d4_37 rfl (fun T352 h354 X353 O_a1 K355 => ?_)
    have Rr := Rr.keep K355 (ninL na1_tr)
    have Rn := Rn.keep K355 (ninL na1_tn)
    have hz356 : Lo n0 h354.size := Lo.keep hz351 K355
    have KK357 := KK1.trans K355 (allS (Or.inl (List.mem_of_getElem? (i := 0) rfl)) all0)
    refine g_aloadN X353 C d4_40 rfl rfl rfl ?_
    have NDb : (a1 :: (kad tn ++ kad tr)).Nodup := (nd_new hND NDn (fun x hx => adn x hx) lt_a1 ltr)
    have mm : ∀ x ∈ kad tn ++ kad tr, x ∈ kad ((.inner sz a1 (ky, cn) tl tr) : Tre) ∨ Lo h0.size x := by
      intro x hx; rcases List.mem_append.mp hx with hx | hx
      · rcases adn x hx with q | q
        · exact Or.inl (List.mem_cons_of_mem _ (List.mem_append_left _ q))
        · exact Or.inr q
      · exact Or.inl (List.mem_cons_of_mem _ (List.mem_append_right _ hx))
    have gaB : ∀ x ∈ kad tn ++ kad tr, Lo n0 x := fun x hx => by rcases mm x hx with q | q <;> first | exact hga x q | exact Lo.tr hz0 q
    refine g_static (argsL := [(.ref a1)]) (rest := []) (W := 0) X353 C (rmBal l Z a0 hw a1 H0 ky cn (ksm tl + cn + ksm tr) vn vr tn tr h354 n0 hz356 (by have g1 := kht_le tn; have g2 := kht_le tr; have g3 := kinz_len q2 q3 (kin tl); rw [← kinn] at g3; omega) ga_a1 gaB NDb O_a1 Rn Rr []) (hw _ (List.mem_of_getElem? (i := 37) rfl)) (hw _ (List.mem_of_getElem? (i := 38) rfl)) (hw _ (List.mem_of_getElem? (i := 2) rfl)) (hw _ (List.mem_of_getElem? (i := 39) rfl)) (by decide) pd_4 rfl rfl rfl rfl rfl (by dsimp only; omega) (by dsimp only; omega) (by dsimp only; omega) (by dsimp only; omega) d4_41 rfl (fun r361 T358 h360 hQ362 X359 => ?_)
    obtain ⟨tb, vb, rfl, Rb, kinb, permb, Kb⟩ := hQ362
    have KK2 := KK357.trans Kb (fun x hx => (List.mem_cons.mp hx).elim (fun q => Or.inl (q ▸ List.mem_cons_self)) (fun q => mm x q))
    show Go p e below RS T358 (mkF m 44 #[.val (.ref a1), .val (.long q2), .second, .val (.long q3), .second, .unset] [vb])
    refine g_astore (L' := #[.val (.ref a1), .val (.long q2), .second, .val (.long q3), .second, .val vb]) X359 C d4_44 Rb.isRef (by rcases ref_cases Rb.isRef with q | ⟨_, q⟩ <;> rw [q] <;> rfl) rfl ?_
    refine g_goto (pc' := 112) X359 C d4_46 (by decide) (by decide) ?_
    refine g_aload X359 C d4_112 rfl Rb.isRef rfl ?_
    rw [hRS]
    refine g_retA X359 C d4_114 rfl Rb.isRef ?_ (by dsimp only; omega) (by dsimp only; omega)
    refine ⟨tb, _, rfl, Rb, permb.nodup_iff.mpr NDb, fun x hx => ?_, ?_, KK2⟩
    · exact (List.mem_cons.mp (permb.mem_iff.mp hx)).elim (fun q => Or.inl (q ▸ List.mem_cons_self)) (fun q => mm x q)
    · rw [kinb, kinn]; exact (kinz_l (x := (ky, cn)) (by show q2.toInt < ky.toInt; omega) _).symm
theorem rmS : ∀ d, SpecS d := by
  intro d
  induction d with
  | zero =>
    intro l Z a0 hw t v1 q2 q3 h0 n0 hz0 hht hR hND hga hso hd3 hlen ws
    cases t with
    | leaf => obtain rfl : v1 = .null := hR; exact rmS_n l Z a0 hw 0 q2 q3 h0 n0 hz0 ws
    | inner s a kc l' r' => exfalso; simp only [kht] at hht; omega
  | succ d ih =>
    intro l Z a0 hw t v1 q2 q3 h0 n0 hz0 hht hR hND hga hso hd3 hlen ws
    cases t with
    | leaf => obtain rfl : v1 = .null := hR; exact rmS_n l Z a0 hw (d + 1) q2 q3 h0 n0 hz0 ws
    | inner s a kc l' r' =>
      obtain ⟨rfl, H, vl, vr, O, hH, Rl, Rr⟩ := hR
      exact rmS_r l Z a0 hw d ih a q2 q3 s kc.1 kc.2 l' r' H vl vr h0 n0 hz0 O Rl Rr hht hND hga hso hd3 hlen ws
theorem ef_rmJ (m : MethodId) (a1 : Addr) (q2 : Int64) (q3 : Int64) : entryFrame m #[(.ref a1), (.long q2), (.long q3)] 5 = mkF m 0 #[.val (.ref a1), .val (.long q2), .second, .val (.long q3), .second] [] := by first | (simp [entryFrame, mkF, argsToLocals, Value.category]; done) | rfl
set_option maxRecDepth 65536 in
set_option maxHeartbeats 40000000 in
theorem rmJ (l : Launch) (Z : State) (a0 : Array Value) (hw : ∀ d ∈ tables_1, d.before a0 Z = true) (a1 : Addr) (q2 q3 : Int64) (v1 : Value) (t : Tre) (h0 : Heap) (n0 : Nat) (hz0 : Lo n0 h0.size) (ga_a1 : Lo n0 a1) (na1 : a1 ∉ kad t) (hht : kht t ≤ 3) (hR : Rep Z h0 t v1) (hND : (kad t).Nodup) (hga : ∀ x ∈ kad t, Lo n0 x) (hso : ksorted (kin t)) (hlen : (kin t).length ≤ 3) (O_a1 : Ob Z h0 a1 "com/example/ugello/ugello/service/KeyCounts" NS_KC [v1]) (ws : List Jvm.Cond) :
    Ctr l (⟨"com/example/ugello/ugello/service/KeyCounts", "add", "(JJ)V"⟩ : MethodName) prog_23_method_2_code 5 none ({ frames := 7, cells := 1, slots := 6, locals := 127 } : Room) Z n0 #[(.ref a1), (.long q2), (.long q3)] h0 (fun v h => v = none ∧ ∃ (t' : Tre) (v' : Value), Ob Z h a1 "com/example/ugello/ugello/service/KeyCounts" NS_KC [v'] ∧ Rep Z h t' v' ∧ (kad t').Nodup ∧ (∀ x ∈ kad t', Lo n0 x) ∧ a1 ∉ kad t' ∧ kin t' = kinz q2 q3 (kin t) ∧ Keep h0 h (a1 :: kad t)) ws := by
  refine ctr_of (plainFor_of_name pn_0) ?_
  intro p e s m below meth c T0 X0 C
  refine go_cast (ef_rmJ m a1 q2 q3) ?_
  obtain ⟨RS, hRS⟩ : ∃ RS, RS = Rs s below n0 (fun v h => v = none ∧ ∃ (t' : Tre) (v' : Value), Ob Z h a1 "com/example/ugello/ugello/service/KeyCounts" NS_KC [v'] ∧ Rep Z h t' v' ∧ (kad t').Nodup ∧ (∀ x ∈ kad t', Lo n0 x) ∧ a1 ∉ kad t' ∧ kin t' = kinz q2 q3 (kin t) ∧ Keep h0 h (a1 :: kad t)) ({ frames := 7, cells := 1, slots := 6, locals := 127 } : Room).cells ({ frames := 7, cells := 1, slots := 6, locals := 127 } : Room).slots := ⟨_, rfl⟩
  suffices HG : Go p e below RS T0 (mkF m 0 #[.val (.ref a1), .val (.long q2), .second, .val (.long q3), .second] []) by rw [hRS] at HG; exact HG
  show Go p e below RS T0 (mkF m 0 #[.val (.ref a1), .val (.long q2), .second, .val (.long q3), .second] [])
  refine g_aloadN X0 C d3_0 rfl rfl rfl ?_
  refine g_aloadN X0 C d3_1 rfl rfl rfl ?_
  refine g_getO (i := 0) X0 C O_a1 rfl rfl (host := "") (Or.inl (hw _ (List.mem_of_getElem? (i := 14) rfl))) d3_2 rfl (fun T363 X364 => ?_)
  refine g_lloadN X364 C d3_5 rfl rfl ?_
  refine g_lloadN X364 C d3_6 rfl rfl ?_
  have lt_a1 := O_a1.lt
  refine g_static (argsL := [v1, (.long q2), (.long q3)]) (rest := [(.ref a1)]) (W := 1) X364 C (rmS 3 l Z a0 hw t v1 q2 q3 h0 n0 hz0 hht hR hND hga hso (by decide) hlen []) (hw _ (List.mem_of_getElem? (i := 16) rfl)) (hw _ (List.mem_of_getElem? (i := 17) rfl)) (hw _ (List.mem_of_getElem? (i := 2) rfl)) (hw _ (List.mem_of_getElem? (i := 18) rfl)) (by decide) pd_6 rfl rfl rfl rfl rfl (by decide) (by decide) (by decide) (by decide) d3_7 rfl (fun r368 T365 h367 hQ369 X366 => ?_)
  obtain ⟨tn, vn, rfl, Rn, NDn, adn, kinn, Kn⟩ := hQ369
  have O_a1 := O_a1.keep Kn na1
  have na1_tn : a1 ∉ kad tn := fun q => by rcases adn a1 q with q | q <;> first | exact na1 q | exact absurd lt_a1 (Nat.not_lt.mpr q)
  have hz370 : Lo n0 h367.size := Lo.keep hz0 Kn
  have KK1 := (Keep.refl h0 (a1 :: kad t)).trans Kn (fun x hx => Or.inl (List.mem_cons_of_mem _ hx))
  show Go p e below RS T365 (mkF m 10 #[.val (.ref a1), .val (.long q2), .second, .val (.long q3), .second] [vn, (.ref a1)])
  refine g_putO (i := 0) (vs' := [vn]) X366 C O_a1 (CF_KC hw) rfl rfl rfl ga_a1 (host := "") (Or.inl (hw _ (List.mem_of_getElem? (i := 14) rfl))) (Or.inl (hw _ (List.mem_of_getElem? (i := 15) rfl))) (ty := (.object "com/example/ugello/ugello/service/KeyCounts$Node")) (by decide) (narrowO Rn.isRef) (fitsO Rn.isRef) d3_10 rfl (fun T371 h373 X372 O_a1 K374 => ?_)
  have Rn := Rn.keep K374 (ninL na1_tn)
  have hz375 : Lo n0 h373.size := Lo.keep hz370 K374
  have KK376 := KK1.trans K374 (allS (Or.inl (List.mem_of_getElem? (i := 0) rfl)) all0)
  rw [hRS]
  refine g_retV X372 C d3_13 ?_ (by decide) (by decide)
  exact ⟨rfl, tn, vn, O_a1, Rn, NDn, fun x hx => (adn x hx).elim (fun q => hga x q) (fun q => Lo.tr hz0 q), na1_tn, kinn, KK376⟩
theorem ef_rmE (m : MethodId) (q1 : Int64) (q2 : Int64) (q3 : Int64) (q4 : Int64) (q5 : Int64) (q6 : Int64) (q7 : Int64) (p8 : Int32) : entryFrame m #[(.long q1), (.long q2), (.long q3), (.long q4), (.long q5), (.long q6), (.long q7), (.int p8)] 17 = mkF m 0 #[.val (.long q1), .second, .val (.long q2), .second, .val (.long q3), .second, .val (.long q4), .second, .val (.long q5), .second, .val (.long q6), .second, .val (.long q7), .second, .val (.int p8), .unset, .unset] [] := by first | (simp [entryFrame, mkF, argsToLocals, Value.category]; done) | rfl
set_option maxRecDepth 65536 in
set_option maxHeartbeats 40000000 in
theorem rmE (l : Launch) (Z : State) (a0 : Array Value) (hw : ∀ d ∈ tables_1, d.before a0 Z = true) (q1 q2 q3 q4 q5 q6 q7 : Int64) (p8 : Int32) (h0 : Heap) (n0 : Nat) (hz0 : Lo n0 h0.size)  (ws : List Jvm.Cond) :
    Ctr l (⟨"com/example/ugello/ugello/service/KeyCountsCountOfPinLaw", "expected", "(JJJJJJJZ)J"⟩ : MethodName) method_3_code 17 (some .long) ({ frames := 0, cells := 0, slots := 0, locals := 0 } : Room) Z n0 #[(.long q1), (.long q2), (.long q3), (.long q4), (.long q5), (.long q6), (.long q7), (.int p8)] h0 (fun v h => v = some (.long (own_ex q1 q2 q3 q4 q5 q6 q7 p8)) ∧ h = h0) ws := by
  refine ctr_of (plainFor_of_name pn_2) ?_
  intro p e s m below meth c T0 X0 C
  refine go_cast (ef_rmE m q1 q2 q3 q4 q5 q6 q7 p8) ?_
  obtain ⟨RS, hRS⟩ : ∃ RS, RS = Rs s below n0 (fun v h => v = some (.long (own_ex q1 q2 q3 q4 q5 q6 q7 p8)) ∧ h = h0) ({ frames := 0, cells := 0, slots := 0, locals := 0 } : Room).cells ({ frames := 0, cells := 0, slots := 0, locals := 0 } : Room).slots := ⟨_, rfl⟩
  suffices HG : Go p e below RS T0 (mkF m 0 #[.val (.long q1), .second, .val (.long q2), .second, .val (.long q3), .second, .val (.long q4), .second, .val (.long q5), .second, .val (.long q6), .second, .val (.long q7), .second, .val (.int p8), .unset, .unset] []) by rw [hRS] at HG; exact HG
  show Go p e below RS T0 (mkF m 0 #[.val (.long q1), .second, .val (.long q2), .second, .val (.long q3), .second, .val (.long q4), .second, .val (.long q5), .second, .val (.long q6), .second, .val (.long q7), .second, .val (.int p8), .unset, .unset] [])
  refine g_lconst (v := 0) X0 C d13_0 (by decide) rfl ?_
  refine g_lstore (L' := #[.val (.long q1), .second, .val (.long q2), .second, .val (.long q3), .second, .val (.long q4), .second, .val (.long q5), .second, .val (.long q6), .second, .val (.long q7), .second, .val (.int p8), .val (.long (0 : Int64)), .second]) X0 C d13_1 rfl rfl rfl ?_
  refine g_lloadN X0 C d13_3 rfl rfl ?_
  refine g_lloadN X0 C d13_4 rfl rfl ?_
  refine g_lcmp X0 C d13_5 rfl ?_
  refine g_lif_ne (a := q1.toInt) (b := q2.toInt) X0 C d13_6 rfl rfl (by decide) (pT := 21) (by decide) (pF := 9) rfl (fun hc6 => ?_) (fun hc6 => ?_)
  ·
    refine g_lloadN X0 C d13_21 rfl rfl ?_
    refine g_lload X0 C d13_22 rfl rfl ?_
    refine g_lcmp X0 C d13_24 rfl ?_
    refine g_lif_ne (a := q1.toInt) (b := q3.toInt) X0 C d13_25 rfl rfl (by decide) (pT := 35) (by decide) (pF := 28) rfl (fun hc25 => ?_) (fun hc25 => ?_)
    ·
      refine g_lloadN X0 C d13_35 rfl rfl ?_
      refine g_lload X0 C d13_36 rfl rfl ?_
      refine g_lcmp X0 C d13_38 rfl ?_
      refine g_lif_ne (a := q1.toInt) (b := q4.toInt) X0 C d13_39 rfl rfl (by decide) (pT := 49) (by decide) (pF := 42) rfl (fun hc39 => ?_) (fun hc39 => ?_)
      ·
        refine g_lload X0 C d13_49 rfl rfl ?_
        rw [hRS]
        refine g_retJ X0 C d13_51 ?_ (by decide) (by decide)
        refine ⟨?_, rfl⟩
        have e1 := (own_stN (P := q1.toInt = q2.toInt ∧ p8.toInt = 0) (by omega) 0 q5 : own_st (q1.toInt = q2.toInt ∧ p8.toInt = 0) 0 q5 = _)
        rw [own_ex, e1, own_stN (P := q1.toInt = q3.toInt) (by omega), own_stN (P := q1.toInt = q4.toInt) (by omega)]
      ·
        refine g_lload X0 C d13_42 rfl rfl ?_
        refine g_lload X0 C d13_44 rfl rfl ?_
        refine g_ladd X0 C d13_46 rfl ?_
        refine g_lstore (L' := #[.val (.long q1), .second, .val (.long q2), .second, .val (.long q3), .second, .val (.long q4), .second, .val (.long q5), .second, .val (.long q6), .second, .val (.long q7), .second, .val (.int p8), .val (.long ((0 : Int64) + q7)), .second]) X0 C d13_47 rfl rfl rfl ?_
        refine g_lload X0 C d13_49 rfl rfl ?_
        rw [hRS]
        refine g_retJ X0 C d13_51 ?_ (by decide) (by decide)
        refine ⟨?_, rfl⟩
        have e1 := (own_stN (P := q1.toInt = q2.toInt ∧ p8.toInt = 0) (by omega) 0 q5 : own_st (q1.toInt = q2.toInt ∧ p8.toInt = 0) 0 q5 = _)
        rw [own_ex, e1, own_stN (P := q1.toInt = q3.toInt) (by omega), own_stP (P := q1.toInt = q4.toInt) (by omega)]
    ·
      refine g_lload X0 C d13_28 rfl rfl ?_
      refine g_lload X0 C d13_30 rfl rfl ?_
      refine g_ladd X0 C d13_32 rfl ?_
      refine g_lstore (L' := #[.val (.long q1), .second, .val (.long q2), .second, .val (.long q3), .second, .val (.long q4), .second, .val (.long q5), .second, .val (.long q6), .second, .val (.long q7), .second, .val (.int p8), .val (.long ((0 : Int64) + q6)), .second]) X0 C d13_33 rfl rfl rfl ?_
      refine g_lloadN X0 C d13_35 rfl rfl ?_
      refine g_lload X0 C d13_36 rfl rfl ?_
      refine g_lcmp X0 C d13_38 rfl ?_
      refine g_lif_ne (a := q1.toInt) (b := q4.toInt) X0 C d13_39 rfl rfl (by decide) (pT := 49) (by decide) (pF := 42) rfl (fun hc39 => ?_) (fun hc39 => ?_)
      ·
        refine g_lload X0 C d13_49 rfl rfl ?_
        rw [hRS]
        refine g_retJ X0 C d13_51 ?_ (by decide) (by decide)
        refine ⟨?_, rfl⟩
        have e1 := (own_stN (P := q1.toInt = q2.toInt ∧ p8.toInt = 0) (by omega) 0 q5 : own_st (q1.toInt = q2.toInt ∧ p8.toInt = 0) 0 q5 = _)
        rw [own_ex, e1, own_stP (P := q1.toInt = q3.toInt) (by omega), own_stN (P := q1.toInt = q4.toInt) (by omega)]
      ·
        refine g_lload X0 C d13_42 rfl rfl ?_
        refine g_lload X0 C d13_44 rfl rfl ?_
        refine g_ladd X0 C d13_46 rfl ?_
        refine g_lstore (L' := #[.val (.long q1), .second, .val (.long q2), .second, .val (.long q3), .second, .val (.long q4), .second, .val (.long q5), .second, .val (.long q6), .second, .val (.long q7), .second, .val (.int p8), .val (.long (((0 : Int64) + q6) + q7)), .second]) X0 C d13_47 rfl rfl rfl ?_
        refine g_lload X0 C d13_49 rfl rfl ?_
        rw [hRS]
        refine g_retJ X0 C d13_51 ?_ (by decide) (by decide)
        refine ⟨?_, rfl⟩
        have e1 := (own_stN (P := q1.toInt = q2.toInt ∧ p8.toInt = 0) (by omega) 0 q5 : own_st (q1.toInt = q2.toInt ∧ p8.toInt = 0) 0 q5 = _)
        rw [own_ex, e1, own_stP (P := q1.toInt = q3.toInt) (by omega), own_stP (P := q1.toInt = q4.toInt) (by omega)]
  ·
    refine g_iload X0 C d13_9 rfl rfl ?_
    refine g_if_ne (a := p8.toInt) X0 C d13_11 rfl (by decide) (pT := 21) (by decide) (pF := 14) rfl (fun hc11 => ?_) (fun hc11 => ?_)
    ·
      refine g_lloadN X0 C d13_21 rfl rfl ?_
      refine g_lload X0 C d13_22 rfl rfl ?_
      refine g_lcmp X0 C d13_24 rfl ?_
      refine g_lif_ne (a := q1.toInt) (b := q3.toInt) X0 C d13_25 rfl rfl (by decide) (pT := 35) (by decide) (pF := 28) rfl (fun hc25 => ?_) (fun hc25 => ?_)
      ·
        refine g_lloadN X0 C d13_35 rfl rfl ?_
        refine g_lload X0 C d13_36 rfl rfl ?_
        refine g_lcmp X0 C d13_38 rfl ?_
        refine g_lif_ne (a := q1.toInt) (b := q4.toInt) X0 C d13_39 rfl rfl (by decide) (pT := 49) (by decide) (pF := 42) rfl (fun hc39 => ?_) (fun hc39 => ?_)
        ·
          refine g_lload X0 C d13_49 rfl rfl ?_
          rw [hRS]
          refine g_retJ X0 C d13_51 ?_ (by decide) (by decide)
          refine ⟨?_, rfl⟩
          have e1 := (own_stN (P := q1.toInt = q2.toInt ∧ p8.toInt = 0) (by omega) 0 q5 : own_st (q1.toInt = q2.toInt ∧ p8.toInt = 0) 0 q5 = _)
          rw [own_ex, e1, own_stN (P := q1.toInt = q3.toInt) (by omega), own_stN (P := q1.toInt = q4.toInt) (by omega)]
        ·
          refine g_lload X0 C d13_42 rfl rfl ?_
          refine g_lload X0 C d13_44 rfl rfl ?_
          refine g_ladd X0 C d13_46 rfl ?_
          refine g_lstore (L' := #[.val (.long q1), .second, .val (.long q2), .second, .val (.long q3), .second, .val (.long q4), .second, .val (.long q5), .second, .val (.long q6), .second, .val (.long q7), .second, .val (.int p8), .val (.long ((0 : Int64) + q7)), .second]) X0 C d13_47 rfl rfl rfl ?_
          refine g_lload X0 C d13_49 rfl rfl ?_
          rw [hRS]
          refine g_retJ X0 C d13_51 ?_ (by decide) (by decide)
          refine ⟨?_, rfl⟩
          have e1 := (own_stN (P := q1.toInt = q2.toInt ∧ p8.toInt = 0) (by omega) 0 q5 : own_st (q1.toInt = q2.toInt ∧ p8.toInt = 0) 0 q5 = _)
          rw [own_ex, e1, own_stN (P := q1.toInt = q3.toInt) (by omega), own_stP (P := q1.toInt = q4.toInt) (by omega)]
      ·
        refine g_lload X0 C d13_28 rfl rfl ?_
        refine g_lload X0 C d13_30 rfl rfl ?_
        refine g_ladd X0 C d13_32 rfl ?_
        refine g_lstore (L' := #[.val (.long q1), .second, .val (.long q2), .second, .val (.long q3), .second, .val (.long q4), .second, .val (.long q5), .second, .val (.long q6), .second, .val (.long q7), .second, .val (.int p8), .val (.long ((0 : Int64) + q6)), .second]) X0 C d13_33 rfl rfl rfl ?_
        refine g_lloadN X0 C d13_35 rfl rfl ?_
        refine g_lload X0 C d13_36 rfl rfl ?_
        refine g_lcmp X0 C d13_38 rfl ?_
        refine g_lif_ne (a := q1.toInt) (b := q4.toInt) X0 C d13_39 rfl rfl (by decide) (pT := 49) (by decide) (pF := 42) rfl (fun hc39 => ?_) (fun hc39 => ?_)
        ·
          refine g_lload X0 C d13_49 rfl rfl ?_
          rw [hRS]
          refine g_retJ X0 C d13_51 ?_ (by decide) (by decide)
          refine ⟨?_, rfl⟩
          have e1 := (own_stN (P := q1.toInt = q2.toInt ∧ p8.toInt = 0) (by omega) 0 q5 : own_st (q1.toInt = q2.toInt ∧ p8.toInt = 0) 0 q5 = _)
          rw [own_ex, e1, own_stP (P := q1.toInt = q3.toInt) (by omega), own_stN (P := q1.toInt = q4.toInt) (by omega)]
        ·
          refine g_lload X0 C d13_42 rfl rfl ?_
          refine g_lload X0 C d13_44 rfl rfl ?_
          refine g_ladd X0 C d13_46 rfl ?_
          refine g_lstore (L' := #[.val (.long q1), .second, .val (.long q2), .second, .val (.long q3), .second, .val (.long q4), .second, .val (.long q5), .second, .val (.long q6), .second, .val (.long q7), .second, .val (.int p8), .val (.long (((0 : Int64) + q6) + q7)), .second]) X0 C d13_47 rfl rfl rfl ?_
          refine g_lload X0 C d13_49 rfl rfl ?_
          rw [hRS]
          refine g_retJ X0 C d13_51 ?_ (by decide) (by decide)
          refine ⟨?_, rfl⟩
          have e1 := (own_stN (P := q1.toInt = q2.toInt ∧ p8.toInt = 0) (by omega) 0 q5 : own_st (q1.toInt = q2.toInt ∧ p8.toInt = 0) 0 q5 = _)
          rw [own_ex, e1, own_stP (P := q1.toInt = q3.toInt) (by omega), own_stP (P := q1.toInt = q4.toInt) (by omega)]
    ·
      refine g_lload X0 C d13_14 rfl rfl ?_
      refine g_lload X0 C d13_16 rfl rfl ?_
      refine g_ladd X0 C d13_18 rfl ?_
      refine g_lstore (L' := #[.val (.long q1), .second, .val (.long q2), .second, .val (.long q3), .second, .val (.long q4), .second, .val (.long q5), .second, .val (.long q6), .second, .val (.long q7), .second, .val (.int p8), .val (.long ((0 : Int64) + q5)), .second]) X0 C d13_19 rfl rfl rfl ?_
      refine g_lloadN X0 C d13_21 rfl rfl ?_
      refine g_lload X0 C d13_22 rfl rfl ?_
      refine g_lcmp X0 C d13_24 rfl ?_
      refine g_lif_ne (a := q1.toInt) (b := q3.toInt) X0 C d13_25 rfl rfl (by decide) (pT := 35) (by decide) (pF := 28) rfl (fun hc25 => ?_) (fun hc25 => ?_)
      ·
        refine g_lloadN X0 C d13_35 rfl rfl ?_
        refine g_lload X0 C d13_36 rfl rfl ?_
        refine g_lcmp X0 C d13_38 rfl ?_
        refine g_lif_ne (a := q1.toInt) (b := q4.toInt) X0 C d13_39 rfl rfl (by decide) (pT := 49) (by decide) (pF := 42) rfl (fun hc39 => ?_) (fun hc39 => ?_)
        ·
          refine g_lload X0 C d13_49 rfl rfl ?_
          rw [hRS]
          refine g_retJ X0 C d13_51 ?_ (by decide) (by decide)
          refine ⟨?_, rfl⟩
          have e1 := (own_stP (P := q1.toInt = q2.toInt ∧ p8.toInt = 0) (by omega) 0 q5 : own_st (q1.toInt = q2.toInt ∧ p8.toInt = 0) 0 q5 = _)
          rw [own_ex, e1, own_stN (P := q1.toInt = q3.toInt) (by omega), own_stN (P := q1.toInt = q4.toInt) (by omega)]
        ·
          refine g_lload X0 C d13_42 rfl rfl ?_
          refine g_lload X0 C d13_44 rfl rfl ?_
          refine g_ladd X0 C d13_46 rfl ?_
          refine g_lstore (L' := #[.val (.long q1), .second, .val (.long q2), .second, .val (.long q3), .second, .val (.long q4), .second, .val (.long q5), .second, .val (.long q6), .second, .val (.long q7), .second, .val (.int p8), .val (.long (((0 : Int64) + q5) + q7)), .second]) X0 C d13_47 rfl rfl rfl ?_
          refine g_lload X0 C d13_49 rfl rfl ?_
          rw [hRS]
          refine g_retJ X0 C d13_51 ?_ (by decide) (by decide)
          refine ⟨?_, rfl⟩
          have e1 := (own_stP (P := q1.toInt = q2.toInt ∧ p8.toInt = 0) (by omega) 0 q5 : own_st (q1.toInt = q2.toInt ∧ p8.toInt = 0) 0 q5 = _)
          rw [own_ex, e1, own_stN (P := q1.toInt = q3.toInt) (by omega), own_stP (P := q1.toInt = q4.toInt) (by omega)]
      ·
        refine g_lload X0 C d13_28 rfl rfl ?_
        refine g_lload X0 C d13_30 rfl rfl ?_
        refine g_ladd X0 C d13_32 rfl ?_
        refine g_lstore (L' := #[.val (.long q1), .second, .val (.long q2), .second, .val (.long q3), .second, .val (.long q4), .second, .val (.long q5), .second, .val (.long q6), .second, .val (.long q7), .second, .val (.int p8), .val (.long (((0 : Int64) + q5) + q6)), .second]) X0 C d13_33 rfl rfl rfl ?_
        refine g_lloadN X0 C d13_35 rfl rfl ?_
        refine g_lload X0 C d13_36 rfl rfl ?_
        refine g_lcmp X0 C d13_38 rfl ?_
        refine g_lif_ne (a := q1.toInt) (b := q4.toInt) X0 C d13_39 rfl rfl (by decide) (pT := 49) (by decide) (pF := 42) rfl (fun hc39 => ?_) (fun hc39 => ?_)
        ·
          refine g_lload X0 C d13_49 rfl rfl ?_
          rw [hRS]
          refine g_retJ X0 C d13_51 ?_ (by decide) (by decide)
          refine ⟨?_, rfl⟩
          have e1 := (own_stP (P := q1.toInt = q2.toInt ∧ p8.toInt = 0) (by omega) 0 q5 : own_st (q1.toInt = q2.toInt ∧ p8.toInt = 0) 0 q5 = _)
          rw [own_ex, e1, own_stP (P := q1.toInt = q3.toInt) (by omega), own_stN (P := q1.toInt = q4.toInt) (by omega)]
        ·
          refine g_lload X0 C d13_42 rfl rfl ?_
          refine g_lload X0 C d13_44 rfl rfl ?_
          refine g_ladd X0 C d13_46 rfl ?_
          refine g_lstore (L' := #[.val (.long q1), .second, .val (.long q2), .second, .val (.long q3), .second, .val (.long q4), .second, .val (.long q5), .second, .val (.long q6), .second, .val (.long q7), .second, .val (.int p8), .val (.long ((((0 : Int64) + q5) + q6) + q7)), .second]) X0 C d13_47 rfl rfl rfl ?_
          refine g_lload X0 C d13_49 rfl rfl ?_
          rw [hRS]
          refine g_retJ X0 C d13_51 ?_ (by decide) (by decide)
          refine ⟨?_, rfl⟩
          have e1 := (own_stP (P := q1.toInt = q2.toInt ∧ p8.toInt = 0) (by omega) 0 q5 : own_st (q1.toInt = q2.toInt ∧ p8.toInt = 0) 0 q5 = _)
          rw [own_ex, e1, own_stP (P := q1.toInt = q3.toInt) (by omega), own_stP (P := q1.toInt = q4.toInt) (by omega)]
theorem ef_rmCO (m : MethodId) (a1 : Addr) (q2 : Int64) : entryFrame m #[(.ref a1), (.long q2)] 4 = mkF m 0 #[.val (.ref a1), .val (.long q2), .second, .unset] [] := by first | (simp [entryFrame, mkF, argsToLocals, Value.category]; done) | rfl
set_option maxRecDepth 65536 in
set_option maxHeartbeats 40000000 in
theorem rmCO (l : Launch) (Z : State) (a0 : Array Value) (hw : ∀ d ∈ tables_1, d.before a0 Z = true) (a1 : Addr) (q2 : Int64) (v1 : Value) (t : Tre) (h0 : Heap) (n0 : Nat) (hz0 : Lo n0 h0.size) (hR : Rep Z h0 t v1) (hso : ksorted (kin t)) (O_a1 : Ob Z h0 a1 "com/example/ugello/ugello/service/KeyCounts" NS_KC [v1]) (ws : List Jvm.Cond) :
    Ctr l (⟨"com/example/ugello/ugello/service/KeyCounts", "countOf", "(J)J"⟩ : MethodName) prog_23_method_4_code 4 (some .long) ({ frames := 0, cells := 0, slots := 0, locals := 0 } : Room) Z n0 #[(.ref a1), (.long q2)] h0 (fun v h => v = some (.long (kget q2 (kin t))) ∧ h = h0) ws := by
  refine ctr_of (plainFor_of_name pn_0) ?_
  intro p e s m below meth c T0 X0 C
  refine go_cast (ef_rmCO m a1 q2) ?_
  obtain ⟨RS, hRS⟩ : ∃ RS, RS = Rs s below n0 (fun v h => v = some (.long (kget q2 (kin t))) ∧ h = h0) ({ frames := 0, cells := 0, slots := 0, locals := 0 } : Room).cells ({ frames := 0, cells := 0, slots := 0, locals := 0 } : Room).slots := ⟨_, rfl⟩
  suffices HG : Go p e below RS T0 (mkF m 0 #[.val (.ref a1), .val (.long q2), .second, .unset] []) by rw [hRS] at HG; exact HG
  show Go p e below RS T0 (mkF m 0 #[.val (.ref a1), .val (.long q2), .second, .unset] [])
  refine g_aloadN X0 C d12_0 rfl rfl rfl ?_
  refine g_getO (i := 0) X0 C O_a1 rfl rfl (host := "") (Or.inl (hw _ (List.mem_of_getElem? (i := 14) rfl))) d12_1 rfl (fun T377 X378 => ?_)
  refine g_astoreN (L' := #[.val (.ref a1), .val (.long q2), .second, .val v1]) X378 C d12_4 hR.isRef (by rcases ref_cases hR.isRef with q | ⟨_, q⟩ <;> rw [q] <;> rfl) rfl ?_
  have LP : ∀ (u : Tre) (v : Value) (T : State), St p l e ({ frames := 0, cells := 0, slots := 0, locals := 0 } : Room) s m #[(.ref a1), (.long q2)] below meth c n0 T h0 0 0 → Rep Z h0 u v → ksorted (kin u) → kget q2 (kin u) = kget q2 (kin t) → Go p e below RS T (mkF m 5 #[.val (.ref a1), .val (.long q2), .second, .val v] []) := by
    intro u
    induction u with
    | leaf =>
      intro v T X hv hs hacc
      obtain rfl : v = .null := hv
      refine g_aloadN X C d12_5 rfl rfl rfl ?_
      refine g_nullY X C d12_6 (by decide) (pT := 42) (by decide) ?_
      refine g_aloadN X C d12_42 rfl rfl rfl ?_
      refine g_nonnullN (pF := 46) X C d12_43 rfl ?_
      refine g_lconst (v := 0) X C d12_46 (by decide) rfl ?_
      refine g_goto (pc' := 54) X C d12_47 (by decide) (by decide) ?_
      rw [hRS]
      refine g_retJ X C d12_54 ?_ (by decide) (by decide)
      exact ⟨by rw [← hacc]; rfl, rfl⟩
    | inner s' n kc ul ur ihl ihr =>
      intro v T X hv hs hacc
      obtain ⟨rfl, H, vl, vr, O_n, hH, Rl, Rr⟩ := hv
      obtain ⟨so1, so2, so3, so4⟩ := ksplit (show ksorted (kin ul ++ kc :: kin ur) from hs)
      have hx : kget q2 (kin ul ++ kc :: kin ur) = kget q2 (kin t) := hacc
      refine g_aloadN X C d12_5 rfl rfl rfl ?_
      refine g_nullN (pF := 9) X C d12_6 rfl ?_
      refine g_aloadN X C d12_9 rfl rfl rfl ?_
      refine g_getRef (i := 1) X C O_n rfl rfl (hw _ (List.mem_of_getElem? (i := 34) rfl)) d12_10 rfl ?_
      refine g_lloadN X C d12_13 rfl rfl ?_
      refine g_lcmp X C d12_14 rfl ?_
      refine g_lif_eq (a := kc.1.toInt) (b := q2.toInt) X C d12_15 rfl rfl (by decide) (pT := 42) (by decide) (pF := 18) rfl (fun hc15 => ?_) (fun hc15 => ?_)
      ·
        refine g_aloadN X C d12_42 rfl rfl rfl ?_
        refine g_nonnullY X C d12_43 (by decide) (pT := 50) (by decide) ?_
        refine g_aloadN X C d12_50 rfl rfl rfl ?_
        refine g_getRef (i := 2) X C O_n rfl rfl (hw _ (List.mem_of_getElem? (i := 57) rfl)) d12_51 rfl ?_
        rw [hRS]
        refine g_retJ X C d12_54 ?_ (by decide) (by decide)
        exact ⟨by rw [← hx, kget_lo (fun y hy => by have := so3 y hy; omega), kget, if_pos (by omega)], rfl⟩
      ·
        refine g_lloadN X C d12_18 rfl rfl ?_
        refine g_aloadN X C d12_19 rfl rfl rfl ?_
        refine g_getRef (i := 1) X C O_n rfl rfl (hw _ (List.mem_of_getElem? (i := 34) rfl)) d12_20 rfl ?_
        refine g_lcmp X C d12_23 rfl ?_
        refine g_lif_ge (a := q2.toInt) (b := kc.1.toInt) X C d12_24 rfl rfl (by decide) (pT := 34) (by decide) (pF := 27) rfl (fun hc24 => ?_) (fun hc24 => ?_)
        ·
          refine g_aloadN X C d12_34 rfl rfl rfl ?_
          refine g_getRef (i := 5) X C O_n rfl rfl (hw _ (List.mem_of_getElem? (i := 47) rfl)) d12_35 rfl ?_
          refine g_astoreN (L' := #[.val (.ref a1), .val (.long q2), .second, .val vr]) X C d12_38 Rr.isRef (by rcases ref_cases Rr.isRef with q | ⟨_, q⟩ <;> rw [q] <;> rfl) rfl ?_
          refine g_goto (pc' := 5) X C d12_39 (by decide) (by decide) ?_
          exact ihr vr _ X Rr so2 (by rw [← hx, kget_lo (fun y hy => by have := so3 y hy; omega), kget, if_neg (by omega)])
        ·
          refine g_aloadN X C d12_27 rfl rfl rfl ?_
          refine g_getRef (i := 4) X C O_n rfl rfl (hw _ (List.mem_of_getElem? (i := 35) rfl)) d12_28 rfl ?_
          refine g_goto (pc' := 38) X C d12_31 (by decide) (by decide) ?_
          refine g_astoreN (L' := #[.val (.ref a1), .val (.long q2), .second, .val vl]) X C d12_38 Rl.isRef (by rcases ref_cases Rl.isRef with q | ⟨_, q⟩ <;> rw [q] <;> rfl) rfl ?_
          refine g_goto (pc' := 5) X C d12_39 (by decide) (by decide) ?_
          exact ihl vl _ X Rl so1 (by rw [← hx, kget_ap (R := kc :: kin ur) (fun y hy => by rcases List.mem_cons.mp hy with rfl | hy <;> first | omega | (have := so4 y hy; omega))])
  exact LP t v1 _ X378 hR hso rfl
theorem ef_rm0 (m : MethodId) (q1 : Int64) (q2 : Int64) (q3 : Int64) (q4 : Int64) (p5 : Int32) : entryFrame m #[(.long q1), (.long q2), (.long q3), (.long q4), (.int p5)] maxLocals = mkF m 0 #[.val (.long q1), .second, .val (.long q2), .second, .val (.long q3), .second, .val (.long q4), .second, .val (.int p5), .unset, .unset, .unset, .unset, .unset, .unset, .unset, .unset, .unset, .unset, .unset, .unset, .unset, .unset, .unset] [] := by first | (simp [entryFrame, mkF, argsToLocals, Value.category, maxLocals]; done) | rfl
set_option maxRecDepth 65536 in
set_option maxHeartbeats 40000000 in
theorem rm0 (l : Launch) (Z : State) (a0 : Array Value) (hw : ∀ d ∈ tables_1, d.before a0 Z = true) (q1 q2 q3 q4 : Int64) (p5 : Int32) (h0 : Heap) (n0 : Nat) (hz0 : Lo n0 h0.size)  (ws : List Jvm.Cond) :
    Ctr l x code maxLocals ret room_1 Z n0 #[(.long q1), (.long q2), (.long q3), (.long q4), (.int p5)] h0 (fun v h => v = some (.int 1)) ws := by
  refine ctr_of (plainFor_of_name pn_2) ?_
  intro p e s m below meth c T0 X0 C
  refine go_cast (ef_rm0 m q1 q2 q3 q4 p5) ?_
  obtain ⟨RS, hRS⟩ : ∃ RS, RS = Rs s below n0 (fun v h => v = some (.int 1)) room_1.cells room_1.slots := ⟨_, rfl⟩
  suffices HG : Go p e below RS T0 (mkF m 0 #[.val (.long q1), .second, .val (.long q2), .second, .val (.long q3), .second, .val (.long q4), .second, .val (.int p5), .unset, .unset, .unset, .unset, .unset, .unset, .unset, .unset, .unset, .unset, .unset, .unset, .unset, .unset, .unset] []) by rw [hRS] at HG; exact HG
  show Go p e below RS T0 (mkF m 0 #[.val (.long q1), .second, .val (.long q2), .second, .val (.long q3), .second, .val (.long q4), .second, .val (.int p5), .unset, .unset, .unset, .unset, .unset, .unset, .unset, .unset, .unset, .unset, .unset, .unset, .unset, .unset, .unset] [])
  refine g_iload X0 C at_0 rfl rfl ?_
  refine g_bipush (v := 7) X0 C at_2 (by decide) rfl ?_
  refine g_iand X0 C at_4 rfl ?_
  refine g_iconst (v := 1) X0 C at_5 (by decide) rfl ?_
  refine g_iadd X0 C at_6 rfl ?_
  refine g_i2l X0 C at_7 rfl ?_
  obtain ⟨j379, h_j379⟩ : ∃ z, z = ((p5 &&& (7 : Int32)) + (1 : Int32)).toInt64 := ⟨_, rfl⟩
  refine g_lstore (L' := #[.val (.long q1), .second, .val (.long q2), .second, .val (.long q3), .second, .val (.long q4), .second, .val (.int p5), .val (.long j379), .second, .unset, .unset, .unset, .unset, .unset, .unset, .unset, .unset, .unset, .unset, .unset, .unset, .unset]) X0 C at_8 h_j379 rfl rfl ?_
  refine g_iload X0 C at_10 rfl rfl ?_
  refine g_iconst (v := 3) X0 C at_12 (by decide) rfl ?_
  refine g_iushr X0 C at_13 rfl ?_
  refine g_bipush (v := 7) X0 C at_14 (by decide) rfl ?_
  refine g_iand X0 C at_16 rfl ?_
  refine g_iconst (v := 1) X0 C at_17 (by decide) rfl ?_
  refine g_iadd X0 C at_18 rfl ?_
  refine g_i2l X0 C at_19 rfl ?_
  obtain ⟨j380, h_j380⟩ : ∃ z, z = ((((p5.toUInt32 >>> ((3 : Int32) &&& 31).toUInt32).toInt32) &&& (7 : Int32)) + (1 : Int32)).toInt64 := ⟨_, rfl⟩
  refine g_lstore (L' := #[.val (.long q1), .second, .val (.long q2), .second, .val (.long q3), .second, .val (.long q4), .second, .val (.int p5), .val (.long j379), .second, .val (.long j380), .second, .unset, .unset, .unset, .unset, .unset, .unset, .unset, .unset, .unset, .unset, .unset]) X0 C at_20 h_j380 rfl rfl ?_
  refine g_iload X0 C at_22 rfl rfl ?_
  refine g_bipush (v := 6) X0 C at_24 (by decide) rfl ?_
  refine g_iushr X0 C at_26 rfl ?_
  refine g_bipush (v := 7) X0 C at_27 (by decide) rfl ?_
  refine g_iand X0 C at_29 rfl ?_
  refine g_iconst (v := 1) X0 C at_30 (by decide) rfl ?_
  refine g_iadd X0 C at_31 rfl ?_
  refine g_i2l X0 C at_32 rfl ?_
  obtain ⟨j381, h_j381⟩ : ∃ z, z = ((((p5.toUInt32 >>> ((6 : Int32) &&& 31).toUInt32).toInt32) &&& (7 : Int32)) + (1 : Int32)).toInt64 := ⟨_, rfl⟩
  refine g_lstore (L' := #[.val (.long q1), .second, .val (.long q2), .second, .val (.long q3), .second, .val (.long q4), .second, .val (.int p5), .val (.long j379), .second, .val (.long j380), .second, .val (.long j381), .second, .unset, .unset, .unset, .unset, .unset, .unset, .unset, .unset, .unset]) X0 C at_33 h_j381 rfl rfl ?_
  refine g_iload X0 C at_35 rfl rfl ?_
  refine g_bipush (v := 9) X0 C at_37 (by decide) rfl ?_
  refine g_iushr X0 C at_39 rfl ?_
  refine g_iconst (v := 1) X0 C at_40 (by decide) rfl ?_
  refine g_iand X0 C at_41 rfl ?_
  have J50_382 : ∀ (i382 : Int32) (_ : ((((p5.toUInt32 >>> ((9 : Int32) &&& 31).toUInt32).toInt32) &&& (1 : Int32)).toInt = 0 ∧ i382 = (0 : Int32) ∧ i382.toInt = 0) ∨ ((((p5.toUInt32 >>> ((9 : Int32) &&& 31).toUInt32).toInt32) &&& (1 : Int32)).toInt ≠ 0 ∧ i382 = (1 : Int32) ∧ i382.toInt = 1)), Go p e below RS T0 (mkF m 50 #[.val (.long q1), .second, .val (.long q2), .second, .val (.long q3), .second, .val (.long q4), .second, .val (.int p5), .val (.long j379), .second, .val (.long j380), .second, .val (.long j381), .second, .unset, .unset, .unset, .unset, .unset, .unset, .unset, .unset, .unset] [(.int i382)]) := by
    intro i382 hJ50
    have hdr := hJ50
    refine g_istore (L' := #[.val (.long q1), .second, .val (.long q2), .second, .val (.long q3), .second, .val (.long q4), .second, .val (.int p5), .val (.long j379), .second, .val (.long j380), .second, .val (.long j381), .second, .val (.int i382), .unset, .unset, .unset, .unset, .unset, .unset, .unset, .unset]) X0 C at_50 rfl rfl rfl ?_
    refine g_iload X0 C at_52 rfl rfl ?_
    refine g_bipush (v := 10) X0 C at_54 (by decide) rfl ?_
    refine g_iushr X0 C at_56 rfl ?_
    refine g_iconst (v := 3) X0 C at_57 (by decide) rfl ?_
    refine g_iand X0 C at_58 rfl ?_
    obtain ⟨i384, h_i384⟩ : ∃ z, z = (((p5.toUInt32 >>> ((10 : Int32) &&& 31).toUInt32).toInt32) &&& (3 : Int32)) := ⟨_, rfl⟩
    refine g_istore (L' := #[.val (.long q1), .second, .val (.long q2), .second, .val (.long q3), .second, .val (.long q4), .second, .val (.int p5), .val (.long j379), .second, .val (.long j380), .second, .val (.long j381), .second, .val (.int i382), .val (.int i384), .unset, .unset, .unset, .unset, .unset, .unset, .unset]) X0 C at_59 h_i384 rfl rfl ?_
    refine g_iload X0 C at_61 rfl rfl ?_
    have J101_385 : ∀ (j385 : Int64) (_ : (i384.toInt ≠ 0 ∧ i384.toInt ≠ 1 ∧ i384.toInt ≠ 2 ∧ j385 = q4) ∨ (i384.toInt ≠ 0 ∧ i384.toInt ≠ 1 ∧ i384.toInt = 2 ∧ j385 = q3) ∨ (i384.toInt ≠ 0 ∧ i384.toInt = 1 ∧ j385 = q2) ∨ (i384.toInt = 0 ∧ j385 = q1)), Go p e below RS T0 (mkF m 101 #[.val (.long q1), .second, .val (.long q2), .second, .val (.long q3), .second, .val (.long q4), .second, .val (.int p5), .val (.long j379), .second, .val (.long j380), .second, .val (.long j381), .second, .val (.int i382), .val (.int i384), .val (.long j385), .second, .unset, .unset, .unset, .unset, .unset] []) := by
      intro j385 hJ101
      skip
      refine g_newO (vs := [.null]) X0 C (hw _ (List.mem_of_getElem? (i := 0) rfl)) (CF_KC hw) (hw _ (List.mem_of_getElem? (i := 2) rfl)) (by decide) (by decide) (by decide) at_101 rfl (fun T387 h389 b391 hb392 X388 O_b391 K390 => ?_)
      have ga_b391 : Lo n0 b391 := Sz.lo hb392 hz0
      have hz393 : Lo n0 h389.size := Lo.keep hz0 K390
      refine g_dup X388 C at_104 rfl rfl ?_
      refine g_special (argsL := []) (rest := [(.ref b391)]) (W := 1) (a := b391) X388 C (rmKi l Z a0 hw b391 h389 n0 hz393 []) rfl rfl (hw _ (List.mem_of_getElem? (i := 3) rfl)) (hw _ (List.mem_of_getElem? (i := 4) rfl)) (hw _ (List.mem_of_getElem? (i := 2) rfl)) (hw _ (List.mem_of_getElem? (i := 5) rfl)) (by decide) pd_7 rfl rfl rfl rfl rfl (by decide) (by decide) (by decide) (by decide) at_105 rfl (fun r397 T394 h396 hQ398 X395 => ?_)
      obtain ⟨rfl, hh⟩ := hQ398; rw [hh] at X395
      obtain ⟨t0, ht0⟩ : ∃ t : Tre, t = .leaf := ⟨_, rfl⟩
      obtain ⟨v0, hv0⟩ : ∃ v : Value, v = .null := ⟨_, rfl⟩
      rw [← hv0] at O_b391
      have R_0 : Rep Z h389 t0 v0 := by rw [ht0]; exact hv0
      have N_0 : (kad t0).Nodup := by rw [ht0]; simp [kad]
      have G_0 : ∀ x ∈ kad t0, Lo n0 x := by rw [ht0]; intro x hx; exact nomatch hx
      have A_0 : b391 ∉ kad t0 := by rw [ht0]; exact nofun
      have I_0 : kin t0 = [] := by rw [ht0]; rfl
      have S_0 : ksorted (kin t0) := by rw [I_0]; simp [ksorted]
      have L_0 : (kin t0).length ≤ 0 := by rw [I_0]; exact Nat.le_refl _
      show Go p e below RS T394 (mkF m 108 #[.val (.long q1), .second, .val (.long q2), .second, .val (.long q3), .second, .val (.long q4), .second, .val (.int p5), .val (.long j379), .second, .val (.long j380), .second, .val (.long j381), .second, .val (.int i382), .val (.int i384), .val (.long j385), .second, .unset, .unset, .unset, .unset, .unset] [(.ref b391)])
      refine g_astore (L' := #[.val (.long q1), .second, .val (.long q2), .second, .val (.long q3), .second, .val (.long q4), .second, .val (.int p5), .val (.long j379), .second, .val (.long j380), .second, .val (.long j381), .second, .val (.int i382), .val (.int i384), .val (.long j385), .second, .val (.ref b391), .unset, .unset, .unset, .unset]) X395 C at_108 rfl rfl rfl ?_
      refine g_aload X395 C at_110 rfl rfl rfl ?_
      refine g_lloadN X395 C at_112 rfl rfl ?_
      refine g_lload X395 C at_113 rfl rfl ?_
      refine g_virtual (argsL := [(.long q1), (.long j379)]) (rest := []) (W := 0) (a := b391) X395 C (rmJ l Z a0 hw b391 q1 j379 v0 t0 h389 n0 hz393 ga_b391 A_0 (Nat.le_trans (kht_le _) (Nat.le_trans L_0 (by decide))) R_0 N_0 G_0 S_0 (Nat.le_trans L_0 (by decide)) O_b391 []) O_b391.1 (hw _ (List.mem_of_getElem? (i := 9) rfl)) (hw _ (List.mem_of_getElem? (i := 10) rfl)) (hw _ (List.mem_of_getElem? (i := 12) rfl)) (hw _ (List.mem_of_getElem? (i := 11) rfl)) (hw _ (List.mem_of_getElem? (i := 2) rfl)) (hw _ (List.mem_of_getElem? (i := 13) rfl)) (by decide) pd_5 rfl rfl rfl rfl rfl (by decide) (by decide) (by decide) (by decide) at_115 rfl (fun r402 T399 h401 hQ403 X400 => ?_)
      obtain ⟨rfl, t1, v1, O_b391, R_1, N_1, G_1, A_1, I_1, K_1⟩ := hQ403
      have S_1 : ksorted (kin t1) := by rw [I_1]; exact kinz_sorted S_0
      have L_1 : (kin t1).length ≤ 1 := by rw [I_1]; exact Nat.le_trans (kinz_len _ _ _) (Nat.succ_le_succ L_0)
      have hz404 : Lo n0 h401.size := Lo.keep hz393 K_1
      show Go p e below RS T399 (mkF m 118 #[.val (.long q1), .second, .val (.long q2), .second, .val (.long q3), .second, .val (.long q4), .second, .val (.int p5), .val (.long j379), .second, .val (.long j380), .second, .val (.long j381), .second, .val (.int i382), .val (.int i384), .val (.long j385), .second, .val (.ref b391), .unset, .unset, .unset, .unset] [])
      refine g_aload X400 C at_118 rfl rfl rfl ?_
      refine g_lloadN X400 C at_120 rfl rfl ?_
      refine g_lload X400 C at_121 rfl rfl ?_
      refine g_virtual (argsL := [(.long q2), (.long j380)]) (rest := []) (W := 0) (a := b391) X400 C (rmJ l Z a0 hw b391 q2 j380 v1 t1 h401 n0 hz404 ga_b391 A_1 (Nat.le_trans (kht_le _) (Nat.le_trans L_1 (by decide))) R_1 N_1 G_1 S_1 (Nat.le_trans L_1 (by decide)) O_b391 []) O_b391.1 (hw _ (List.mem_of_getElem? (i := 9) rfl)) (hw _ (List.mem_of_getElem? (i := 10) rfl)) (hw _ (List.mem_of_getElem? (i := 12) rfl)) (hw _ (List.mem_of_getElem? (i := 11) rfl)) (hw _ (List.mem_of_getElem? (i := 2) rfl)) (hw _ (List.mem_of_getElem? (i := 13) rfl)) (by decide) pd_5 rfl rfl rfl rfl rfl (by decide) (by decide) (by decide) (by decide) at_123 rfl (fun r408 T405 h407 hQ409 X406 => ?_)
      obtain ⟨rfl, t2, v2, O_b391, R_2, N_2, G_2, A_2, I_2, K_2⟩ := hQ409
      have S_2 : ksorted (kin t2) := by rw [I_2]; exact kinz_sorted S_1
      have L_2 : (kin t2).length ≤ 2 := by rw [I_2]; exact Nat.le_trans (kinz_len _ _ _) (Nat.succ_le_succ L_1)
      have hz410 : Lo n0 h407.size := Lo.keep hz404 K_2
      show Go p e below RS T405 (mkF m 126 #[.val (.long q1), .second, .val (.long q2), .second, .val (.long q3), .second, .val (.long q4), .second, .val (.int p5), .val (.long j379), .second, .val (.long j380), .second, .val (.long j381), .second, .val (.int i382), .val (.int i384), .val (.long j385), .second, .val (.ref b391), .unset, .unset, .unset, .unset] [])
      refine g_aload X406 C at_126 rfl rfl rfl ?_
      refine g_lload X406 C at_128 rfl rfl ?_
      refine g_lload X406 C at_130 rfl rfl ?_
      refine g_virtual (argsL := [(.long q3), (.long j381)]) (rest := []) (W := 0) (a := b391) X406 C (rmJ l Z a0 hw b391 q3 j381 v2 t2 h407 n0 hz410 ga_b391 A_2 (Nat.le_trans (kht_le _) (Nat.le_trans L_2 (by decide))) R_2 N_2 G_2 S_2 (Nat.le_trans L_2 (by decide)) O_b391 []) O_b391.1 (hw _ (List.mem_of_getElem? (i := 9) rfl)) (hw _ (List.mem_of_getElem? (i := 10) rfl)) (hw _ (List.mem_of_getElem? (i := 12) rfl)) (hw _ (List.mem_of_getElem? (i := 11) rfl)) (hw _ (List.mem_of_getElem? (i := 2) rfl)) (hw _ (List.mem_of_getElem? (i := 13) rfl)) (by decide) pd_5 rfl rfl rfl rfl rfl (by decide) (by decide) (by decide) (by decide) at_132 rfl (fun r414 T411 h413 hQ415 X412 => ?_)
      obtain ⟨rfl, t3, v3, O_b391, R_3, N_3, G_3, A_3, I_3, K_3⟩ := hQ415
      have S_3 : ksorted (kin t3) := by rw [I_3]; exact kinz_sorted S_2
      have L_3 : (kin t3).length ≤ 3 := by rw [I_3]; exact Nat.le_trans (kinz_len _ _ _) (Nat.succ_le_succ L_2)
      have hz416 : Lo n0 h413.size := Lo.keep hz410 K_3
      show Go p e below RS T411 (mkF m 135 #[.val (.long q1), .second, .val (.long q2), .second, .val (.long q3), .second, .val (.long q4), .second, .val (.int p5), .val (.long j379), .second, .val (.long j380), .second, .val (.long j381), .second, .val (.int i382), .val (.int i384), .val (.long j385), .second, .val (.ref b391), .unset, .unset, .unset, .unset] [])
      refine g_iload X412 C at_135 rfl rfl ?_
      refine g_if_eq (a := i382.toInt) X412 C at_137 rfl (by decide) (pT := 149) (by decide) (pF := 140) rfl (fun hc137 => ?_) (fun hc137 => ?_)
      ·
        refine g_aload X412 C at_149 rfl rfl rfl ?_
        refine g_lload X412 C at_151 rfl rfl ?_
        refine g_virtual (argsL := [(.long j385)]) (rest := []) (W := 0) (a := b391) X412 C (rmCO l Z a0 hw b391 j385 v3 t3 h413 n0 hz416 R_3 S_3 O_b391 []) O_b391.1 (hw _ (List.mem_of_getElem? (i := 61) rfl)) (hw _ (List.mem_of_getElem? (i := 62) rfl)) (hw _ (List.mem_of_getElem? (i := 64) rfl)) (hw _ (List.mem_of_getElem? (i := 63) rfl)) (hw _ (List.mem_of_getElem? (i := 2) rfl)) (hw _ (List.mem_of_getElem? (i := 65) rfl)) (by decide) pd_8 rfl rfl rfl rfl rfl (by decide) (by decide) (by decide) (by decide) at_153 rfl (fun r420 T417 h419 hQ421 X418 => ?_)
        obtain ⟨rfl, hh⟩ := hQ421; rw [hh] at X418
        have hs_j385 : kget j385 (kin t3) = own_ex j385 q1 q2 q3 j379 j380 j381 i382 := by rw [I_3, kget_ins _ _ _ S_2, I_2, kget_ins _ _ _ S_1, I_1, kget_ins _ _ _ S_0, I_0]; exact own_keep j385 q1 q2 q3 j379 j380 j381 i382 (by omega)
        rw [hs_j385]
        show Go p e below RS T417 (mkF m 156 #[.val (.long q1), .second, .val (.long q2), .second, .val (.long q3), .second, .val (.long q4), .second, .val (.int p5), .val (.long j379), .second, .val (.long j380), .second, .val (.long j381), .second, .val (.int i382), .val (.int i384), .val (.long j385), .second, .val (.ref b391), .unset, .unset, .unset, .unset] [(.long (own_ex j385 q1 q2 q3 j379 j380 j381 i382))])
        obtain ⟨j422, h_j422⟩ : ∃ z, z = (own_ex j385 q1 q2 q3 j379 j380 j381 i382) := ⟨_, rfl⟩
        refine g_lstore (L' := #[.val (.long q1), .second, .val (.long q2), .second, .val (.long q3), .second, .val (.long q4), .second, .val (.int p5), .val (.long j379), .second, .val (.long j380), .second, .val (.long j381), .second, .val (.int i382), .val (.int i384), .val (.long j385), .second, .val (.ref b391), .val (.long j422), .second, .unset, .unset]) X418 C at_156 h_j422 rfl rfl ?_
        refine g_aload X418 C at_158 rfl rfl rfl ?_
        refine g_lload X418 C at_160 rfl rfl ?_
        refine g_virtual (argsL := [(.long q4)]) (rest := []) (W := 0) (a := b391) X418 C (rmCO l Z a0 hw b391 q4 v3 t3 h413 n0 hz416 R_3 S_3 O_b391 []) O_b391.1 (hw _ (List.mem_of_getElem? (i := 61) rfl)) (hw _ (List.mem_of_getElem? (i := 62) rfl)) (hw _ (List.mem_of_getElem? (i := 64) rfl)) (hw _ (List.mem_of_getElem? (i := 63) rfl)) (hw _ (List.mem_of_getElem? (i := 2) rfl)) (hw _ (List.mem_of_getElem? (i := 65) rfl)) (by decide) pd_8 rfl rfl rfl rfl rfl (by decide) (by decide) (by decide) (by decide) at_162 rfl (fun r426 T423 h425 hQ427 X424 => ?_)
        obtain ⟨rfl, hh⟩ := hQ427; rw [hh] at X424
        have hs_q4 : kget q4 (kin t3) = own_ex q4 q1 q2 q3 j379 j380 j381 i382 := by rw [I_3, kget_ins _ _ _ S_2, I_2, kget_ins _ _ _ S_1, I_1, kget_ins _ _ _ S_0, I_0]; exact own_keep q4 q1 q2 q3 j379 j380 j381 i382 (by omega)
        rw [hs_q4]
        show Go p e below RS T423 (mkF m 165 #[.val (.long q1), .second, .val (.long q2), .second, .val (.long q3), .second, .val (.long q4), .second, .val (.int p5), .val (.long j379), .second, .val (.long j380), .second, .val (.long j381), .second, .val (.int i382), .val (.int i384), .val (.long j385), .second, .val (.ref b391), .val (.long j422), .second, .unset, .unset] [(.long (own_ex q4 q1 q2 q3 j379 j380 j381 i382))])
        obtain ⟨j428, h_j428⟩ : ∃ z, z = (own_ex q4 q1 q2 q3 j379 j380 j381 i382) := ⟨_, rfl⟩
        refine g_lstore (L' := #[.val (.long q1), .second, .val (.long q2), .second, .val (.long q3), .second, .val (.long q4), .second, .val (.int p5), .val (.long j379), .second, .val (.long j380), .second, .val (.long j381), .second, .val (.int i382), .val (.int i384), .val (.long j385), .second, .val (.ref b391), .val (.long j422), .second, .val (.long j428), .second]) X424 C at_165 h_j428 rfl rfl ?_
        refine g_lload X424 C at_167 rfl rfl ?_
        refine g_lload X424 C at_169 rfl rfl ?_
        refine g_lloadN X424 C at_171 rfl rfl ?_
        refine g_lloadN X424 C at_172 rfl rfl ?_
        refine g_lload X424 C at_173 rfl rfl ?_
        refine g_lload X424 C at_175 rfl rfl ?_
        refine g_lload X424 C at_177 rfl rfl ?_
        refine g_lload X424 C at_179 rfl rfl ?_
        refine g_iload X424 C at_181 rfl rfl ?_
        refine g_static (argsL := [(.long j385), (.long q1), (.long q2), (.long q3), (.long j379), (.long j380), (.long j381), (.int i382)]) (rest := [(.long j422)]) (W := 2) X424 C (rmE l Z a0 hw j385 q1 q2 q3 j379 j380 j381 i382 h413 n0 hz416 []) (hw _ (List.mem_of_getElem? (i := 66) rfl)) (hw _ (List.mem_of_getElem? (i := 67) rfl)) (hw _ (List.mem_of_getElem? (i := 68) rfl)) (hw _ (List.mem_of_getElem? (i := 69) rfl)) (by decide) pd_9 rfl rfl rfl rfl rfl (by decide) (by decide) (by decide) (by decide) at_183 rfl (fun r432 T429 h431 hQ433 X430 => ?_)
        obtain ⟨rfl, hh⟩ := hQ433; rw [hh] at X430
        show Go p e below RS T429 (mkF m 186 #[.val (.long q1), .second, .val (.long q2), .second, .val (.long q3), .second, .val (.long q4), .second, .val (.int p5), .val (.long j379), .second, .val (.long j380), .second, .val (.long j381), .second, .val (.int i382), .val (.int i384), .val (.long j385), .second, .val (.ref b391), .val (.long j422), .second, .val (.long j428), .second] [(.long (own_ex j385 q1 q2 q3 j379 j380 j381 i382)), (.long j422)])
        refine g_lcmp X430 C at_186 rfl ?_
        have hsame : (j422).toInt = ((own_ex j385 q1 q2 q3 j379 j380 j381 i382)).toInt := by rw [h_j422]
        refine g_lif_ne (a := j422.toInt) (b := (own_ex j385 q1 q2 q3 j379 j380 j381 i382).toInt) X430 C at_187 rfl rfl (by decide) (pT := 217) (by decide) (pF := 190) rfl (fun hc187 => absurd hc187 (fun q => q hsame)) (fun hc187 => ?_)
        refine g_lload X430 C at_190 rfl rfl ?_
        refine g_lload X430 C at_192 rfl rfl ?_
        refine g_lloadN X430 C at_194 rfl rfl ?_
        refine g_lloadN X430 C at_195 rfl rfl ?_
        refine g_lload X430 C at_196 rfl rfl ?_
        refine g_lload X430 C at_198 rfl rfl ?_
        refine g_lload X430 C at_200 rfl rfl ?_
        refine g_lload X430 C at_202 rfl rfl ?_
        refine g_iload X430 C at_204 rfl rfl ?_
        refine g_static (argsL := [(.long q4), (.long q1), (.long q2), (.long q3), (.long j379), (.long j380), (.long j381), (.int i382)]) (rest := [(.long j428)]) (W := 2) X430 C (rmE l Z a0 hw q4 q1 q2 q3 j379 j380 j381 i382 h413 n0 hz416 []) (hw _ (List.mem_of_getElem? (i := 66) rfl)) (hw _ (List.mem_of_getElem? (i := 67) rfl)) (hw _ (List.mem_of_getElem? (i := 68) rfl)) (hw _ (List.mem_of_getElem? (i := 69) rfl)) (by decide) pd_9 rfl rfl rfl rfl rfl (by decide) (by decide) (by decide) (by decide) at_206 rfl (fun r437 T434 h436 hQ438 X435 => ?_)
        obtain ⟨rfl, hh⟩ := hQ438; rw [hh] at X435
        show Go p e below RS T434 (mkF m 209 #[.val (.long q1), .second, .val (.long q2), .second, .val (.long q3), .second, .val (.long q4), .second, .val (.int p5), .val (.long j379), .second, .val (.long j380), .second, .val (.long j381), .second, .val (.int i382), .val (.int i384), .val (.long j385), .second, .val (.ref b391), .val (.long j422), .second, .val (.long j428), .second] [(.long (own_ex q4 q1 q2 q3 j379 j380 j381 i382)), (.long j428)])
        refine g_lcmp X435 C at_209 rfl ?_
        have hsame : (j428).toInt = ((own_ex q4 q1 q2 q3 j379 j380 j381 i382)).toInt := by rw [h_j428]
        refine g_lif_ne (a := j428.toInt) (b := (own_ex q4 q1 q2 q3 j379 j380 j381 i382).toInt) X435 C at_210 rfl rfl (by decide) (pT := 217) (by decide) (pF := 213) rfl (fun hc210 => absurd hc210 (fun q => q hsame)) (fun hc210 => ?_)
        refine g_iconst (v := 1) X435 C at_213 (by decide) rfl ?_
        refine g_goto (pc' := 218) X435 C at_214 (by decide) (by decide) ?_
        rw [hRS]
        refine g_retZ X435 C at_218 ?_ (by decide) (by decide)
        exact rfl
      ·
        refine g_aload X412 C at_140 rfl rfl rfl ?_
        refine g_lloadN X412 C at_142 rfl rfl ?_
        refine g_lload X412 C at_143 rfl rfl ?_
        refine g_lneg X412 C at_145 rfl ?_
        refine g_virtual (argsL := [(.long q1), (.long (-j379))]) (rest := []) (W := 0) (a := b391) X412 C (rmJ l Z a0 hw b391 q1 (-j379) v3 t3 h413 n0 hz416 ga_b391 A_3 (Nat.le_trans (kht_le _) (Nat.le_trans L_3 (by decide))) R_3 N_3 G_3 S_3 (Nat.le_trans L_3 (by decide)) O_b391 []) O_b391.1 (hw _ (List.mem_of_getElem? (i := 9) rfl)) (hw _ (List.mem_of_getElem? (i := 10) rfl)) (hw _ (List.mem_of_getElem? (i := 12) rfl)) (hw _ (List.mem_of_getElem? (i := 11) rfl)) (hw _ (List.mem_of_getElem? (i := 2) rfl)) (hw _ (List.mem_of_getElem? (i := 13) rfl)) (by decide) pd_5 rfl rfl rfl rfl rfl (by decide) (by decide) (by decide) (by decide) at_146 rfl (fun r442 T439 h441 hQ443 X440 => ?_)
        obtain ⟨rfl, t4, v4, O_b391, R_4, N_4, G_4, A_4, I_4, K_4⟩ := hQ443
        have S_4 : ksorted (kin t4) := by rw [I_4]; exact kinz_sorted S_3
        have L_4 : (kin t4).length ≤ 4 := by rw [I_4]; exact Nat.le_trans (kinz_len _ _ _) (Nat.succ_le_succ L_3)
        have hz444 : Lo n0 h441.size := Lo.keep hz416 K_4
        show Go p e below RS T439 (mkF m 149 #[.val (.long q1), .second, .val (.long q2), .second, .val (.long q3), .second, .val (.long q4), .second, .val (.int p5), .val (.long j379), .second, .val (.long j380), .second, .val (.long j381), .second, .val (.int i382), .val (.int i384), .val (.long j385), .second, .val (.ref b391), .unset, .unset, .unset, .unset] [])
        refine g_aload X440 C at_149 rfl rfl rfl ?_
        refine g_lload X440 C at_151 rfl rfl ?_
        refine g_virtual (argsL := [(.long j385)]) (rest := []) (W := 0) (a := b391) X440 C (rmCO l Z a0 hw b391 j385 v4 t4 h441 n0 hz444 R_4 S_4 O_b391 []) O_b391.1 (hw _ (List.mem_of_getElem? (i := 61) rfl)) (hw _ (List.mem_of_getElem? (i := 62) rfl)) (hw _ (List.mem_of_getElem? (i := 64) rfl)) (hw _ (List.mem_of_getElem? (i := 63) rfl)) (hw _ (List.mem_of_getElem? (i := 2) rfl)) (hw _ (List.mem_of_getElem? (i := 65) rfl)) (by decide) pd_8 rfl rfl rfl rfl rfl (by decide) (by decide) (by decide) (by decide) at_153 rfl (fun r448 T445 h447 hQ449 X446 => ?_)
        obtain ⟨rfl, hh⟩ := hQ449; rw [hh] at X446
        have hs_j385 : kget j385 (kin t4) = own_ex j385 q1 q2 q3 j379 j380 j381 i382 := by rw [I_4, kget_ins _ _ _ S_3, I_3, kget_ins _ _ _ S_2, I_2, kget_ins _ _ _ S_1, I_1, kget_ins _ _ _ S_0, I_0]; exact own_drop j385 q1 q2 q3 j379 j380 j381 i382 (by omega)
        rw [hs_j385]
        show Go p e below RS T445 (mkF m 156 #[.val (.long q1), .second, .val (.long q2), .second, .val (.long q3), .second, .val (.long q4), .second, .val (.int p5), .val (.long j379), .second, .val (.long j380), .second, .val (.long j381), .second, .val (.int i382), .val (.int i384), .val (.long j385), .second, .val (.ref b391), .unset, .unset, .unset, .unset] [(.long (own_ex j385 q1 q2 q3 j379 j380 j381 i382))])
        obtain ⟨j450, h_j450⟩ : ∃ z, z = (own_ex j385 q1 q2 q3 j379 j380 j381 i382) := ⟨_, rfl⟩
        refine g_lstore (L' := #[.val (.long q1), .second, .val (.long q2), .second, .val (.long q3), .second, .val (.long q4), .second, .val (.int p5), .val (.long j379), .second, .val (.long j380), .second, .val (.long j381), .second, .val (.int i382), .val (.int i384), .val (.long j385), .second, .val (.ref b391), .val (.long j450), .second, .unset, .unset]) X446 C at_156 h_j450 rfl rfl ?_
        refine g_aload X446 C at_158 rfl rfl rfl ?_
        refine g_lload X446 C at_160 rfl rfl ?_
        refine g_virtual (argsL := [(.long q4)]) (rest := []) (W := 0) (a := b391) X446 C (rmCO l Z a0 hw b391 q4 v4 t4 h441 n0 hz444 R_4 S_4 O_b391 []) O_b391.1 (hw _ (List.mem_of_getElem? (i := 61) rfl)) (hw _ (List.mem_of_getElem? (i := 62) rfl)) (hw _ (List.mem_of_getElem? (i := 64) rfl)) (hw _ (List.mem_of_getElem? (i := 63) rfl)) (hw _ (List.mem_of_getElem? (i := 2) rfl)) (hw _ (List.mem_of_getElem? (i := 65) rfl)) (by decide) pd_8 rfl rfl rfl rfl rfl (by decide) (by decide) (by decide) (by decide) at_162 rfl (fun r454 T451 h453 hQ455 X452 => ?_)
        obtain ⟨rfl, hh⟩ := hQ455; rw [hh] at X452
        have hs_q4 : kget q4 (kin t4) = own_ex q4 q1 q2 q3 j379 j380 j381 i382 := by rw [I_4, kget_ins _ _ _ S_3, I_3, kget_ins _ _ _ S_2, I_2, kget_ins _ _ _ S_1, I_1, kget_ins _ _ _ S_0, I_0]; exact own_drop q4 q1 q2 q3 j379 j380 j381 i382 (by omega)
        rw [hs_q4]
        show Go p e below RS T451 (mkF m 165 #[.val (.long q1), .second, .val (.long q2), .second, .val (.long q3), .second, .val (.long q4), .second, .val (.int p5), .val (.long j379), .second, .val (.long j380), .second, .val (.long j381), .second, .val (.int i382), .val (.int i384), .val (.long j385), .second, .val (.ref b391), .val (.long j450), .second, .unset, .unset] [(.long (own_ex q4 q1 q2 q3 j379 j380 j381 i382))])
        obtain ⟨j456, h_j456⟩ : ∃ z, z = (own_ex q4 q1 q2 q3 j379 j380 j381 i382) := ⟨_, rfl⟩
        refine g_lstore (L' := #[.val (.long q1), .second, .val (.long q2), .second, .val (.long q3), .second, .val (.long q4), .second, .val (.int p5), .val (.long j379), .second, .val (.long j380), .second, .val (.long j381), .second, .val (.int i382), .val (.int i384), .val (.long j385), .second, .val (.ref b391), .val (.long j450), .second, .val (.long j456), .second]) X452 C at_165 h_j456 rfl rfl ?_
        refine g_lload X452 C at_167 rfl rfl ?_
        refine g_lload X452 C at_169 rfl rfl ?_
        refine g_lloadN X452 C at_171 rfl rfl ?_
        refine g_lloadN X452 C at_172 rfl rfl ?_
        refine g_lload X452 C at_173 rfl rfl ?_
        refine g_lload X452 C at_175 rfl rfl ?_
        refine g_lload X452 C at_177 rfl rfl ?_
        refine g_lload X452 C at_179 rfl rfl ?_
        refine g_iload X452 C at_181 rfl rfl ?_
        refine g_static (argsL := [(.long j385), (.long q1), (.long q2), (.long q3), (.long j379), (.long j380), (.long j381), (.int i382)]) (rest := [(.long j450)]) (W := 2) X452 C (rmE l Z a0 hw j385 q1 q2 q3 j379 j380 j381 i382 h441 n0 hz444 []) (hw _ (List.mem_of_getElem? (i := 66) rfl)) (hw _ (List.mem_of_getElem? (i := 67) rfl)) (hw _ (List.mem_of_getElem? (i := 68) rfl)) (hw _ (List.mem_of_getElem? (i := 69) rfl)) (by decide) pd_9 rfl rfl rfl rfl rfl (by decide) (by decide) (by decide) (by decide) at_183 rfl (fun r460 T457 h459 hQ461 X458 => ?_)
        obtain ⟨rfl, hh⟩ := hQ461; rw [hh] at X458
        show Go p e below RS T457 (mkF m 186 #[.val (.long q1), .second, .val (.long q2), .second, .val (.long q3), .second, .val (.long q4), .second, .val (.int p5), .val (.long j379), .second, .val (.long j380), .second, .val (.long j381), .second, .val (.int i382), .val (.int i384), .val (.long j385), .second, .val (.ref b391), .val (.long j450), .second, .val (.long j456), .second] [(.long (own_ex j385 q1 q2 q3 j379 j380 j381 i382)), (.long j450)])
        refine g_lcmp X458 C at_186 rfl ?_
        have hsame : (j450).toInt = ((own_ex j385 q1 q2 q3 j379 j380 j381 i382)).toInt := by rw [h_j450]
        refine g_lif_ne (a := j450.toInt) (b := (own_ex j385 q1 q2 q3 j379 j380 j381 i382).toInt) X458 C at_187 rfl rfl (by decide) (pT := 217) (by decide) (pF := 190) rfl (fun hc187 => absurd hc187 (fun q => q hsame)) (fun hc187 => ?_)
        refine g_lload X458 C at_190 rfl rfl ?_
        refine g_lload X458 C at_192 rfl rfl ?_
        refine g_lloadN X458 C at_194 rfl rfl ?_
        refine g_lloadN X458 C at_195 rfl rfl ?_
        refine g_lload X458 C at_196 rfl rfl ?_
        refine g_lload X458 C at_198 rfl rfl ?_
        refine g_lload X458 C at_200 rfl rfl ?_
        refine g_lload X458 C at_202 rfl rfl ?_
        refine g_iload X458 C at_204 rfl rfl ?_
        refine g_static (argsL := [(.long q4), (.long q1), (.long q2), (.long q3), (.long j379), (.long j380), (.long j381), (.int i382)]) (rest := [(.long j456)]) (W := 2) X458 C (rmE l Z a0 hw q4 q1 q2 q3 j379 j380 j381 i382 h441 n0 hz444 []) (hw _ (List.mem_of_getElem? (i := 66) rfl)) (hw _ (List.mem_of_getElem? (i := 67) rfl)) (hw _ (List.mem_of_getElem? (i := 68) rfl)) (hw _ (List.mem_of_getElem? (i := 69) rfl)) (by decide) pd_9 rfl rfl rfl rfl rfl (by decide) (by decide) (by decide) (by decide) at_206 rfl (fun r465 T462 h464 hQ466 X463 => ?_)
        obtain ⟨rfl, hh⟩ := hQ466; rw [hh] at X463
        show Go p e below RS T462 (mkF m 209 #[.val (.long q1), .second, .val (.long q2), .second, .val (.long q3), .second, .val (.long q4), .second, .val (.int p5), .val (.long j379), .second, .val (.long j380), .second, .val (.long j381), .second, .val (.int i382), .val (.int i384), .val (.long j385), .second, .val (.ref b391), .val (.long j450), .second, .val (.long j456), .second] [(.long (own_ex q4 q1 q2 q3 j379 j380 j381 i382)), (.long j456)])
        refine g_lcmp X463 C at_209 rfl ?_
        have hsame : (j456).toInt = ((own_ex q4 q1 q2 q3 j379 j380 j381 i382)).toInt := by rw [h_j456]
        refine g_lif_ne (a := j456.toInt) (b := (own_ex q4 q1 q2 q3 j379 j380 j381 i382).toInt) X463 C at_210 rfl rfl (by decide) (pT := 217) (by decide) (pF := 213) rfl (fun hc210 => absurd hc210 (fun q => q hsame)) (fun hc210 => ?_)
        refine g_iconst (v := 1) X463 C at_213 (by decide) rfl ?_
        refine g_goto (pc' := 218) X463 C at_214 (by decide) (by decide) ?_
        rw [hRS]
        refine g_retZ X463 C at_218 ?_ (by decide) (by decide)
        exact rfl
    refine g_if_ne (a := i384.toInt) X0 C at_63 rfl (by decide) (pT := 72) (by decide) (pF := 66) rfl (fun hc63 => ?_) (fun hc63 => ?_)
    ·
      refine g_iload X0 C at_72 rfl rfl ?_
      refine g_iconst (v := 1) X0 C at_74 (by decide) rfl ?_
      refine g_icmp_ne (a := i384.toInt) (b := 1) X0 C at_75 rfl (by decide) (by decide) (pT := 84) (by decide) (pF := 78) rfl (fun hc75 => ?_) (fun hc75 => ?_)
      ·
        refine g_iload X0 C at_84 rfl rfl ?_
        refine g_iconst (v := 2) X0 C at_86 (by decide) rfl ?_
        refine g_icmp_ne (a := i384.toInt) (b := 2) X0 C at_87 rfl (by decide) (by decide) (pT := 97) (by decide) (pF := 90) rfl (fun hc87 => ?_) (fun hc87 => ?_)
        ·
          refine g_lload X0 C at_97 rfl rfl ?_
          refine g_lstore (L' := #[.val (.long q1), .second, .val (.long q2), .second, .val (.long q3), .second, .val (.long q4), .second, .val (.int p5), .val (.long j379), .second, .val (.long j380), .second, .val (.long j381), .second, .val (.int i382), .val (.int i384), .val (.long q4), .second, .unset, .unset, .unset, .unset, .unset]) X0 C at_99 rfl rfl rfl ?_
          exact J101_385 q4 (Or.inl (⟨hc63, hc75, hc87, rfl⟩))
        ·
          refine g_lload X0 C at_90 rfl rfl ?_
          refine g_lstore (L' := #[.val (.long q1), .second, .val (.long q2), .second, .val (.long q3), .second, .val (.long q4), .second, .val (.int p5), .val (.long j379), .second, .val (.long j380), .second, .val (.long j381), .second, .val (.int i382), .val (.int i384), .val (.long q3), .second, .unset, .unset, .unset, .unset, .unset]) X0 C at_92 rfl rfl rfl ?_
          refine g_goto (pc' := 101) X0 C at_94 (by decide) (by decide) ?_
          exact J101_385 q3 (Or.inr (Or.inl (⟨hc63, hc75, hc87, rfl⟩)))
      ·
        refine g_lloadN X0 C at_78 rfl rfl ?_
        refine g_lstore (L' := #[.val (.long q1), .second, .val (.long q2), .second, .val (.long q3), .second, .val (.long q4), .second, .val (.int p5), .val (.long j379), .second, .val (.long j380), .second, .val (.long j381), .second, .val (.int i382), .val (.int i384), .val (.long q2), .second, .unset, .unset, .unset, .unset, .unset]) X0 C at_79 rfl rfl rfl ?_
        refine g_goto (pc' := 101) X0 C at_81 (by decide) (by decide) ?_
        exact J101_385 q2 (Or.inr (Or.inr (Or.inl (⟨hc63, hc75, rfl⟩))))
    ·
      refine g_lloadN X0 C at_66 rfl rfl ?_
      refine g_lstore (L' := #[.val (.long q1), .second, .val (.long q2), .second, .val (.long q3), .second, .val (.long q4), .second, .val (.int p5), .val (.long j379), .second, .val (.long j380), .second, .val (.long j381), .second, .val (.int i382), .val (.int i384), .val (.long q1), .second, .unset, .unset, .unset, .unset, .unset]) X0 C at_67 rfl rfl rfl ?_
      refine g_goto (pc' := 101) X0 C at_69 (by decide) (by decide) ?_
      exact J101_385 q1 (Or.inr (Or.inr (Or.inr (⟨hc63, rfl⟩))))
  refine g_if_eq (a := (((p5.toUInt32 >>> ((9 : Int32) &&& 31).toUInt32).toInt32) &&& (1 : Int32)).toInt) X0 C at_42 rfl (by decide) (pT := 49) (by decide) (pF := 45) rfl (fun hc42 => ?_) (fun hc42 => ?_)
  ·
    refine g_iconst (v := 0) X0 C at_49 (by decide) rfl ?_
    exact J50_382 (0 : Int32) (Or.inl (⟨hc42, rfl, by decide⟩))
  ·
    refine g_iconst (v := 1) X0 C at_45 (by decide) rfl ?_
    refine g_goto (pc' := 50) X0 C at_46 (by decide) (by decide) ?_
    exact J50_382 (1 : Int32) (Or.inr (⟨hc42, rfl, by decide⟩))
set_option maxRecDepth 65536 in
set_option maxHeartbeats 40000000 in
theorem comes_1 {Post : Tables → Env → Array Value → State → Outcome → State → Prop} (hpost : ∀ tb e args s v u, (limb_1_1.after args s (.returned v) u = true ∧ limb_1_2.after args s (.returned v) u = true ∧ True) → FrameEnd s (.returned v) u (Jvm.fieldLocs frame_1_writes args s ++ Jvm.arrayLocs frame_1_arrays args s ++ Jvm.staticLocs frame_1_statics s) 16 128 → Post tb e args s (.returned v) u) :
    ArmFor flags0 classFile x code maxLocals ret World_1 tables_1 room_1 Calls_1 rest_1 Pre_1 Post := by
  intro l hfl _ _ p e ha hc hk s m args below hf hA hF happ hP
  obtain ⟨hcalls, hrest, hpre⟩ := hP
  obtain ⟨-, -, -, hnamed, -, -, -, hat⟩ := (Spec.applies_iff hf).mp happ
  obtain ⟨hg, hn⟩ := and_e (Cond.before_iff.mp (show (Jvm.Cond.and given_1 narrow_1).before args s = true from hpre))
  obtain ⟨h1, h2⟩ := and_e hg
  obtain ⟨w0, w1, w2, w3, w4, rfl⟩ : ∃ w0 w1 w2 w3 w4 : Value, args = #[w0, w1, w2, w3, w4] := by
    have hs : args.size = 5 := by simpa [Cond.value, given_1] using h1
    obtain ⟨L⟩ := args
    match L, hs with
    | [w0, w1, w2, w3, w4], _ => exact ⟨w0, w1, w2, w3, w4, rfl⟩
  have hw := fun d (hd : d ∈ tables_1) => atoms_spec (ws := Jvm.Cond.code x code maxLocals ret :: tables_1) hat d (List.mem_cons_of_mem _ hd)
  obtain ⟨g0, r0⟩ := and_e h2
  obtain ⟨k0, e0⟩ := isL_v g0
  obtain rfl : w0 = (.long k0) := Option.some.inj e0
  obtain ⟨g1, r1⟩ := and_e r0
  obtain ⟨k1, e1⟩ := isL_v g1
  obtain rfl : w1 = (.long k1) := Option.some.inj e1
  obtain ⟨g2, r2⟩ := and_e r1
  obtain ⟨k2, e2⟩ := isL_v g2
  obtain rfl : w2 = (.long k2) := Option.some.inj e2
  obtain ⟨g3, r3⟩ := and_e r2
  obtain ⟨k3, e3⟩ := isL_v g3
  obtain rfl : w3 = (.long k3) := Option.some.inj e3
  obtain ⟨k4, e4⟩ := is_v r3
  obtain rfl : w4 = (.int k4) := Option.some.inj e4
  obtain ⟨n, o, h1, h2, h3, _, L, rfl, ⟨rfl, N⟩, hq⟩ := rm0 l s _ hw k0 k1 k2 k3 k4 s.heap s.heap.size (show Lo s.heap.size s.heap.size from Nat.le_refl _) tables_1 p e ha hc hk s m _ below hf ((Spec.applies_iff_loose hf).mp happ).1 ⟨rfl, State.Warmed39.refl s, rfl⟩ trivial
  refine ⟨n, _, h1, h2, h3, hpost _ _ _ _ _ _ ⟨Cond.after_iff.mpr rfl, Cond.after_iff.mpr (eq_i res_at (Term.int_eval (1)) rfl), trivial⟩ ⟨hq.1, hq.2.1, (hq.2.2.sift fun y hy => Or.inr (N y hy)).mono (by decide) (by decide)⟩⟩
theorem main_1_1 : Claimed_1_1 := comes_1 fun _ _ _ _ _ _ h hF => ⟨h.1, hF⟩
theorem main_1_2 : Claimed_1_2 := comes_1 fun _ _ _ _ _ _ h hF => ⟨h.2.1, hF⟩
end Jvm.Pilot.@@N@@
namespace Jvm.Pilot.@@N@@
open Jvm Jvm.ClassFile Sem Op Lib Jvm.Free Jvm.Stand Jvm.Pilot.@@N@@.Jvm.D
/-! MADE BY PROGRAM (witnessworld.py) out of the Statement's table words and the real class files: 11 classes; the members and pool entries that the words name. The judged class is class 1, her method 1. -/
namespace start1
open Jvm.ClassFile
def u (s : String) : CpInfo := .utf8 (stringToUtf16 s)
/-- a pool by its gaps: so many unusable entries, then the entry; so many at the end -/
def gap : Nat → List CpInfo → List CpInfo
  | 0, r => r
  | n + 1, r => .unusable :: gap n r
def poolList (es : List (Nat × CpInfo)) (last : Nat) : List CpInfo := es.foldr (fun e r => gap e.1 (e.2 :: r)) (gap last [])
def pool (es : List (Nat × CpInfo)) (last : Nat) : Array CpInfo := ⟨poolList es last⟩
def fileOf (pool : Array CpInfo) (this : Nat) (attrs : Array Attribute := #[]) (ms : Array MethodInfo := #[]) (fl : Nat := 33) (sup : Nat := 0) (ifs : Array Nat := #[]) (fds : Array FieldInfo := #[]) : ClassFile where
  minorVersion := 0
  majorVersion := 65
  constantPool := pool
  accessFlags := fl
  thisClass := this
  superClass := sup
  interfaces := ifs
  fields := fds
  methods := ms
  attributes := attrs
def plain (name : String) (sup : Option ClassId) : Class where
  name := name
  kind := .ordinary
  loader := none
  accessFlags := 33
  super := sup
  interfaces := #[]
  cf := none
  fields := #[]
  methods := #[]
  instanceTypes := #[]
  staticTypes := #[]
  resolved := #[]
  callSites := []
  init := .initialized
  statics := none
  mirror := none

def pool0 : Array CpInfo := pool [(5, u "<init>"), (0, u "()V"), (1, .class_ 10), (1, u "java/lang/Object")] 113

def k0c0 : Code := { maxStack := 0, maxLocals := 1, code := object_method_1_code, exceptionTable := #[], attributes := #[] }
def k0m0 : Method := { name := "<init>", desc := "()V", sig := { parameters := [], returnType := none }, accessFlags := 1, code := some k0c0 }
/-- java/lang/Object -/
def k0 : Class := { plain "java/lang/Object" none with
  accessFlags := 33
  interfaces := #[]
  cf := some (fileOf pool0 8 #[] #[{ accessFlags := 1, nameIndex := 5, descriptorIndex := 6, attributes := #[] }] 33 0 #[] #[])
  fields := #[]
  methods := #[k0m0]
  instanceTypes := #[]
  staticTypes := #[]
  resolved := Array.replicate 124 none
  statics := none }

def pool1 : Array CpInfo := pool [(2, .class_ 4), (0, .nameAndType 5 6), (0, u "java/lang/Object"), (0, u "<init>"), (0, u "()V"), (0, .class_ 8), (0, u "com/example/ugello/ugello/service/KeyCounts"), (0, .methodref 7 3), (0, .methodref 7 11), (0, .nameAndType 12 13), (0, u "add"), (0, u "(JJ)V"), (0, .methodref 7 15), (0, .nameAndType 16 17), (0, u "countOf"), (0, u "(J)J"), (0, .methodref 19 20), (0, .class_ 21), (0, .nameAndType 22 23), (0, u "com/example/ugello/ugello/service/KeyCountsCountOfPinLaw"), (0, u "expected"), (0, u "(JJJJJJJZ)J"), (2, u "law"), (0, u "(JJJJI)Z")] 3

def k1m0 : Method := { name := "<init>", desc := "()V", sig := { parameters := [], returnType := none }, accessFlags := 1, code := none }
def k1c1 : Code := { maxStack := 17, maxLocals := 24, code := code, exceptionTable := #[], attributes := #[] }
def k1m1 : Method := { name := "law", desc := "(JJJJI)Z", sig := { parameters := [.long, .long, .long, .long, .int], returnType := some .boolean }, accessFlags := 9, code := some k1c1 }
def k1c2 : Code := { maxStack := 4, maxLocals := 17, code := method_3_code, exceptionTable := #[], attributes := #[] }
def k1m2 : Method := { name := "expected", desc := "(JJJJJJJZ)J", sig := { parameters := [.long, .long, .long, .long, .long, .long, .long, .boolean], returnType := some .long }, accessFlags := 10, code := some k1c2 }
/-- com/example/ugello/ugello/service/KeyCountsCountOfPinLaw -/
def k1 : Class := { plain "com/example/ugello/ugello/service/KeyCountsCountOfPinLaw" (some 0) with
  accessFlags := 49
  interfaces := #[]
  cf := some (fileOf pool1 19 #[] #[{ accessFlags := 1, nameIndex := 5, descriptorIndex := 6, attributes := #[] }, { accessFlags := 9, nameIndex := 26, descriptorIndex := 27, attributes := #[] }, { accessFlags := 10, nameIndex := 22, descriptorIndex := 23, attributes := #[] }] 49 2 #[] #[])
  fields := #[]
  methods := #[k1m0, k1m1, k1m2]
  instanceTypes := #[]
  staticTypes := #[]
  resolved := Array.replicate 31 none
  statics := none }

def pool2 : Array CpInfo := pool [(1, .methodref 2 3), (0, .class_ 4), (0, .nameAndType 5 6), (0, u "java/lang/Object"), (0, u "<init>"), (0, u "()V"), (0, .fieldref 8 9), (0, .class_ 10), (0, .nameAndType 11 12), (0, u "com/example/ugello/ugello/service/KeyCounts"), (0, u "root"), (0, u "Lcom/example/ugello/ugello/service/KeyCounts$Node;"), (0, .methodref 8 14), (0, .nameAndType 15 16), (0, u "add"), (0, u "(Lcom/example/ugello/ugello/service/KeyCounts$Node;JJ)Lcom/example/ugello/ugello/service/KeyCounts$Node;"), (0, .methodref 8 18), (0, .nameAndType 19 20), (0, u "total"), (0, u "(Lcom/example/ugello/ugello/service/KeyCounts$Node;)J"), (0, .fieldref 22 23), (0, .class_ 24), (0, .nameAndType 25 26), (0, u "com/example/ugello/ugello/service/KeyCounts$Node"), (0, u "key"), (0, u "J"), (0, .fieldref 22 28), (0, .nameAndType 29 12), (0, u "left"), (0, .fieldref 22 31), (0, .nameAndType 32 12), (0, u "right"), (0, .fieldref 22 34), (0, .nameAndType 35 26), (0, u "count"), (0, .methodref 22 37), (0, .nameAndType 5 38), (0, u "(JJ)V"), (0, .methodref 8 40), (0, .nameAndType 41 42), (0, u "balance"), (0, u "(Lcom/example/ugello/ugello/service/KeyCounts$Node;)Lcom/example/ugello/ugello/service/KeyCounts$Node;"), (0, .methodref 8 44), (0, .nameAndType 45 42), (0, u "withoutRoot"), (0, .methodref 8 47), (0, .nameAndType 48 42), (0, u "withoutLeftmost"), (0, .methodref 8 50), (0, .nameAndType 51 52), (0, u "update"), (0, u "(Lcom/example/ugello/ugello/service/KeyCounts$Node;)V"), (0, .methodref 8 54), (0, .nameAndType 55 56), (0, u "height"), (0, u "(Lcom/example/ugello/ugello/service/KeyCounts$Node;)I"), (0, .methodref 8 58), (0, .nameAndType 59 42), (0, u "rotateLeft"), (0, .methodref 8 61), (0, .nameAndType 62 42), (0, u "rotateRight"), (0, .methodref 64 65), (0, .class_ 66), (0, .nameAndType 67 68), (0, u "java/lang/Math"), (0, u "max"), (0, u "(II)I"), (0, .fieldref 22 70), (0, .nameAndType 55 71), (0, u "I"), (0, .fieldref 22 73), (0, .nameAndType 19 26), (3, u "countOf"), (0, u "(J)J")] 7

def k2c0 : Code := { maxStack := 1, maxLocals := 1, code := prog_23_method_1_code, exceptionTable := #[], attributes := #[] }
def k2m0 : Method := { name := "<init>", desc := "()V", sig := { parameters := [], returnType := none }, accessFlags := 0, code := some k2c0 }
def k2c1 : Code := { maxStack := 6, maxLocals := 5, code := prog_23_method_2_code, exceptionTable := #[], attributes := #[] }
def k2m1 : Method := { name := "add", desc := "(JJ)V", sig := { parameters := [.long, .long], returnType := none }, accessFlags := 0, code := some k2c1 }
def k2c2 : Code := { maxStack := 4, maxLocals := 4, code := prog_23_method_4_code, exceptionTable := #[], attributes := #[] }
def k2m2 : Method := { name := "countOf", desc := "(J)J", sig := { parameters := [.long], returnType := some .long }, accessFlags := 0, code := some k2c2 }
def k2c3 : Code := { maxStack := 6, maxLocals := 6, code := prog_23_method_6_code, exceptionTable := #[], attributes := #[] }
def k2m3 : Method := { name := "add", desc := "(Lcom/example/ugello/ugello/service/KeyCounts$Node;JJ)Lcom/example/ugello/ugello/service/KeyCounts$Node;", sig := { parameters := [(.object "com/example/ugello/ugello/service/KeyCounts$Node"), .long, .long], returnType := some (.object "com/example/ugello/ugello/service/KeyCounts$Node") }, accessFlags := 10, code := some k2c3 }
def k2c4 : Code := { maxStack := 2, maxLocals := 3, code := prog_23_method_7_code, exceptionTable := #[], attributes := #[] }
def k2m4 : Method := { name := "withoutRoot", desc := "(Lcom/example/ugello/ugello/service/KeyCounts$Node;)Lcom/example/ugello/ugello/service/KeyCounts$Node;", sig := { parameters := [(.object "com/example/ugello/ugello/service/KeyCounts$Node")], returnType := some (.object "com/example/ugello/ugello/service/KeyCounts$Node") }, accessFlags := 10, code := some k2c4 }
def k2c5 : Code := { maxStack := 2, maxLocals := 2, code := prog_23_method_8_code, exceptionTable := #[], attributes := #[] }
def k2m5 : Method := { name := "withoutLeftmost", desc := "(Lcom/example/ugello/ugello/service/KeyCounts$Node;)Lcom/example/ugello/ugello/service/KeyCounts$Node;", sig := { parameters := [(.object "com/example/ugello/ugello/service/KeyCounts$Node")], returnType := some (.object "com/example/ugello/ugello/service/KeyCounts$Node") }, accessFlags := 10, code := some k2c5 }
def k2c6 : Code := { maxStack := 2, maxLocals := 3, code := prog_23_method_9_code, exceptionTable := #[], attributes := #[] }
def k2m6 : Method := { name := "balance", desc := "(Lcom/example/ugello/ugello/service/KeyCounts$Node;)Lcom/example/ugello/ugello/service/KeyCounts$Node;", sig := { parameters := [(.object "com/example/ugello/ugello/service/KeyCounts$Node")], returnType := some (.object "com/example/ugello/ugello/service/KeyCounts$Node") }, accessFlags := 10, code := some k2c6 }
def k2c7 : Code := { maxStack := 2, maxLocals := 2, code := prog_23_method_10_code, exceptionTable := #[], attributes := #[] }
def k2m7 : Method := { name := "rotateRight", desc := "(Lcom/example/ugello/ugello/service/KeyCounts$Node;)Lcom/example/ugello/ugello/service/KeyCounts$Node;", sig := { parameters := [(.object "com/example/ugello/ugello/service/KeyCounts$Node")], returnType := some (.object "com/example/ugello/ugello/service/KeyCounts$Node") }, accessFlags := 10, code := some k2c7 }
def k2c8 : Code := { maxStack := 2, maxLocals := 2, code := prog_23_method_11_code, exceptionTable := #[], attributes := #[] }
def k2m8 : Method := { name := "rotateLeft", desc := "(Lcom/example/ugello/ugello/service/KeyCounts$Node;)Lcom/example/ugello/ugello/service/KeyCounts$Node;", sig := { parameters := [(.object "com/example/ugello/ugello/service/KeyCounts$Node")], returnType := some (.object "com/example/ugello/ugello/service/KeyCounts$Node") }, accessFlags := 10, code := some k2c8 }
def k2c9 : Code := { maxStack := 5, maxLocals := 1, code := prog_23_method_12_code, exceptionTable := #[], attributes := #[] }
def k2m9 : Method := { name := "update", desc := "(Lcom/example/ugello/ugello/service/KeyCounts$Node;)V", sig := { parameters := [(.object "com/example/ugello/ugello/service/KeyCounts$Node")], returnType := none }, accessFlags := 10, code := some k2c9 }
def k2c10 : Code := { maxStack := 1, maxLocals := 1, code := prog_23_method_13_code, exceptionTable := #[], attributes := #[] }
def k2m10 : Method := { name := "height", desc := "(Lcom/example/ugello/ugello/service/KeyCounts$Node;)I", sig := { parameters := [(.object "com/example/ugello/ugello/service/KeyCounts$Node")], returnType := some .int }, accessFlags := 10, code := some k2c10 }
def k2c11 : Code := { maxStack := 2, maxLocals := 1, code := prog_23_method_14_code, exceptionTable := #[], attributes := #[] }
def k2m11 : Method := { name := "total", desc := "(Lcom/example/ugello/ugello/service/KeyCounts$Node;)J", sig := { parameters := [(.object "com/example/ugello/ugello/service/KeyCounts$Node")], returnType := some .long }, accessFlags := 10, code := some k2c11 }
/-- com/example/ugello/ugello/service/KeyCounts -/
def k2 : Class := { plain "com/example/ugello/ugello/service/KeyCounts" (some 0) with
  accessFlags := 48
  interfaces := #[]
  cf := some (fileOf pool2 8 #[.nestMembers #[22]] #[{ accessFlags := 0, nameIndex := 5, descriptorIndex := 6, attributes := #[] }, { accessFlags := 0, nameIndex := 15, descriptorIndex := 38, attributes := #[] }, { accessFlags := 0, nameIndex := 77, descriptorIndex := 78, attributes := #[] }, { accessFlags := 10, nameIndex := 15, descriptorIndex := 16, attributes := #[] }, { accessFlags := 10, nameIndex := 45, descriptorIndex := 42, attributes := #[] }, { accessFlags := 10, nameIndex := 48, descriptorIndex := 42, attributes := #[] }, { accessFlags := 10, nameIndex := 41, descriptorIndex := 42, attributes := #[] }, { accessFlags := 10, nameIndex := 62, descriptorIndex := 42, attributes := #[] }, { accessFlags := 10, nameIndex := 59, descriptorIndex := 42, attributes := #[] }, { accessFlags := 10, nameIndex := 51, descriptorIndex := 52, attributes := #[] }, { accessFlags := 10, nameIndex := 55, descriptorIndex := 56, attributes := #[] }, { accessFlags := 10, nameIndex := 19, descriptorIndex := 20, attributes := #[] }] 48 2 #[] #[{ accessFlags := 2, nameIndex := 11, descriptorIndex := 12, attributes := #[] }])
  fields := #[{ name := "root", type := (.object "com/example/ugello/ugello/service/KeyCounts$Node"), accessFlags := 2, slot := 0, constantValue := 0 }]
  methods := #[k2m0, k2m1, k2m2, k2m3, k2m4, k2m5, k2m6, k2m7, k2m8, k2m9, k2m10, k2m11]
  instanceTypes := #[(.object "com/example/ugello/ugello/service/KeyCounts$Node")]
  staticTypes := #[]
  resolved := #[none, none, none, none, none, none, none, none, none, none, none, none, none, none, none, none, none, none, none, none, none, some (.field 3 0), some (.cls 3), none, none, none, none, some (.field 3 4), none, none, some (.field 3 5), none, none, some (.field 3 1), none, none, some (.method ⟨3, 0⟩), none, none, none, none, none, none, none, none, none, none, none, none, none, none, none, none, none, none, none, none, none, none, none, none, none, none, none, none, none, none, none, none, some (.field 3 3), none, none, some (.field 3 2), none, none, none, none, none, none, none, none, none, none, none, none, none]
  statics := none }

def pool3 : Array CpInfo := pool [(1, .methodref 2 3), (0, .class_ 4), (0, .nameAndType 5 6), (0, u "java/lang/Object"), (0, u "<init>"), (0, u "()V"), (0, .fieldref 8 9), (0, .class_ 10), (0, .nameAndType 11 12), (0, u "com/example/ugello/ugello/service/KeyCounts$Node"), (0, u "height"), (0, u "I"), (0, .fieldref 8 14), (0, .nameAndType 15 16), (0, u "key"), (0, u "J"), (0, .fieldref 8 18), (0, .nameAndType 19 16), (0, u "count"), (0, .fieldref 8 21), (0, .nameAndType 22 16), (0, u "total"), (0, u "left"), (0, u "Lcom/example/ugello/ugello/service/KeyCounts$Node;"), (0, u "right"), (0, u "(JJ)V"), (5, .class_ 33), (0, u "com/example/ugello/ugello/service/KeyCounts")] 2

def k3c0 : Code := { maxStack := 3, maxLocals := 5, code := prog_24_method_1_code, exceptionTable := #[], attributes := #[] }
def k3m0 : Method := { name := "<init>", desc := "(JJ)V", sig := { parameters := [.long, .long], returnType := none }, accessFlags := 2, code := some k3c0 }
/-- com/example/ugello/ugello/service/KeyCounts$Node -/
def k3 : Class := { plain "com/example/ugello/ugello/service/KeyCounts$Node" (some 0) with
  accessFlags := 48
  interfaces := #[]
  cf := some (fileOf pool3 8 #[.nestHost 32] #[{ accessFlags := 2, nameIndex := 5, descriptorIndex := 26, attributes := #[] }] 48 2 #[] #[{ accessFlags := 18, nameIndex := 15, descriptorIndex := 16, attributes := #[] }, { accessFlags := 2, nameIndex := 19, descriptorIndex := 16, attributes := #[] }, { accessFlags := 2, nameIndex := 22, descriptorIndex := 16, attributes := #[] }, { accessFlags := 2, nameIndex := 11, descriptorIndex := 12, attributes := #[] }, { accessFlags := 2, nameIndex := 23, descriptorIndex := 24, attributes := #[] }, { accessFlags := 2, nameIndex := 25, descriptorIndex := 24, attributes := #[] }])
  fields := #[{ name := "key", type := .long, accessFlags := 18, slot := 0, constantValue := 0 }, { name := "count", type := .long, accessFlags := 2, slot := 1, constantValue := 0 }, { name := "total", type := .long, accessFlags := 2, slot := 2, constantValue := 0 }, { name := "height", type := .int, accessFlags := 2, slot := 3, constantValue := 0 }, { name := "left", type := (.object "com/example/ugello/ugello/service/KeyCounts$Node"), accessFlags := 2, slot := 4, constantValue := 0 }, { name := "right", type := (.object "com/example/ugello/ugello/service/KeyCounts$Node"), accessFlags := 2, slot := 5, constantValue := 0 }]
  methods := #[k3m0]
  instanceTypes := #[.long, .long, .long, .int, (.object "com/example/ugello/ugello/service/KeyCounts$Node"), (.object "com/example/ugello/ugello/service/KeyCounts$Node")]
  staticTypes := #[]
  resolved := Array.replicate 36 none
  statics := none }

def pool4 : Array CpInfo := pool [(1, .class_ 2), (0, u "java/lang/Math"), (1, .class_ 6), (1, u "java/lang/Object"), (0, u "<init>"), (0, u "()V"), (89, .class_ 100), (1, u "java/lang/Math$RandomNumberGeneratorHolder"), (71, u "negativeZeroFloatBits"), (0, u "J"), (2, u "negativeZeroDoubleBits"), (21, u "max"), (46, u "$assertionsDisabled"), (0, u "Z"), (88, u "(II)I"), (2, u "twoToTheDoubleScaleDown"), (0, u "D"), (4, u "twoToTheDoubleScaleUp"), (9, u "E"), (3, u "PI"), (2, u "TAU"), (2, u "DEGREES_TO_RADIANS"), (0, u "RADIANS_TO_DEGREES")] 94

def k4m0 : Method := { name := "<init>", desc := "()V", sig := { parameters := [], returnType := none }, accessFlags := 2, code := none }
def k4c1 : Code := { maxStack := 2, maxLocals := 2, code := jdk_29_method_65_code, exceptionTable := #[], attributes := #[] }
def k4m1 : Method := { name := "max", desc := "(II)I", sig := { parameters := [.int, .int], returnType := some .int }, accessFlags := 9, code := some k4c1 }
/-- java/lang/Math -/
def k4 : Class := { plain "java/lang/Math" (some 0) with
  accessFlags := 49
  interfaces := #[]
  cf := some (fileOf pool4 1 #[.nestMembers #[98]] #[{ accessFlags := 2, nameIndex := 7, descriptorIndex := 8, attributes := #[] }, { accessFlags := 9, nameIndex := 198, descriptorIndex := 335, attributes := #[] }] 49 4 #[] #[{ accessFlags := 25, nameIndex := 354, descriptorIndex := 339, attributes := #[] }, { accessFlags := 25, nameIndex := 358, descriptorIndex := 339, attributes := #[] }, { accessFlags := 25, nameIndex := 361, descriptorIndex := 339, attributes := #[] }, { accessFlags := 26, nameIndex := 364, descriptorIndex := 339, attributes := #[] }, { accessFlags := 26, nameIndex := 365, descriptorIndex := 339, attributes := #[] }, { accessFlags := 26, nameIndex := 172, descriptorIndex := 173, attributes := #[] }, { accessFlags := 26, nameIndex := 176, descriptorIndex := 173, attributes := #[] }, { accessFlags := 8, nameIndex := 344, descriptorIndex := 339, attributes := #[] }, { accessFlags := 8, nameIndex := 338, descriptorIndex := 339, attributes := #[] }, { accessFlags := 4120, nameIndex := 245, descriptorIndex := 246, attributes := #[] }])
  fields := #[{ name := "E", type := .double, accessFlags := 25, slot := 0, constantValue := 0 }, { name := "PI", type := .double, accessFlags := 25, slot := 1, constantValue := 0 }, { name := "TAU", type := .double, accessFlags := 25, slot := 2, constantValue := 0 }, { name := "DEGREES_TO_RADIANS", type := .double, accessFlags := 26, slot := 3, constantValue := 0 }, { name := "RADIANS_TO_DEGREES", type := .double, accessFlags := 26, slot := 4, constantValue := 0 }, { name := "negativeZeroFloatBits", type := .long, accessFlags := 26, slot := 5, constantValue := 0 }, { name := "negativeZeroDoubleBits", type := .long, accessFlags := 26, slot := 6, constantValue := 0 }, { name := "twoToTheDoubleScaleUp", type := .double, accessFlags := 8, slot := 7, constantValue := 0 }, { name := "twoToTheDoubleScaleDown", type := .double, accessFlags := 8, slot := 8, constantValue := 0 }, { name := "$assertionsDisabled", type := .boolean, accessFlags := 4120, slot := 9, constantValue := 0 }]
  methods := #[k4m0, k4m1]
  instanceTypes := #[]
  staticTypes := #[.double, .double, .double, .double, .double, .long, .long, .double, .double, .boolean]
  resolved := Array.replicate 460 none
  statics := none }

def pool5 : Array CpInfo := pool [(1, u "java/lang/Cloneable"), (0, .class_ 1), (0, u "java/lang/Object"), (0, .class_ 3)] 3

/-- java/lang/Cloneable -/
def k5 : Class := { plain "java/lang/Cloneable" (some 0) with
  accessFlags := 1537
  interfaces := #[]
  cf := some (fileOf pool5 2 #[] #[] 1537 4 #[] #[])
  fields := #[]
  methods := #[]
  instanceTypes := #[]
  staticTypes := #[]
  resolved := Array.replicate 8 none
  statics := none }

def pool6 : Array CpInfo := pool [(1, u "java/io/Serializable"), (0, .class_ 1), (0, u "java/lang/Object"), (0, .class_ 3)] 3

/-- java/io/Serializable -/
def k6 : Class := { plain "java/io/Serializable" (some 0) with
  accessFlags := 1537
  interfaces := #[]
  cf := some (fileOf pool6 2 #[] #[] 1537 4 #[] #[])
  fields := #[]
  methods := #[]
  instanceTypes := #[]
  staticTypes := #[]
  resolved := Array.replicate 8 none
  statics := none }

/-- the primitive byte -/
def k7 : Class := { plain "byte" none with kind := .primitive 'B', accessFlags := 0x411 }
/-- [B -/
def k8 : Class := { plain "[B" (some 0) with kind := .array 7 .byte, interfaces := #[5, 6], accessFlags := 1041 }

/-- the primitive int -/
def k9 : Class := { plain "int" none with kind := .primitive 'I', accessFlags := 0x411 }
/-- [I -/
def k10 : Class := { plain "[I" (some 0) with kind := .array 9 .int, interfaces := #[5, 6], accessFlags := 1041 }

def heap : Heap := #[]
def classes : Array Class := #[k0, k1, k2, k3, k4, k5, k6, k7, k8, k9, k10]
def interned : List (Array UInt16 × Addr) := []
def slotsUsed : Nat := 0
def theMethod : MethodId := ⟨1, 1⟩
def args0 : Array Value := #[.long 5, .long 7, .long 3, .long 9, .int 4]
def aboutOver (below : List Frame) : State where
  vm := { classes := classes, interned := interned.toArray }
  heap := heap
  slotsUsed := slotsUsed
  threads := #[{ frames := .invoking theMethod args0 :: below }]
def below0 : List Frame := [.native { method := ⟨0, 0⟩, args := #[] }]
def about1 : State := aboutOver below0
def p0 : Program := .bare "" "" ""
def e0 : Env := launch0.env 0 0 0
theorem w_frames : about1.frames = Frame.invoking theMethod args0 :: below0 := rfl
set_option maxRecDepth 65536 in
theorem w_args : argsFit about1.vm theMethod args0 = true := by decide +kernel
set_option maxRecDepth 65536 in
theorem w_heap : heapFits about1 = true := by decide +kernel
set_option maxRecDepth 65536 in
theorem w_runnable : about1.curStatus? = some .runnable := by decide +kernel
set_option maxRecDepth 65536 in
theorem w_alone : about1.alone = true := by decide +kernel
set_option maxRecDepth 65536 in
theorem w_named : about1.methodNamed? x = some theMethod := by decide +kernel
set_option maxRecDepth 65536 in
theorem w_hears : about1.hears theMethod below0 = true := by decide +kernel
set_option maxRecDepth 65536 in
theorem w_ripe : about1.ripe theMethod args0 below0 = true := by decide +kernel
theorem w_running : about1.status = .running := rfl
set_option maxRecDepth 65536 in
theorem w_room : about1.hasRoom e0.platform room_1 = true :=
  launch0.hasRoom_least _ room_1 (by decide +kernel) (by decide +kernel) (by decide +kernel) (by decide +kernel) (by decide +kernel) (by decide +kernel)
theorem allAtoms_all (ts : List Jvm.Cond) (a : Array Jvm.Value) (st : Jvm.State) : (allAtoms ts).before a st = ts.all (fun c => c.before a st) := by
  induction ts with
  | nil => rfl
  | cons c t ih =>
    show (Jvm.Cond.and c (allAtoms t)).before a st = _
    rw [Jvm.Cond.before_and, ih, List.all_cons]
def words1 : List Jvm.Cond := Jvm.Cond.code x code maxLocals ret :: tables_1
/-- a 'code' word, met by the world's own term for the bytes: nothing is compared byte by byte -/
theorem code_word {y : MethodName} {bytes : ByteArray} {mx : Nat} {rt : Option FieldType} {a : Array Value} {s : State} {m : MethodId} {meth : Method} {c : Code} (h1 : s.methodNamed? y = some m) (h2 : s.vm.method? m = some meth) (h3 : meth.code = some c) (h4 : c.code = bytes)
    (h5 : (c.maxLocals == mx && c.exceptionTable.isEmpty && decide (c.maxStack ≤ mostOperands) && decide (meth.sig.returnType = rt) && !meth.locks && decide (parseMethodDescriptor y.desc = some meth.sig)) = true) : (Jvm.Cond.code y bytes mx rt).before a s = true := by
  simp only [Bool.and_eq_true, beq_iff_eq, Bool.not_eq_true', decide_eq_true_eq] at h5
  obtain ⟨⟨⟨⟨⟨g1, g2⟩, g3⟩, g4⟩, g5⟩, g6⟩ := h5
  simp [Cond.before, Cond.holds, Cond.value, h1, h2, h3, h4, g1, g2, g3, g4, g5, g6]
def isCode : Jvm.Cond → Bool
  | .code _ _ _ _ => true
  | _ => false
theorem all_split {L : List Jvm.Cond} {P : Jvm.Cond → Bool} (h1 : L.all (fun c => isCode c || P c) = true) (h2 : ∀ c ∈ L.filter isCode, P c = true) : L.all P = true := by
  refine List.all_eq_true.mpr fun c hc => ?_
  have h := List.all_eq_true.mp h1 c hc
  rcases Bool.eq_false_or_eq_true (isCode c) with hi | hi
  · exact h2 c (List.mem_filter.mpr ⟨hc, hi⟩)
  · simpa [hi] using h
set_option maxRecDepth 65536 in
theorem w_c0 : (Jvm.Cond.code x code maxLocals ret).before args0 about1 = true := code_word (m := ⟨1, 1⟩) (meth := k1m1) (c := k1c1) (by decide +kernel) rfl rfl rfl (by decide +kernel)
set_option maxRecDepth 65536 in
theorem w_c1 : (Jvm.Cond.code ({ cls := "com/example/ugello/ugello/service/KeyCounts", name := "<init>", desc := "()V" } : Jvm.MethodName) prog_23_method_1_code (1 : Nat) (Option.none : Option Jvm.ClassFile.FieldType)).before args0 about1 = true := code_word (m := ⟨2, 0⟩) (meth := k2m0) (c := k2c0) (by decide +kernel) rfl rfl rfl (by decide +kernel)
set_option maxRecDepth 65536 in
theorem w_c2 : (Jvm.Cond.code ({ cls := "java/lang/Object", name := "<init>", desc := "()V" } : Jvm.MethodName) object_method_1_code (1 : Nat) (Option.none : Option Jvm.ClassFile.FieldType)).before args0 about1 = true := code_word (m := ⟨0, 0⟩) (meth := k0m0) (c := k0c0) (by decide +kernel) rfl rfl rfl (by decide +kernel)
set_option maxRecDepth 65536 in
theorem w_c3 : (Jvm.Cond.code ({ cls := "com/example/ugello/ugello/service/KeyCounts", name := "add", desc := "(JJ)V" } : Jvm.MethodName) prog_23_method_2_code (5 : Nat) (Option.none : Option Jvm.ClassFile.FieldType)).before args0 about1 = true := code_word (m := ⟨2, 1⟩) (meth := k2m1) (c := k2c1) (by decide +kernel) rfl rfl rfl (by decide +kernel)
set_option maxRecDepth 65536 in
theorem w_c4 : (Jvm.Cond.code ({ cls := "com/example/ugello/ugello/service/KeyCounts", name := "add", desc := "(Lcom/example/ugello/ugello/service/KeyCounts$Node;JJ)Lcom/example/ugello/ugello/service/KeyCounts$Node;" } : Jvm.MethodName) prog_23_method_6_code (6 : Nat) (Option.some (Jvm.ClassFile.FieldType.object "com/example/ugello/ugello/service/KeyCounts$Node"))).before args0 about1 = true := code_word (m := ⟨2, 3⟩) (meth := k2m3) (c := k2c3) (by decide +kernel) rfl rfl rfl (by decide +kernel)
set_option maxRecDepth 65536 in
theorem w_c5 : (Jvm.Cond.code ({ cls := "com/example/ugello/ugello/service/KeyCounts$Node", name := "<init>", desc := "(JJ)V" } : Jvm.MethodName) prog_24_method_1_code (5 : Nat) (Option.none : Option Jvm.ClassFile.FieldType)).before args0 about1 = true := code_word (m := ⟨3, 0⟩) (meth := k3m0) (c := k3c0) (by decide +kernel) rfl rfl rfl (by decide +kernel)
set_option maxRecDepth 65536 in
theorem w_c6 : (Jvm.Cond.code ({ cls := "com/example/ugello/ugello/service/KeyCounts", name := "balance", desc := "(Lcom/example/ugello/ugello/service/KeyCounts$Node;)Lcom/example/ugello/ugello/service/KeyCounts$Node;" } : Jvm.MethodName) prog_23_method_9_code (3 : Nat) (Option.some (Jvm.ClassFile.FieldType.object "com/example/ugello/ugello/service/KeyCounts$Node"))).before args0 about1 = true := code_word (m := ⟨2, 6⟩) (meth := k2m6) (c := k2c6) (by decide +kernel) rfl rfl rfl (by decide +kernel)
set_option maxRecDepth 65536 in
theorem w_c7 : (Jvm.Cond.code ({ cls := "com/example/ugello/ugello/service/KeyCounts", name := "update", desc := "(Lcom/example/ugello/ugello/service/KeyCounts$Node;)V" } : Jvm.MethodName) prog_23_method_12_code (1 : Nat) (Option.none : Option Jvm.ClassFile.FieldType)).before args0 about1 = true := code_word (m := ⟨2, 9⟩) (meth := k2m9) (c := k2c9) (by decide +kernel) rfl rfl rfl (by decide +kernel)
set_option maxRecDepth 65536 in
theorem w_c8 : (Jvm.Cond.code ({ cls := "com/example/ugello/ugello/service/KeyCounts", name := "height", desc := "(Lcom/example/ugello/ugello/service/KeyCounts$Node;)I" } : Jvm.MethodName) prog_23_method_13_code (1 : Nat) (Option.some Jvm.ClassFile.FieldType.int)).before args0 about1 = true := code_word (m := ⟨2, 10⟩) (meth := k2m10) (c := k2c10) (by decide +kernel) rfl rfl rfl (by decide +kernel)
set_option maxRecDepth 65536 in
theorem w_c9 : (Jvm.Cond.code ({ cls := "java/lang/Math", name := "max", desc := "(II)I" } : Jvm.MethodName) jdk_29_method_65_code (2 : Nat) (Option.some Jvm.ClassFile.FieldType.int)).before args0 about1 = true := code_word (m := ⟨4, 1⟩) (meth := k4m1) (c := k4c1) (by decide +kernel) rfl rfl rfl (by decide +kernel)
set_option maxRecDepth 65536 in
theorem w_c10 : (Jvm.Cond.code ({ cls := "com/example/ugello/ugello/service/KeyCounts", name := "total", desc := "(Lcom/example/ugello/ugello/service/KeyCounts$Node;)J" } : Jvm.MethodName) prog_23_method_14_code (1 : Nat) (Option.some Jvm.ClassFile.FieldType.long)).before args0 about1 = true := code_word (m := ⟨2, 11⟩) (meth := k2m11) (c := k2c11) (by decide +kernel) rfl rfl rfl (by decide +kernel)
set_option maxRecDepth 65536 in
theorem w_c11 : (Jvm.Cond.code ({ cls := "com/example/ugello/ugello/service/KeyCounts", name := "rotateRight", desc := "(Lcom/example/ugello/ugello/service/KeyCounts$Node;)Lcom/example/ugello/ugello/service/KeyCounts$Node;" } : Jvm.MethodName) prog_23_method_10_code (2 : Nat) (Option.some (Jvm.ClassFile.FieldType.object "com/example/ugello/ugello/service/KeyCounts$Node"))).before args0 about1 = true := code_word (m := ⟨2, 7⟩) (meth := k2m7) (c := k2c7) (by decide +kernel) rfl rfl rfl (by decide +kernel)
set_option maxRecDepth 65536 in
theorem w_c12 : (Jvm.Cond.code ({ cls := "com/example/ugello/ugello/service/KeyCounts", name := "countOf", desc := "(J)J" } : Jvm.MethodName) prog_23_method_4_code (4 : Nat) (Option.some Jvm.ClassFile.FieldType.long)).before args0 about1 = true := code_word (m := ⟨2, 2⟩) (meth := k2m2) (c := k2c2) (by decide +kernel) rfl rfl rfl (by decide +kernel)
set_option maxRecDepth 65536 in
theorem w_c13 : (Jvm.Cond.code ({ cls := "com/example/ugello/ugello/service/KeyCountsCountOfPinLaw", name := "expected", desc := "(JJJJJJJZ)J" } : Jvm.MethodName) method_3_code (17 : Nat) (Option.some Jvm.ClassFile.FieldType.long)).before args0 about1 = true := code_word (m := ⟨1, 2⟩) (meth := k1m2) (c := k1c2) (by decide +kernel) rfl rfl rfl (by decide +kernel)
set_option maxRecDepth 65536 in
theorem w_c14 : (Jvm.Cond.code ({ cls := "com/example/ugello/ugello/service/KeyCounts", name := "rotateLeft", desc := "(Lcom/example/ugello/ugello/service/KeyCounts$Node;)Lcom/example/ugello/ugello/service/KeyCounts$Node;" } : Jvm.MethodName) prog_23_method_11_code (2 : Nat) (Option.some (Jvm.ClassFile.FieldType.object "com/example/ugello/ugello/service/KeyCounts$Node"))).before args0 about1 = true := code_word (m := ⟨2, 8⟩) (meth := k2m8) (c := k2c8) (by decide +kernel) rfl rfl rfl (by decide +kernel)
set_option maxRecDepth 65536 in
theorem w_c15 : (Jvm.Cond.code ({ cls := "com/example/ugello/ugello/service/KeyCounts", name := "withoutRoot", desc := "(Lcom/example/ugello/ugello/service/KeyCounts$Node;)Lcom/example/ugello/ugello/service/KeyCounts$Node;" } : Jvm.MethodName) prog_23_method_7_code (3 : Nat) (Option.some (Jvm.ClassFile.FieldType.object "com/example/ugello/ugello/service/KeyCounts$Node"))).before args0 about1 = true := code_word (m := ⟨2, 4⟩) (meth := k2m4) (c := k2c4) (by decide +kernel) rfl rfl rfl (by decide +kernel)
set_option maxRecDepth 65536 in
theorem w_c16 : (Jvm.Cond.code ({ cls := "com/example/ugello/ugello/service/KeyCounts", name := "withoutLeftmost", desc := "(Lcom/example/ugello/ugello/service/KeyCounts$Node;)Lcom/example/ugello/ugello/service/KeyCounts$Node;" } : Jvm.MethodName) prog_23_method_8_code (2 : Nat) (Option.some (Jvm.ClassFile.FieldType.object "com/example/ugello/ugello/service/KeyCounts$Node"))).before args0 about1 = true := code_word (m := ⟨2, 5⟩) (meth := k2m5) (c := k2c5) (by decide +kernel) rfl rfl rfl (by decide +kernel)
def codes1 : List Jvm.Cond := [Jvm.Cond.code x code maxLocals ret, Jvm.Cond.code ({ cls := "com/example/ugello/ugello/service/KeyCounts", name := "<init>", desc := "()V" } : Jvm.MethodName) prog_23_method_1_code (1 : Nat) (Option.none : Option Jvm.ClassFile.FieldType), Jvm.Cond.code ({ cls := "java/lang/Object", name := "<init>", desc := "()V" } : Jvm.MethodName) object_method_1_code (1 : Nat) (Option.none : Option Jvm.ClassFile.FieldType), Jvm.Cond.code ({ cls := "com/example/ugello/ugello/service/KeyCounts", name := "add", desc := "(JJ)V" } : Jvm.MethodName) prog_23_method_2_code (5 : Nat) (Option.none : Option Jvm.ClassFile.FieldType), Jvm.Cond.code ({ cls := "com/example/ugello/ugello/service/KeyCounts", name := "add", desc := "(Lcom/example/ugello/ugello/service/KeyCounts$Node;JJ)Lcom/example/ugello/ugello/service/KeyCounts$Node;" } : Jvm.MethodName) prog_23_method_6_code (6 : Nat) (Option.some (Jvm.ClassFile.FieldType.object "com/example/ugello/ugello/service/KeyCounts$Node")), Jvm.Cond.code ({ cls := "com/example/ugello/ugello/service/KeyCounts$Node", name := "<init>", desc := "(JJ)V" } : Jvm.MethodName) prog_24_method_1_code (5 : Nat) (Option.none : Option Jvm.ClassFile.FieldType), Jvm.Cond.code ({ cls := "com/example/ugello/ugello/service/KeyCounts", name := "balance", desc := "(Lcom/example/ugello/ugello/service/KeyCounts$Node;)Lcom/example/ugello/ugello/service/KeyCounts$Node;" } : Jvm.MethodName) prog_23_method_9_code (3 : Nat) (Option.some (Jvm.ClassFile.FieldType.object "com/example/ugello/ugello/service/KeyCounts$Node")), Jvm.Cond.code ({ cls := "com/example/ugello/ugello/service/KeyCounts", name := "update", desc := "(Lcom/example/ugello/ugello/service/KeyCounts$Node;)V" } : Jvm.MethodName) prog_23_method_12_code (1 : Nat) (Option.none : Option Jvm.ClassFile.FieldType), Jvm.Cond.code ({ cls := "com/example/ugello/ugello/service/KeyCounts", name := "height", desc := "(Lcom/example/ugello/ugello/service/KeyCounts$Node;)I" } : Jvm.MethodName) prog_23_method_13_code (1 : Nat) (Option.some Jvm.ClassFile.FieldType.int), Jvm.Cond.code ({ cls := "java/lang/Math", name := "max", desc := "(II)I" } : Jvm.MethodName) jdk_29_method_65_code (2 : Nat) (Option.some Jvm.ClassFile.FieldType.int), Jvm.Cond.code ({ cls := "com/example/ugello/ugello/service/KeyCounts", name := "total", desc := "(Lcom/example/ugello/ugello/service/KeyCounts$Node;)J" } : Jvm.MethodName) prog_23_method_14_code (1 : Nat) (Option.some Jvm.ClassFile.FieldType.long), Jvm.Cond.code ({ cls := "com/example/ugello/ugello/service/KeyCounts", name := "rotateRight", desc := "(Lcom/example/ugello/ugello/service/KeyCounts$Node;)Lcom/example/ugello/ugello/service/KeyCounts$Node;" } : Jvm.MethodName) prog_23_method_10_code (2 : Nat) (Option.some (Jvm.ClassFile.FieldType.object "com/example/ugello/ugello/service/KeyCounts$Node")), Jvm.Cond.code ({ cls := "com/example/ugello/ugello/service/KeyCounts", name := "countOf", desc := "(J)J" } : Jvm.MethodName) prog_23_method_4_code (4 : Nat) (Option.some Jvm.ClassFile.FieldType.long), Jvm.Cond.code ({ cls := "com/example/ugello/ugello/service/KeyCountsCountOfPinLaw", name := "expected", desc := "(JJJJJJJZ)J" } : Jvm.MethodName) method_3_code (17 : Nat) (Option.some Jvm.ClassFile.FieldType.long), Jvm.Cond.code ({ cls := "com/example/ugello/ugello/service/KeyCounts", name := "rotateLeft", desc := "(Lcom/example/ugello/ugello/service/KeyCounts$Node;)Lcom/example/ugello/ugello/service/KeyCounts$Node;" } : Jvm.MethodName) prog_23_method_11_code (2 : Nat) (Option.some (Jvm.ClassFile.FieldType.object "com/example/ugello/ugello/service/KeyCounts$Node")), Jvm.Cond.code ({ cls := "com/example/ugello/ugello/service/KeyCounts", name := "withoutRoot", desc := "(Lcom/example/ugello/ugello/service/KeyCounts$Node;)Lcom/example/ugello/ugello/service/KeyCounts$Node;" } : Jvm.MethodName) prog_23_method_7_code (3 : Nat) (Option.some (Jvm.ClassFile.FieldType.object "com/example/ugello/ugello/service/KeyCounts$Node")), Jvm.Cond.code ({ cls := "com/example/ugello/ugello/service/KeyCounts", name := "withoutLeftmost", desc := "(Lcom/example/ugello/ugello/service/KeyCounts$Node;)Lcom/example/ugello/ugello/service/KeyCounts$Node;" } : Jvm.MethodName) prog_23_method_8_code (2 : Nat) (Option.some (Jvm.ClassFile.FieldType.object "com/example/ugello/ugello/service/KeyCounts$Node"))]
set_option maxRecDepth 65536 in
theorem codes_eq : words1.filter isCode = codes1 := rfl
theorem w_codes : ∀ c ∈ words1.filter isCode, c.before args0 about1 = true := by
  rw [codes_eq]
  intro c hc
  simp only [codes1, List.mem_cons, List.not_mem_nil, or_false] at hc
  rcases hc with rfl | rfl | rfl | rfl | rfl | rfl | rfl | rfl | rfl | rfl | rfl | rfl | rfl | rfl | rfl | rfl | rfl
  · exact w_c0
  · exact w_c1
  · exact w_c2
  · exact w_c3
  · exact w_c4
  · exact w_c5
  · exact w_c6
  · exact w_c7
  · exact w_c8
  · exact w_c9
  · exact w_c10
  · exact w_c11
  · exact w_c12
  · exact w_c13
  · exact w_c14
  · exact w_c15
  · exact w_c16
set_option maxRecDepth 65536 in
theorem w_t1 : (words1.take 24).all (fun c => isCode c || c.before args0 about1) = true := by decide +kernel
set_option maxRecDepth 65536 in
theorem w_t2 : ((words1.drop 24).take 24).all (fun c => isCode c || c.before args0 about1) = true := by decide +kernel
set_option maxRecDepth 65536 in
theorem w_t3 : (((words1.drop 24).drop 24).take 24).all (fun c => isCode c || c.before args0 about1) = true := by decide +kernel
set_option maxRecDepth 65536 in
theorem w_t4 : (((words1.drop 24).drop 24).drop 24).all (fun c => isCode c || c.before args0 about1) = true := by decide +kernel
theorem w_tables : (allAtoms (Jvm.Cond.code x code maxLocals ret :: tables_1)).before args0 about1 = true := by
  rw [allAtoms_all]
  show words1.all (fun c => c.before args0 about1) = true
  refine all_split ?_ w_codes
  rw [← List.take_append_drop 24 words1, List.all_append, w_t1, ← List.take_append_drop 24 (words1.drop 24), List.all_append, w_t2, ← List.take_append_drop 24 ((words1.drop 24).drop 24), List.all_append, w_t3, w_t4]
  rfl
set_option maxRecDepth 65536 in
theorem w_case : (Jvm.Cond.and given_1 narrow_1).before args0 about1 = true := by decide +kernel
theorem w_applies : (headSpec (Jvm.Cond.code x code maxLocals ret :: tables_1) room_1).applies x e0.platform about1 = true :=
  (Spec.applies_iff w_frames).mpr ⟨w_running, w_runnable, w_alone, w_named, w_hears, w_ripe, w_room, w_tables⟩
theorem atStart : AtStart classFile x code maxLocals ret World_1 tables_1 room_1 Calls_1 rest_1 Pre_1 launch0 p0 e0 about1 theMethod args0 below0 :=
  ⟨lists_1, trivial, launch0.admits_env _ _ _, launch0.least_env, fairChoices_fair.cas, fairChoices_fair.clock, w_frames, w_args, w_heap, w_applies, trivial, trivial, w_case⟩
end start1
theorem witness_1 : WitnessClaimed_1 := ⟨start1.p0, start1.e0, start1.about1, start1.theMethod, start1.args0, start1.below0, start1.atStart⟩
end Jvm.Pilot.@@N@@
