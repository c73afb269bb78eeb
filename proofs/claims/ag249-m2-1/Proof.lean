import JvmDerived
import JvmDerived.Pilot.@@N@@Statement
import JvmDerived.Pilot.@@N@@Code
set_option linter.unusedVariables false
set_option linter.unusedSimpArgs false
namespace Jvm.Own
open Sem ClassFile Op Lib Jvm.Stand Jvm.Free Jvm.LawKit Jvm.RoadKit
section Lay
variable {p : Program} {l : Launch} {e : Env} {R : Room} {s : State} {m : MethodId} {args : Array Value} {below : List Frame} {meth : Method} {c : Code} {T T' : State} {cells slots n0 : Nat} {Z : State} {a0 : Array Value} {h h' : Heap} {Rest : State → Outcome → Prop} {pc pc' : Nat} {L L' : Array Slot} {S : List Value} {f f' : JFrame} {bytes : ByteArray} {maxL : Nat} {ret : Option FieldType} {own nme : String}
/-- the run stands here: a Stand whose written places are all new -/
def St (p : Program) (l : Launch) (e : Env) (R : Room) (s : State) (m : MethodId) (args : Array Value) (below : List Frame) (meth : Method) (c : Code) (n0 : Nat) (T : State) (h : Heap) (cells slots : Nat) : Prop := ∃ locs, Stand p l e R s m args below meth c T locs cells slots ∧ Fr n0 locs ∧ T.heap = h
def Cx (p : Program) (s : State) (m : MethodId) (meth : Method) (c : Code) (Z : State) (bytes : ByteArray) (maxL : Nat) (ret : Option FieldType) (own nme : String) : Prop := p.tables.exec = Jvm.exec ∧ c.code = bytes ∧ c.maxLocals = maxL ∧ meth.sig.returnType = ret ∧ meth.locks = false ∧ s.vm.findClass own = some m.cls ∧ meth.name = nme ∧ Z.Warmed39 s.vm
def Go (p : Program) (e : Env) (below : List Frame) (Rest : State → Outcome → Prop) (T : State) (f : JFrame) : Prop := ∃ t o, Steps p.tables e below (T.setTop f) t ∧ Rest t o
theorem go_by (st : ∀ t, Steps p.tables e below (T'.setTop f') t → Steps p.tables e below (T.setTop f) t) (k : Go p e below Rest T' f') : Go p e below Rest T f := by
  obtain ⟨t, o, h1, h2⟩ := k; exact ⟨t, o, st t h1, h2⟩
theorem go_tr (st : Steps p.tables e below (T.setTop f) (T'.setTop f')) (k : Go p e below Rest T' f') : Go p e below Rest T f := by
  obtain ⟨t, o, h1, h2⟩ := k; exact ⟨t, o, st.trans h1, h2⟩
theorem go_cast (q : f = f') (k : Go p e below Rest T f') : Go p e below Rest T f := q ▸ k
abbrev Rs (s : State) (below : List Frame) (n0 : Nat) (Q : Option Value → Heap → Prop) (k n : Nat) : State → Outcome → Prop := fun t o => t.status = .running ∧ Ended t below o ∧ ∃ v L, o = .returned v ∧ (Q v t.heap ∧ Fr n0 L) ∧ FrameEnd s o t L k n
abbrev Ctr (l : Launch) (y : MethodName) (bytes : ByteArray) (maxL : Nat) (ret : Option FieldType) (rm : Room) (Z : State) (n0 : Nat) (as : Array Value) (h : Heap) (Q : Option Value → Heap → Prop) (ws : List Jvm.Cond) : Prop :=
  MetFree l y (head1 (Jvm.Cond.code y bytes maxL ret :: ws) rm) (fun a U => a = as ∧ Z.Warmed39 U.vm ∧ U.heap = h) (fun _ _ _ _ _ => True) (fun _ U o U' => ∃ v L, o = .returned v ∧ (Q v U'.heap ∧ Fr n0 L) ∧ FrameEnd U o U' L rm.cells rm.slots)
theorem ctr_of {y : MethodName} {rm : Room} {as : Array Value} {Q : Option Value → Heap → Prop} {ws : List Jvm.Cond} (hpn : plainFor y = true)
    (body : ∀ p e s m below meth c s₁, St p l e rm s m as below meth c n0 s₁ h 0 0 → Cx p s m meth c Z bytes maxL ret y.cls y.name → Go p e below (Rs s below n0 Q rm.cells rm.slots) s₁ (entryFrame m as maxL)) :
    Ctr l y bytes maxL ret rm Z n0 as h Q ws := by
  refine MetFree.of_bodySF hpn hisR ?_
  intro p e s m args below meth c s₁ Bd hml0 hP hK
  obtain ⟨rfl, hZ, hh⟩ := hP
  have hown := findClass_of_methodNamed Bd.named
  have hnm := (name_of_methodNamed Bd.named Bd.method).1
  have X0 : Stand p l e rm s m args below meth c s₁ [] 0 0 := Stand.of_body Bd
  have e0 : s₁.heap = h := by rw [← hh, Bd.state]; rfl
  obtain ⟨t, o, h1, h2, h3, h4⟩ := body p e s m below meth c s₁ ⟨[], X0, Fr.nil n0, e0⟩ ⟨Bd.exec, Bd.bytes, hml0, Bd.returns, Bd.notSynchronized, hown, hnm, hZ⟩
  exact ⟨t, o, h1, h2, h3, h4⟩
theorem g_iload (X : St p l e R s m args below meth c n0 T h cells slots) (C : Cx p s m meth c Z bytes maxL ret own nme) {k : Nat} {v : Int32} (hd : decode bytes pc = .ok (.iload k, 2)) (hl : L[k]? = some (.val (.int v))) (hp : pc + 2 = pc') (r : Go p e below Rest T (mkF m pc' L (.int v :: S))) : Go p e below Rest T (mkF m pc L S) := by
  obtain ⟨_, X, -, -⟩ := X; obtain ⟨hx, hby, -⟩ := C; subst hp
  exact go_by (fun t k => XS.iload X.here hx rfl (hb hby hd) hl k) r
theorem g_iloadN (X : St p l e R s m args below meth c n0 T h cells slots) (C : Cx p s m meth c Z bytes maxL ret own nme) {k : Fin 4} {v : Int32} (hd : decode bytes pc = .ok (.iload_n k, 1)) (hl : L[k.val]? = some (.val (.int v))) (hp : pc + 1 = pc') (r : Go p e below Rest T (mkF m pc' L (.int v :: S))) : Go p e below Rest T (mkF m pc L S) := by
  obtain ⟨_, X, -, -⟩ := X; obtain ⟨hx, hby, -⟩ := C; subst hp
  exact go_by (fun t k => XS.iloadN X.here hx rfl (hb hby hd) hl k) r
theorem g_istore (X : St p l e R s m args below meth c n0 T h cells slots) (C : Cx p s m meth c Z bytes maxL ret own nme) {k : Nat} {v v' : Int32} (hd : decode bytes pc = .ok (.istore k, 2)) (hv : v' = v) (hl : storeLocals L k (.int v') = some L') (hp : pc + 2 = pc') (r : Go p e below Rest T (mkF m pc' L' S)) : Go p e below Rest T (mkF m pc L (.int v :: S)) := by
  obtain ⟨_, X, -, -⟩ := X; obtain ⟨hx, hby, -⟩ := C; subst hp
  exact go_by (fun t k => XS.istore X.here hx rfl (hb hby hd) rfl (hv ▸ hl) k) r
theorem g_istoreN (X : St p l e R s m args below meth c n0 T h cells slots) (C : Cx p s m meth c Z bytes maxL ret own nme) {k : Fin 4} {v v' : Int32} (hd : decode bytes pc = .ok (.istore_n k, 1)) (hv : v' = v) (hl : storeLocals L k.val (.int v') = some L') (hp : pc + 1 = pc') (r : Go p e below Rest T (mkF m pc' L' S)) : Go p e below Rest T (mkF m pc L (.int v :: S)) := by
  obtain ⟨_, X, -, -⟩ := X; obtain ⟨hx, hby, -⟩ := C; subst hp
  exact go_by (fun t k => XS.istoreN X.here hx rfl (hb hby hd) rfl (hv ▸ hl) k) r
theorem g_lload (X : St p l e R s m args below meth c n0 T h cells slots) (C : Cx p s m meth c Z bytes maxL ret own nme) {k : Nat} {v : Int64} (hd : decode bytes pc = .ok (.lload k, 2)) (hl : L[k]? = some (.val (.long v))) (hp : pc + 2 = pc') (r : Go p e below Rest T (mkF m pc' L (.long v :: S))) : Go p e below Rest T (mkF m pc L S) := by
  obtain ⟨_, X, -, -⟩ := X; obtain ⟨hx, hby, -⟩ := C; subst hp
  exact go_by (fun t k => XS.lload X.here hx rfl (hb hby hd) hl k) r
theorem g_lloadN (X : St p l e R s m args below meth c n0 T h cells slots) (C : Cx p s m meth c Z bytes maxL ret own nme) {k : Fin 4} {v : Int64} (hd : decode bytes pc = .ok (.lload_n k, 1)) (hl : L[k.val]? = some (.val (.long v))) (hp : pc + 1 = pc') (r : Go p e below Rest T (mkF m pc' L (.long v :: S))) : Go p e below Rest T (mkF m pc L S) := by
  obtain ⟨_, X, -, -⟩ := X; obtain ⟨hx, hby, -⟩ := C; subst hp
  exact go_by (fun t k => XS.lloadN X.here hx rfl (hb hby hd) hl k) r
theorem g_lstore (X : St p l e R s m args below meth c n0 T h cells slots) (C : Cx p s m meth c Z bytes maxL ret own nme) {k : Nat} {v v' : Int64} (hd : decode bytes pc = .ok (.lstore k, 2)) (hv : v' = v) (hl : storeLocals L k (.long v') = some L') (hp : pc + 2 = pc') (r : Go p e below Rest T (mkF m pc' L' S)) : Go p e below Rest T (mkF m pc L (.long v :: S)) := by
  obtain ⟨_, X, -, -⟩ := X; obtain ⟨hx, hby, -⟩ := C; subst hp
  exact go_by (fun t k => XS.lstore X.here hx rfl (hb hby hd) rfl (hv ▸ hl) k) r
theorem g_lstoreN (X : St p l e R s m args below meth c n0 T h cells slots) (C : Cx p s m meth c Z bytes maxL ret own nme) {k : Fin 4} {v v' : Int64} (hd : decode bytes pc = .ok (.lstore_n k, 1)) (hv : v' = v) (hl : storeLocals L k.val (.long v') = some L') (hp : pc + 1 = pc') (r : Go p e below Rest T (mkF m pc' L' S)) : Go p e below Rest T (mkF m pc L (.long v :: S)) := by
  obtain ⟨_, X, -, -⟩ := X; obtain ⟨hx, hby, -⟩ := C; subst hp
  exact go_by (fun t k => XS.lstoreN X.here hx rfl (hb hby hd) rfl (hv ▸ hl) k) r
theorem g_aload (X : St p l e R s m args below meth c n0 T h cells slots) (C : Cx p s m meth c Z bytes maxL ret own nme) {k : Nat} {v : Value} (hd : decode bytes pc = .ok (.aload k, 2)) (hl : L[k]? = some (.val v)) (hv : v.isRef = true) (hp : pc + 2 = pc') (r : Go p e below Rest T (mkF m pc' L (v :: S))) : Go p e below Rest T (mkF m pc L S) := by
  obtain ⟨_, X, -, -⟩ := X; obtain ⟨hx, hby, -⟩ := C; subst hp
  exact go_by (fun t k => XS.aload X.here hx rfl (hb hby hd) hl hv k) r
theorem g_aloadN (X : St p l e R s m args below meth c n0 T h cells slots) (C : Cx p s m meth c Z bytes maxL ret own nme) {k : Fin 4} {v : Value} (hd : decode bytes pc = .ok (.aload_n k, 1)) (hl : L[k.val]? = some (.val v)) (hv : v.isRef = true) (hp : pc + 1 = pc') (r : Go p e below Rest T (mkF m pc' L (v :: S))) : Go p e below Rest T (mkF m pc L S) := by
  obtain ⟨_, X, -, -⟩ := X; obtain ⟨hx, hby, -⟩ := C; subst hp
  exact go_by (fun t k => XS.aloadN X.here hx rfl (hb hby hd) hl hv k) r
theorem g_astore (X : St p l e R s m args below meth c n0 T h cells slots) (C : Cx p s m meth c Z bytes maxL ret own nme) {k : Nat} {v : Value} (hd : decode bytes pc = .ok (.astore k, 2)) (hv : v.isRef = true) (hl : storeLocals L k v = some L') (hp : pc + 2 = pc') (r : Go p e below Rest T (mkF m pc' L' S)) : Go p e below Rest T (mkF m pc L (v :: S)) := by
  obtain ⟨_, X, -, -⟩ := X; obtain ⟨hx, hby, -⟩ := C; subst hp
  exact go_by (fun t k => XS.astore X.here hx rfl (hb hby hd) rfl hv hl k) r
theorem g_astoreN (X : St p l e R s m args below meth c n0 T h cells slots) (C : Cx p s m meth c Z bytes maxL ret own nme) {k : Fin 4} {v : Value} (hd : decode bytes pc = .ok (.astore_n k, 1)) (hv : v.isRef = true) (hl : storeLocals L k.val v = some L') (hp : pc + 1 = pc') (r : Go p e below Rest T (mkF m pc' L' S)) : Go p e below Rest T (mkF m pc L (v :: S)) := by
  obtain ⟨_, X, -, -⟩ := X; obtain ⟨hx, hby, -⟩ := C; subst hp
  exact go_by (fun t k => XS.astoreN X.here hx rfl (hb hby hd) rfl hv hl k) r
theorem g_iconst (X : St p l e R s m args below meth c n0 T h cells slots) (C : Cx p s m meth c Z bytes maxL ret own nme) {i : Int} {v : Int32} (hd : decode bytes pc = .ok (.iconst i, 1)) (hv : Int32.ofInt i = v) (hp : pc + 1 = pc') (r : Go p e below Rest T (mkF m pc' L (.int v :: S))) : Go p e below Rest T (mkF m pc L S) := by
  obtain ⟨_, X, -, -⟩ := X; obtain ⟨hx, hby, -⟩ := C; subst hp hv
  exact go_by (fun t k => XS.iconst X.here hx rfl (hb hby hd) k) r
theorem g_bipush (X : St p l e R s m args below meth c n0 T h cells slots) (C : Cx p s m meth c Z bytes maxL ret own nme) {i : Int} {v : Int32} (hd : decode bytes pc = .ok (.bipush i, 2)) (hv : (Int8.ofInt i).toInt32 = v) (hp : pc + 2 = pc') (r : Go p e below Rest T (mkF m pc' L (.int v :: S))) : Go p e below Rest T (mkF m pc L S) := by
  obtain ⟨_, X, -, -⟩ := X; obtain ⟨hx, hby, -⟩ := C; subst hp hv
  exact go_by (fun t k => XS.bipush X.here hx rfl (hb hby hd) k) r
theorem g_sipush (X : St p l e R s m args below meth c n0 T h cells slots) (C : Cx p s m meth c Z bytes maxL ret own nme) {i : Int} {v : Int32} (hd : decode bytes pc = .ok (.sipush i, 3)) (hv : (Int16.ofInt i).toInt32 = v) (hp : pc + 3 = pc') (r : Go p e below Rest T (mkF m pc' L (.int v :: S))) : Go p e below Rest T (mkF m pc L S) := by
  obtain ⟨_, X, -, -⟩ := X; obtain ⟨hx, hby, -⟩ := C; subst hp hv
  exact go_by (fun t k => XS.sipush X.here hx rfl (hb hby hd) k) r
theorem g_lconst (X : St p l e R s m args below meth c n0 T h cells slots) (C : Cx p s m meth c Z bytes maxL ret own nme) {i : Fin 2} {v : Int64} (hd : decode bytes pc = .ok (.lconst i, 1)) (hv : Int64.ofNat i = v) (hp : pc + 1 = pc') (r : Go p e below Rest T (mkF m pc' L (.long v :: S))) : Go p e below Rest T (mkF m pc L S) := by
  obtain ⟨_, X, -, -⟩ := X; obtain ⟨hx, hby, -⟩ := C; subst hp hv
  exact go_by (fun t k => XS.lconst X.here hx rfl (hb hby hd) k) r
theorem g_aconst (X : St p l e R s m args below meth c n0 T h cells slots) (C : Cx p s m meth c Z bytes maxL ret own nme)  (hd : decode bytes pc = .ok (.aconst_null, 1))  (hp : pc + 1 = pc') (r : Go p e below Rest T (mkF m pc' L (.null :: S))) : Go p e below Rest T (mkF m pc L S) := by
  obtain ⟨_, X, -, -⟩ := X; obtain ⟨hx, hby, -⟩ := C; subst hp
  exact go_by (fun t k => XS.aconstNull X.here hx rfl (hb hby hd)  k) r
theorem g_iadd (X : St p l e R s m args below meth c n0 T h cells slots) (C : Cx p s m meth c Z bytes maxL ret own nme) {x y : Int32} (hd : decode bytes pc = .ok (.iadd, 1))  (hp : pc + 1 = pc') (r : Go p e below Rest T (mkF m pc' L (.int (x + y) :: S))) : Go p e below Rest T (mkF m pc L (.int y :: .int x :: S)) := by
  obtain ⟨_, X, -, -⟩ := X; obtain ⟨hx, hby, -⟩ := C; subst hp
  exact go_by (fun t k => XS.iadd X.here hx rfl (hb hby hd) rfl k) r
theorem g_ladd (X : St p l e R s m args below meth c n0 T h cells slots) (C : Cx p s m meth c Z bytes maxL ret own nme) {x y : Int64} (hd : decode bytes pc = .ok (.ladd, 1))  (hp : pc + 1 = pc') (r : Go p e below Rest T (mkF m pc' L (.long (x + y) :: S))) : Go p e below Rest T (mkF m pc L (.long y :: .long x :: S)) := by
  obtain ⟨_, X, -, -⟩ := X; obtain ⟨hx, hby, -⟩ := C; subst hp
  exact go_by (fun t k => XS.ladd X.here hx rfl (hb hby hd) rfl k) r
theorem g_isub (X : St p l e R s m args below meth c n0 T h cells slots) (C : Cx p s m meth c Z bytes maxL ret own nme) {x y : Int32} (hd : decode bytes pc = .ok (.isub, 1))  (hp : pc + 1 = pc') (r : Go p e below Rest T (mkF m pc' L (.int (x - y) :: S))) : Go p e below Rest T (mkF m pc L (.int y :: .int x :: S)) := by
  obtain ⟨_, X, -, -⟩ := X; obtain ⟨hx, hby, -⟩ := C; subst hp
  exact go_by (fun t k => XS.isub X.here hx rfl (hb hby hd) rfl k) r
theorem g_lsub (X : St p l e R s m args below meth c n0 T h cells slots) (C : Cx p s m meth c Z bytes maxL ret own nme) {x y : Int64} (hd : decode bytes pc = .ok (.lsub, 1))  (hp : pc + 1 = pc') (r : Go p e below Rest T (mkF m pc' L (.long (x - y) :: S))) : Go p e below Rest T (mkF m pc L (.long y :: .long x :: S)) := by
  obtain ⟨_, X, -, -⟩ := X; obtain ⟨hx, hby, -⟩ := C; subst hp
  exact go_by (fun t k => XS.lsub X.here hx rfl (hb hby hd) rfl k) r
theorem g_imul (X : St p l e R s m args below meth c n0 T h cells slots) (C : Cx p s m meth c Z bytes maxL ret own nme) {x y : Int32} (hd : decode bytes pc = .ok (.imul, 1))  (hp : pc + 1 = pc') (r : Go p e below Rest T (mkF m pc' L (.int (x * y) :: S))) : Go p e below Rest T (mkF m pc L (.int y :: .int x :: S)) := by
  obtain ⟨_, X, -, -⟩ := X; obtain ⟨hx, hby, -⟩ := C; subst hp
  exact go_by (fun t k => XS.imul X.here hx rfl (hb hby hd) rfl k) r
theorem g_lmul (X : St p l e R s m args below meth c n0 T h cells slots) (C : Cx p s m meth c Z bytes maxL ret own nme) {x y : Int64} (hd : decode bytes pc = .ok (.lmul, 1))  (hp : pc + 1 = pc') (r : Go p e below Rest T (mkF m pc' L (.long (x * y) :: S))) : Go p e below Rest T (mkF m pc L (.long y :: .long x :: S)) := by
  obtain ⟨_, X, -, -⟩ := X; obtain ⟨hx, hby, -⟩ := C; subst hp
  exact go_by (fun t k => XS.lmul X.here hx rfl (hb hby hd) rfl k) r
theorem g_iand (X : St p l e R s m args below meth c n0 T h cells slots) (C : Cx p s m meth c Z bytes maxL ret own nme) {x y : Int32} (hd : decode bytes pc = .ok (.iand, 1))  (hp : pc + 1 = pc') (r : Go p e below Rest T (mkF m pc' L (.int (x &&& y) :: S))) : Go p e below Rest T (mkF m pc L (.int y :: .int x :: S)) := by
  obtain ⟨_, X, -, -⟩ := X; obtain ⟨hx, hby, -⟩ := C; subst hp
  exact go_by (fun t k => XS.iand X.here hx rfl (hb hby hd) rfl k) r
theorem g_land (X : St p l e R s m args below meth c n0 T h cells slots) (C : Cx p s m meth c Z bytes maxL ret own nme) {x y : Int64} (hd : decode bytes pc = .ok (.land, 1))  (hp : pc + 1 = pc') (r : Go p e below Rest T (mkF m pc' L (.long (x &&& y) :: S))) : Go p e below Rest T (mkF m pc L (.long y :: .long x :: S)) := by
  obtain ⟨_, X, -, -⟩ := X; obtain ⟨hx, hby, -⟩ := C; subst hp
  exact go_by (fun t k => XS.land X.here hx rfl (hb hby hd) rfl k) r
theorem g_ior (X : St p l e R s m args below meth c n0 T h cells slots) (C : Cx p s m meth c Z bytes maxL ret own nme) {x y : Int32} (hd : decode bytes pc = .ok (.ior, 1))  (hp : pc + 1 = pc') (r : Go p e below Rest T (mkF m pc' L (.int (x ||| y) :: S))) : Go p e below Rest T (mkF m pc L (.int y :: .int x :: S)) := by
  obtain ⟨_, X, -, -⟩ := X; obtain ⟨hx, hby, -⟩ := C; subst hp
  exact go_by (fun t k => XS.ior X.here hx rfl (hb hby hd) rfl k) r
theorem g_lor (X : St p l e R s m args below meth c n0 T h cells slots) (C : Cx p s m meth c Z bytes maxL ret own nme) {x y : Int64} (hd : decode bytes pc = .ok (.lor, 1))  (hp : pc + 1 = pc') (r : Go p e below Rest T (mkF m pc' L (.long (x ||| y) :: S))) : Go p e below Rest T (mkF m pc L (.long y :: .long x :: S)) := by
  obtain ⟨_, X, -, -⟩ := X; obtain ⟨hx, hby, -⟩ := C; subst hp
  exact go_by (fun t k => XS.lor X.here hx rfl (hb hby hd) rfl k) r
theorem g_ixor (X : St p l e R s m args below meth c n0 T h cells slots) (C : Cx p s m meth c Z bytes maxL ret own nme) {x y : Int32} (hd : decode bytes pc = .ok (.ixor, 1))  (hp : pc + 1 = pc') (r : Go p e below Rest T (mkF m pc' L (.int (x ^^^ y) :: S))) : Go p e below Rest T (mkF m pc L (.int y :: .int x :: S)) := by
  obtain ⟨_, X, -, -⟩ := X; obtain ⟨hx, hby, -⟩ := C; subst hp
  exact go_by (fun t k => XS.ixor X.here hx rfl (hb hby hd) rfl k) r
theorem g_lxor (X : St p l e R s m args below meth c n0 T h cells slots) (C : Cx p s m meth c Z bytes maxL ret own nme) {x y : Int64} (hd : decode bytes pc = .ok (.lxor, 1))  (hp : pc + 1 = pc') (r : Go p e below Rest T (mkF m pc' L (.long (x ^^^ y) :: S))) : Go p e below Rest T (mkF m pc L (.long y :: .long x :: S)) := by
  obtain ⟨_, X, -, -⟩ := X; obtain ⟨hx, hby, -⟩ := C; subst hp
  exact go_by (fun t k => XS.lxor X.here hx rfl (hb hby hd) rfl k) r
theorem g_ishl (X : St p l e R s m args below meth c n0 T h cells slots) (C : Cx p s m meth c Z bytes maxL ret own nme) {x : Int32} {y : Int32} (hd : decode bytes pc = .ok (.ishl, 1))  (hp : pc + 1 = pc') (r : Go p e below Rest T (mkF m pc' L (.int (x <<< (y &&& 31)) :: S))) : Go p e below Rest T (mkF m pc L (.int y :: .int x :: S)) := by
  obtain ⟨_, X, -, -⟩ := X; obtain ⟨hx, hby, -⟩ := C; subst hp
  exact go_by (fun t k => XS.ishl X.here hx rfl (hb hby hd) rfl k) r
theorem g_ishr (X : St p l e R s m args below meth c n0 T h cells slots) (C : Cx p s m meth c Z bytes maxL ret own nme) {x : Int32} {y : Int32} (hd : decode bytes pc = .ok (.ishr, 1))  (hp : pc + 1 = pc') (r : Go p e below Rest T (mkF m pc' L (.int (x >>> (y &&& 31)) :: S))) : Go p e below Rest T (mkF m pc L (.int y :: .int x :: S)) := by
  obtain ⟨_, X, -, -⟩ := X; obtain ⟨hx, hby, -⟩ := C; subst hp
  exact go_by (fun t k => XS.ishr X.here hx rfl (hb hby hd) rfl k) r
theorem g_iushr (X : St p l e R s m args below meth c n0 T h cells slots) (C : Cx p s m meth c Z bytes maxL ret own nme) {x : Int32} {y : Int32} (hd : decode bytes pc = .ok (.iushr, 1))  (hp : pc + 1 = pc') (r : Go p e below Rest T (mkF m pc' L (.int ((x.toUInt32 >>> (y &&& 31).toUInt32).toInt32) :: S))) : Go p e below Rest T (mkF m pc L (.int y :: .int x :: S)) := by
  obtain ⟨_, X, -, -⟩ := X; obtain ⟨hx, hby, -⟩ := C; subst hp
  exact go_by (fun t k => XS.iushr X.here hx rfl (hb hby hd) rfl k) r
theorem g_lshl (X : St p l e R s m args below meth c n0 T h cells slots) (C : Cx p s m meth c Z bytes maxL ret own nme) {x : Int64} {y : Int32} (hd : decode bytes pc = .ok (.lshl, 1))  (hp : pc + 1 = pc') (r : Go p e below Rest T (mkF m pc' L (.long (x <<< (y &&& 0x3f).toInt64) :: S))) : Go p e below Rest T (mkF m pc L (.int y :: .long x :: S)) := by
  obtain ⟨_, X, -, -⟩ := X; obtain ⟨hx, hby, -⟩ := C; subst hp
  exact go_by (fun t k => XS.lshl X.here hx rfl (hb hby hd) rfl k) r
theorem g_lshr (X : St p l e R s m args below meth c n0 T h cells slots) (C : Cx p s m meth c Z bytes maxL ret own nme) {x : Int64} {y : Int32} (hd : decode bytes pc = .ok (.lshr, 1))  (hp : pc + 1 = pc') (r : Go p e below Rest T (mkF m pc' L (.long (x >>> (y &&& 0x3f).toInt64) :: S))) : Go p e below Rest T (mkF m pc L (.int y :: .long x :: S)) := by
  obtain ⟨_, X, -, -⟩ := X; obtain ⟨hx, hby, -⟩ := C; subst hp
  exact go_by (fun t k => XS.lshr X.here hx rfl (hb hby hd) rfl k) r
theorem g_lushr (X : St p l e R s m args below meth c n0 T h cells slots) (C : Cx p s m meth c Z bytes maxL ret own nme) {x : Int64} {y : Int32} (hd : decode bytes pc = .ok (.lushr, 1))  (hp : pc + 1 = pc') (r : Go p e below Rest T (mkF m pc' L (.long ((x.toUInt64 >>> (y &&& 0x3f).toInt64.toUInt64).toInt64) :: S))) : Go p e below Rest T (mkF m pc L (.int y :: .long x :: S)) := by
  obtain ⟨_, X, -, -⟩ := X; obtain ⟨hx, hby, -⟩ := C; subst hp
  exact go_by (fun t k => XS.lushr X.here hx rfl (hb hby hd) rfl k) r
theorem g_idiv (X : St p l e R s m args below meth c n0 T h cells slots) (C : Cx p s m meth c Z bytes maxL ret own nme) {x y : Int32} (hd : decode bytes pc = .ok (.idiv, 1)) (hy : y ≠ 0) (hp : pc + 1 = pc') (r : Go p e below Rest T (mkF m pc' L (.int (x / y) :: S))) : Go p e below Rest T (mkF m pc L (.int y :: .int x :: S)) := by
  obtain ⟨_, X, -, -⟩ := X; obtain ⟨hx, hby, -⟩ := C; subst hp
  exact go_by (fun t k => XS.idiv X.here hx rfl (hb hby hd) rfl hy k) r
theorem g_ldiv (X : St p l e R s m args below meth c n0 T h cells slots) (C : Cx p s m meth c Z bytes maxL ret own nme) {x y : Int64} (hd : decode bytes pc = .ok (.ldiv, 1)) (hy : y ≠ 0) (hp : pc + 1 = pc') (r : Go p e below Rest T (mkF m pc' L (.long (x / y) :: S))) : Go p e below Rest T (mkF m pc L (.long y :: .long x :: S)) := by
  obtain ⟨_, X, -, -⟩ := X; obtain ⟨hx, hby, -⟩ := C; subst hp
  exact go_by (fun t k => XS.ldiv X.here hx rfl (hb hby hd) rfl hy k) r
theorem g_ineg (X : St p l e R s m args below meth c n0 T h cells slots) (C : Cx p s m meth c Z bytes maxL ret own nme) {x : Int32} (hd : decode bytes pc = .ok (.ineg, 1))  (hp : pc + 1 = pc') (r : Go p e below Rest T (mkF m pc' L (.int ((-x)) :: S))) : Go p e below Rest T (mkF m pc L (.int x :: S)) := by
  obtain ⟨_, X, -, -⟩ := X; obtain ⟨hx, hby, -⟩ := C; subst hp
  exact go_by (fun t k => XS.ineg X.here hx rfl (hb hby hd) rfl k) r
theorem g_lneg (X : St p l e R s m args below meth c n0 T h cells slots) (C : Cx p s m meth c Z bytes maxL ret own nme) {x : Int64} (hd : decode bytes pc = .ok (.lneg, 1))  (hp : pc + 1 = pc') (r : Go p e below Rest T (mkF m pc' L (.long ((-x)) :: S))) : Go p e below Rest T (mkF m pc L (.long x :: S)) := by
  obtain ⟨_, X, -, -⟩ := X; obtain ⟨hx, hby, -⟩ := C; subst hp
  exact go_by (fun t k => XS.lneg X.here hx rfl (hb hby hd) rfl k) r
theorem g_i2l (X : St p l e R s m args below meth c n0 T h cells slots) (C : Cx p s m meth c Z bytes maxL ret own nme) {x : Int32} (hd : decode bytes pc = .ok (.i2l, 1))  (hp : pc + 1 = pc') (r : Go p e below Rest T (mkF m pc' L (.long (x.toInt64) :: S))) : Go p e below Rest T (mkF m pc L (.int x :: S)) := by
  obtain ⟨_, X, -, -⟩ := X; obtain ⟨hx, hby, -⟩ := C; subst hp
  exact go_by (fun t k => XS.i2l X.here hx rfl (hb hby hd) rfl k) r
theorem g_l2i (X : St p l e R s m args below meth c n0 T h cells slots) (C : Cx p s m meth c Z bytes maxL ret own nme) {x : Int64} (hd : decode bytes pc = .ok (.l2i, 1))  (hp : pc + 1 = pc') (r : Go p e below Rest T (mkF m pc' L (.int (x.toInt32) :: S))) : Go p e below Rest T (mkF m pc L (.long x :: S)) := by
  obtain ⟨_, X, -, -⟩ := X; obtain ⟨hx, hby, -⟩ := C; subst hp
  exact go_by (fun t k => XS.l2i X.here hx rfl (hb hby hd) rfl k) r
theorem g_i2b (X : St p l e R s m args below meth c n0 T h cells slots) (C : Cx p s m meth c Z bytes maxL ret own nme) {x : Int32} (hd : decode bytes pc = .ok (.i2b, 1))  (hp : pc + 1 = pc') (r : Go p e below Rest T (mkF m pc' L (.int (x.toInt8.toInt32) :: S))) : Go p e below Rest T (mkF m pc L (.int x :: S)) := by
  obtain ⟨_, X, -, -⟩ := X; obtain ⟨hx, hby, -⟩ := C; subst hp
  exact go_by (fun t k => XS.i2b X.here hx rfl (hb hby hd) rfl k) r
theorem g_i2s (X : St p l e R s m args below meth c n0 T h cells slots) (C : Cx p s m meth c Z bytes maxL ret own nme) {x : Int32} (hd : decode bytes pc = .ok (.i2s, 1))  (hp : pc + 1 = pc') (r : Go p e below Rest T (mkF m pc' L (.int (x.toInt16.toInt32) :: S))) : Go p e below Rest T (mkF m pc L (.int x :: S)) := by
  obtain ⟨_, X, -, -⟩ := X; obtain ⟨hx, hby, -⟩ := C; subst hp
  exact go_by (fun t k => XS.i2s X.here hx rfl (hb hby hd) rfl k) r
theorem g_i2c (X : St p l e R s m args below meth c n0 T h cells slots) (C : Cx p s m meth c Z bytes maxL ret own nme) {x : Int32} (hd : decode bytes pc = .ok (.i2c, 1))  (hp : pc + 1 = pc') (r : Go p e below Rest T (mkF m pc' L (.int (x.toUInt32.toUInt16.toUInt32.toInt32) :: S))) : Go p e below Rest T (mkF m pc L (.int x :: S)) := by
  obtain ⟨_, X, -, -⟩ := X; obtain ⟨hx, hby, -⟩ := C; subst hp
  exact go_by (fun t k => XS.i2c X.here hx rfl (hb hby hd) rfl k) r
theorem g_lcmp (X : St p l e R s m args below meth c n0 T h cells slots) (C : Cx p s m meth c Z bytes maxL ret own nme) {x y : Int64} (hd : decode bytes pc = .ok (.lcmp, 1))  (hp : pc + 1 = pc') (r : Go p e below Rest T (mkF m pc' L (.int (lcmpW x y) :: S))) : Go p e below Rest T (mkF m pc L (.long y :: .long x :: S)) := by
  obtain ⟨_, X, -, -⟩ := X; obtain ⟨hx, hby, -⟩ := C; subst hp
  exact go_by (fun t k => XS.lcmp X.here hx rfl (hb hby hd) rfl k) r
theorem g_dup (X : St p l e R s m args below meth c n0 T h cells slots) (C : Cx p s m meth c Z bytes maxL ret own nme) {x : Value} (hd : decode bytes pc = .ok (.dup, 1)) (hc : x.category = 1) (hp : pc + 1 = pc') (r : Go p e below Rest T (mkF m pc' L (x :: x :: S))) : Go p e below Rest T (mkF m pc L (x :: S)) := by
  obtain ⟨_, X, -, -⟩ := X; obtain ⟨hx, hby, -⟩ := C; subst hp
  exact go_by (fun t k => XS.dup X.here hx rfl (hb hby hd) rfl hc k) r
theorem g_pop (X : St p l e R s m args below meth c n0 T h cells slots) (C : Cx p s m meth c Z bytes maxL ret own nme) {x : Value} (hd : decode bytes pc = .ok (.pop, 1)) (hc : x.category = 1) (hp : pc + 1 = pc') (r : Go p e below Rest T (mkF m pc' L S)) : Go p e below Rest T (mkF m pc L (x :: S)) := by
  obtain ⟨_, X, -, -⟩ := X; obtain ⟨hx, hby, -⟩ := C; subst hp
  exact go_by (fun t k => XS.pop X.here hx rfl (hb hby hd) rfl hc k) r
theorem g_dupx1 (X : St p l e R s m args below meth c n0 T h cells slots) (C : Cx p s m meth c Z bytes maxL ret own nme) {x y : Value} (hd : decode bytes pc = .ok (.dup_x1, 1)) (hc : x.category = 1) (hc' : y.category = 1) (hp : pc + 1 = pc') (r : Go p e below Rest T (mkF m pc' L (x :: y :: x :: S))) : Go p e below Rest T (mkF m pc L (x :: y :: S)) := by
  obtain ⟨_, X, -, -⟩ := X; obtain ⟨hx, hby, -⟩ := C; subst hp
  exact go_by (fun t k => XS.dupX1 X.here hx rfl (hb hby hd) rfl hc hc' k) r
theorem g_dup2 (X : St p l e R s m args below meth c n0 T h cells slots) (C : Cx p s m meth c Z bytes maxL ret own nme) {x y : Value} (hd : decode bytes pc = .ok (.dup2, 1)) (hc : x.category = 1) (hc' : y.category = 1) (hp : pc + 1 = pc') (r : Go p e below Rest T (mkF m pc' L (x :: y :: x :: y :: S))) : Go p e below Rest T (mkF m pc L (x :: y :: S)) := by
  obtain ⟨_, X, -, -⟩ := X; obtain ⟨hx, hby, -⟩ := C; subst hp
  exact go_by (fun t k => XT.dup2 X.here hx rfl (hb hby hd) rfl hc hc' k) r
theorem g_dup2L (X : St p l e R s m args below meth c n0 T h cells slots) (C : Cx p s m meth c Z bytes maxL ret own nme) {x : Int64} (hd : decode bytes pc = .ok (.dup2, 1))  (hp : pc + 1 = pc') (r : Go p e below Rest T (mkF m pc' L (.long x :: .long x :: S))) : Go p e below Rest T (mkF m pc L (.long x :: S)) := by
  obtain ⟨_, X, -, -⟩ := X; obtain ⟨hx, hby, -⟩ := C; subst hp
  exact go_by (fun t k => XT.dup2L X.here hx rfl (hb hby hd) rfl k) r
theorem g_iinc (X : St p l e R s m args below meth c n0 T h cells slots) (C : Cx p s m meth c Z bytes maxL ret own nme) {k : Nat} {i : Int} {v v' : Int32} (hd : decode bytes pc = .ok (.iinc k i, 3)) (hl : L[k]? = some (.val (.int v))) (hv : v' = v + Int32.ofInt i) (hs : storeLocals L k (.int v') = some L') (hp : pc + 3 = pc') (r : Go p e below Rest T (mkF m pc' L' S)) : Go p e below Rest T (mkF m pc L S) := by
  obtain ⟨_, X, -, -⟩ := X; obtain ⟨hx, hby, -⟩ := C; subst hp
  exact go_by (fun t k => XS.iinc X.here hx rfl (hb hby hd) hl (hv ▸ hs) k) r
theorem g_goto (X : St p l e R s m args below meth c n0 T h cells slots) (C : Cx p s m meth c Z bytes maxL ret own nme) {o : Int} (hd : decode bytes pc = .ok (.goto o, 3)) (h0 : 0 ≤ (pc : Int) + o) (hp : ((pc : Int) + o).toNat = pc') (r : Go p e below Rest T (mkF m pc' L S)) : Go p e below Rest T (mkF m pc L S) := by
  obtain ⟨_, X, -, -⟩ := X; obtain ⟨hx, hby, -⟩ := C
  exact go_by (fun t k => XS.goto X.here hx rfl (pc0 := pc) rfl (hb hby hd) h0 hp k) r
theorem g_icmp (X : St p l e R s m args below meth c n0 T h cells slots) (C : Cx p s m meth c Z bytes maxL ret own nme) {cd : ClassFile.Cond} {o : Int} {x y : Int32} {pT pF : Nat} (hd : decode bytes pc = .ok (.if_icmp cd o, 3)) (h0 : 0 ≤ (pc : Int) + o) (hT : ((pc : Int) + o).toNat = pT) (hF : pc + 3 = pF) (r1 : if_icmp.holds cd x y = true → Go p e below Rest T (mkF m pT L S)) (r2 : if_icmp.holds cd x y = false → Go p e below Rest T (mkF m pF L S)) : Go p e below Rest T (mkF m pc L (.int y :: .int x :: S)) := by
  obtain ⟨_, X, -, -⟩ := X; obtain ⟨hx, hby, -⟩ := C
  rcases Bool.eq_false_or_eq_true (if_icmp.holds cd x y) with q | q
  · exact go_by (fun t k => XS.icmpYes X.here hx rfl (pc0 := pc) rfl (hb hby hd) rfl q h0 hT k) (r1 q)
  · subst hF; exact go_by (fun t k => XS.icmpNo X.here hx rfl (hb hby hd) rfl q k) (r2 q)
theorem g_if (X : St p l e R s m args below meth c n0 T h cells slots) (C : Cx p s m meth c Z bytes maxL ret own nme) {cd : ClassFile.Cond} {o : Int} {x : Int32} {pT pF : Nat} (hd : decode bytes pc = .ok (.ifCond cd o, 3)) (h0 : 0 ≤ (pc : Int) + o) (hT : ((pc : Int) + o).toNat = pT) (hF : pc + 3 = pF) (r1 : if_icmp.holds cd x 0 = true → Go p e below Rest T (mkF m pT L S)) (r2 : if_icmp.holds cd x 0 = false → Go p e below Rest T (mkF m pF L S)) : Go p e below Rest T (mkF m pc L (.int x :: S)) := by
  obtain ⟨_, X, -, -⟩ := X; obtain ⟨hx, hby, -⟩ := C
  rcases Bool.eq_false_or_eq_true (if_icmp.holds cd x 0) with q | q
  · exact go_by (fun t k => XS.ifYes X.here hx rfl (pc0 := pc) rfl (hb hby hd) rfl ((if0 _ _).trans q) h0 hT k) (r1 q)
  · subst hF; exact go_by (fun t k => XS.ifNo X.here hx rfl (hb hby hd) rfl ((if0 _ _).trans q) k) (r2 q)
theorem hold_lt {x y : Int32} {a b : Int} (ha : x.toInt = a) (hb' : y.toInt = b) : (if_icmp.holds .lt x y = true → a < b) ∧ (if_icmp.holds .lt x y = false → b ≤ a) := by
  subst ha hb'
  constructor <;> intro q <;> simp [if_icmp.holds, Int32.lt_iff_toInt_lt, Int32.le_iff_toInt_le, ← Int32.toInt_inj] at q <;> omega
theorem g_icmp_lt (X : St p l e R s m args below meth c n0 T h cells slots) (C : Cx p s m meth c Z bytes maxL ret own nme) {o : Int} {x y : Int32} {a b : Int} {pT pF : Nat} (hd : decode bytes pc = .ok (.if_icmp .lt o, 3)) (ha : x.toInt = a) (hb' : y.toInt = b) (h0 : 0 ≤ (pc : Int) + o) (hT : ((pc : Int) + o).toNat = pT) (hF : pc + 3 = pF) (r1 : a < b → Go p e below Rest T (mkF m pT L S)) (r2 : b ≤ a → Go p e below Rest T (mkF m pF L S)) : Go p e below Rest T (mkF m pc L (.int y :: .int x :: S)) :=
  g_icmp X C hd h0 hT hF (fun q => r1 ((hold_lt ha hb').1 q)) (fun q => r2 ((hold_lt ha hb').2 q))
theorem g_if_lt (X : St p l e R s m args below meth c n0 T h cells slots) (C : Cx p s m meth c Z bytes maxL ret own nme) {o : Int} {x : Int32} {a : Int} {pT pF : Nat} (hd : decode bytes pc = .ok (.ifCond .lt o, 3)) (ha : x.toInt = a) (h0 : 0 ≤ (pc : Int) + o) (hT : ((pc : Int) + o).toNat = pT) (hF : pc + 3 = pF) (r1 : a < 0 → Go p e below Rest T (mkF m pT L S)) (r2 : 0 ≤ a → Go p e below Rest T (mkF m pF L S)) : Go p e below Rest T (mkF m pc L (.int x :: S)) :=
  g_if X C hd h0 hT hF (fun q => r1 ((hold_lt ha (by decide)).1 q)) (fun q => r2 ((hold_lt ha (by decide)).2 q))
theorem hlc_lt {x y : Int64} {a b : Int} (ha : x.toInt = a) (hb' : y.toInt = b) : (if_icmp.holds .lt (lcmpW x y) 0 = true → a < b) ∧ (if_icmp.holds .lt (lcmpW x y) 0 = false → b ≤ a) := by
  have h1 := c_lcmp x y; subst ha hb'
  have h3 := hold_lt (x := lcmpW x y) (y := 0) rfl (b := 0) (by decide)
  refine ⟨fun q => ?_, fun q => ?_⟩
  · have := h3.1 q; omega
  · have := h3.2 q; omega
theorem g_lif_lt (X : St p l e R s m args below meth c n0 T h cells slots) (C : Cx p s m meth c Z bytes maxL ret own nme) {o : Int} {x y : Int64} {a b : Int} {pT pF : Nat} (hd : decode bytes pc = .ok (.ifCond .lt o, 3)) (ha : x.toInt = a) (hb' : y.toInt = b) (h0 : 0 ≤ (pc : Int) + o) (hT : ((pc : Int) + o).toNat = pT) (hF : pc + 3 = pF) (r1 : a < b → Go p e below Rest T (mkF m pT L S)) (r2 : b ≤ a → Go p e below Rest T (mkF m pF L S)) : Go p e below Rest T (mkF m pc L (.int (lcmpW x y) :: S)) :=
  g_if X C hd h0 hT hF (fun q => r1 ((hlc_lt ha hb').1 q)) (fun q => r2 ((hlc_lt ha hb').2 q))
theorem hold_ge {x y : Int32} {a b : Int} (ha : x.toInt = a) (hb' : y.toInt = b) : (if_icmp.holds .ge x y = true → b ≤ a) ∧ (if_icmp.holds .ge x y = false → a < b) := by
  subst ha hb'
  constructor <;> intro q <;> simp [if_icmp.holds, Int32.lt_iff_toInt_lt, Int32.le_iff_toInt_le, ← Int32.toInt_inj] at q <;> omega
theorem g_icmp_ge (X : St p l e R s m args below meth c n0 T h cells slots) (C : Cx p s m meth c Z bytes maxL ret own nme) {o : Int} {x y : Int32} {a b : Int} {pT pF : Nat} (hd : decode bytes pc = .ok (.if_icmp .ge o, 3)) (ha : x.toInt = a) (hb' : y.toInt = b) (h0 : 0 ≤ (pc : Int) + o) (hT : ((pc : Int) + o).toNat = pT) (hF : pc + 3 = pF) (r1 : b ≤ a → Go p e below Rest T (mkF m pT L S)) (r2 : a < b → Go p e below Rest T (mkF m pF L S)) : Go p e below Rest T (mkF m pc L (.int y :: .int x :: S)) :=
  g_icmp X C hd h0 hT hF (fun q => r1 ((hold_ge ha hb').1 q)) (fun q => r2 ((hold_ge ha hb').2 q))
theorem g_if_ge (X : St p l e R s m args below meth c n0 T h cells slots) (C : Cx p s m meth c Z bytes maxL ret own nme) {o : Int} {x : Int32} {a : Int} {pT pF : Nat} (hd : decode bytes pc = .ok (.ifCond .ge o, 3)) (ha : x.toInt = a) (h0 : 0 ≤ (pc : Int) + o) (hT : ((pc : Int) + o).toNat = pT) (hF : pc + 3 = pF) (r1 : 0 ≤ a → Go p e below Rest T (mkF m pT L S)) (r2 : a < 0 → Go p e below Rest T (mkF m pF L S)) : Go p e below Rest T (mkF m pc L (.int x :: S)) :=
  g_if X C hd h0 hT hF (fun q => r1 ((hold_ge ha (by decide)).1 q)) (fun q => r2 ((hold_ge ha (by decide)).2 q))
theorem hlc_ge {x y : Int64} {a b : Int} (ha : x.toInt = a) (hb' : y.toInt = b) : (if_icmp.holds .ge (lcmpW x y) 0 = true → b ≤ a) ∧ (if_icmp.holds .ge (lcmpW x y) 0 = false → a < b) := by
  have h1 := c_lcmp x y; subst ha hb'
  have h3 := hold_ge (x := lcmpW x y) (y := 0) rfl (b := 0) (by decide)
  refine ⟨fun q => ?_, fun q => ?_⟩
  · have := h3.1 q; omega
  · have := h3.2 q; omega
theorem g_lif_ge (X : St p l e R s m args below meth c n0 T h cells slots) (C : Cx p s m meth c Z bytes maxL ret own nme) {o : Int} {x y : Int64} {a b : Int} {pT pF : Nat} (hd : decode bytes pc = .ok (.ifCond .ge o, 3)) (ha : x.toInt = a) (hb' : y.toInt = b) (h0 : 0 ≤ (pc : Int) + o) (hT : ((pc : Int) + o).toNat = pT) (hF : pc + 3 = pF) (r1 : b ≤ a → Go p e below Rest T (mkF m pT L S)) (r2 : a < b → Go p e below Rest T (mkF m pF L S)) : Go p e below Rest T (mkF m pc L (.int (lcmpW x y) :: S)) :=
  g_if X C hd h0 hT hF (fun q => r1 ((hlc_ge ha hb').1 q)) (fun q => r2 ((hlc_ge ha hb').2 q))
theorem hold_gt {x y : Int32} {a b : Int} (ha : x.toInt = a) (hb' : y.toInt = b) : (if_icmp.holds .gt x y = true → b < a) ∧ (if_icmp.holds .gt x y = false → a ≤ b) := by
  subst ha hb'
  constructor <;> intro q <;> simp [if_icmp.holds, Int32.lt_iff_toInt_lt, Int32.le_iff_toInt_le, ← Int32.toInt_inj] at q <;> omega
theorem g_icmp_gt (X : St p l e R s m args below meth c n0 T h cells slots) (C : Cx p s m meth c Z bytes maxL ret own nme) {o : Int} {x y : Int32} {a b : Int} {pT pF : Nat} (hd : decode bytes pc = .ok (.if_icmp .gt o, 3)) (ha : x.toInt = a) (hb' : y.toInt = b) (h0 : 0 ≤ (pc : Int) + o) (hT : ((pc : Int) + o).toNat = pT) (hF : pc + 3 = pF) (r1 : b < a → Go p e below Rest T (mkF m pT L S)) (r2 : a ≤ b → Go p e below Rest T (mkF m pF L S)) : Go p e below Rest T (mkF m pc L (.int y :: .int x :: S)) :=
  g_icmp X C hd h0 hT hF (fun q => r1 ((hold_gt ha hb').1 q)) (fun q => r2 ((hold_gt ha hb').2 q))
theorem g_if_gt (X : St p l e R s m args below meth c n0 T h cells slots) (C : Cx p s m meth c Z bytes maxL ret own nme) {o : Int} {x : Int32} {a : Int} {pT pF : Nat} (hd : decode bytes pc = .ok (.ifCond .gt o, 3)) (ha : x.toInt = a) (h0 : 0 ≤ (pc : Int) + o) (hT : ((pc : Int) + o).toNat = pT) (hF : pc + 3 = pF) (r1 : 0 < a → Go p e below Rest T (mkF m pT L S)) (r2 : a ≤ 0 → Go p e below Rest T (mkF m pF L S)) : Go p e below Rest T (mkF m pc L (.int x :: S)) :=
  g_if X C hd h0 hT hF (fun q => r1 ((hold_gt ha (by decide)).1 q)) (fun q => r2 ((hold_gt ha (by decide)).2 q))
theorem hlc_gt {x y : Int64} {a b : Int} (ha : x.toInt = a) (hb' : y.toInt = b) : (if_icmp.holds .gt (lcmpW x y) 0 = true → b < a) ∧ (if_icmp.holds .gt (lcmpW x y) 0 = false → a ≤ b) := by
  have h1 := c_lcmp x y; subst ha hb'
  have h3 := hold_gt (x := lcmpW x y) (y := 0) rfl (b := 0) (by decide)
  refine ⟨fun q => ?_, fun q => ?_⟩
  · have := h3.1 q; omega
  · have := h3.2 q; omega
theorem g_lif_gt (X : St p l e R s m args below meth c n0 T h cells slots) (C : Cx p s m meth c Z bytes maxL ret own nme) {o : Int} {x y : Int64} {a b : Int} {pT pF : Nat} (hd : decode bytes pc = .ok (.ifCond .gt o, 3)) (ha : x.toInt = a) (hb' : y.toInt = b) (h0 : 0 ≤ (pc : Int) + o) (hT : ((pc : Int) + o).toNat = pT) (hF : pc + 3 = pF) (r1 : b < a → Go p e below Rest T (mkF m pT L S)) (r2 : a ≤ b → Go p e below Rest T (mkF m pF L S)) : Go p e below Rest T (mkF m pc L (.int (lcmpW x y) :: S)) :=
  g_if X C hd h0 hT hF (fun q => r1 ((hlc_gt ha hb').1 q)) (fun q => r2 ((hlc_gt ha hb').2 q))
theorem hold_le {x y : Int32} {a b : Int} (ha : x.toInt = a) (hb' : y.toInt = b) : (if_icmp.holds .le x y = true → a ≤ b) ∧ (if_icmp.holds .le x y = false → b < a) := by
  subst ha hb'
  constructor <;> intro q <;> simp [if_icmp.holds, Int32.lt_iff_toInt_lt, Int32.le_iff_toInt_le, ← Int32.toInt_inj] at q <;> omega
theorem g_icmp_le (X : St p l e R s m args below meth c n0 T h cells slots) (C : Cx p s m meth c Z bytes maxL ret own nme) {o : Int} {x y : Int32} {a b : Int} {pT pF : Nat} (hd : decode bytes pc = .ok (.if_icmp .le o, 3)) (ha : x.toInt = a) (hb' : y.toInt = b) (h0 : 0 ≤ (pc : Int) + o) (hT : ((pc : Int) + o).toNat = pT) (hF : pc + 3 = pF) (r1 : a ≤ b → Go p e below Rest T (mkF m pT L S)) (r2 : b < a → Go p e below Rest T (mkF m pF L S)) : Go p e below Rest T (mkF m pc L (.int y :: .int x :: S)) :=
  g_icmp X C hd h0 hT hF (fun q => r1 ((hold_le ha hb').1 q)) (fun q => r2 ((hold_le ha hb').2 q))
theorem g_if_le (X : St p l e R s m args below meth c n0 T h cells slots) (C : Cx p s m meth c Z bytes maxL ret own nme) {o : Int} {x : Int32} {a : Int} {pT pF : Nat} (hd : decode bytes pc = .ok (.ifCond .le o, 3)) (ha : x.toInt = a) (h0 : 0 ≤ (pc : Int) + o) (hT : ((pc : Int) + o).toNat = pT) (hF : pc + 3 = pF) (r1 : a ≤ 0 → Go p e below Rest T (mkF m pT L S)) (r2 : 0 < a → Go p e below Rest T (mkF m pF L S)) : Go p e below Rest T (mkF m pc L (.int x :: S)) :=
  g_if X C hd h0 hT hF (fun q => r1 ((hold_le ha (by decide)).1 q)) (fun q => r2 ((hold_le ha (by decide)).2 q))
theorem hlc_le {x y : Int64} {a b : Int} (ha : x.toInt = a) (hb' : y.toInt = b) : (if_icmp.holds .le (lcmpW x y) 0 = true → a ≤ b) ∧ (if_icmp.holds .le (lcmpW x y) 0 = false → b < a) := by
  have h1 := c_lcmp x y; subst ha hb'
  have h3 := hold_le (x := lcmpW x y) (y := 0) rfl (b := 0) (by decide)
  refine ⟨fun q => ?_, fun q => ?_⟩
  · have := h3.1 q; omega
  · have := h3.2 q; omega
theorem g_lif_le (X : St p l e R s m args below meth c n0 T h cells slots) (C : Cx p s m meth c Z bytes maxL ret own nme) {o : Int} {x y : Int64} {a b : Int} {pT pF : Nat} (hd : decode bytes pc = .ok (.ifCond .le o, 3)) (ha : x.toInt = a) (hb' : y.toInt = b) (h0 : 0 ≤ (pc : Int) + o) (hT : ((pc : Int) + o).toNat = pT) (hF : pc + 3 = pF) (r1 : a ≤ b → Go p e below Rest T (mkF m pT L S)) (r2 : b < a → Go p e below Rest T (mkF m pF L S)) : Go p e below Rest T (mkF m pc L (.int (lcmpW x y) :: S)) :=
  g_if X C hd h0 hT hF (fun q => r1 ((hlc_le ha hb').1 q)) (fun q => r2 ((hlc_le ha hb').2 q))
theorem hold_eq {x y : Int32} {a b : Int} (ha : x.toInt = a) (hb' : y.toInt = b) : (if_icmp.holds .eq x y = true → a = b) ∧ (if_icmp.holds .eq x y = false → a ≠ b) := by
  subst ha hb'
  constructor <;> intro q <;> simp [if_icmp.holds, Int32.lt_iff_toInt_lt, Int32.le_iff_toInt_le, ← Int32.toInt_inj] at q <;> omega
theorem g_icmp_eq (X : St p l e R s m args below meth c n0 T h cells slots) (C : Cx p s m meth c Z bytes maxL ret own nme) {o : Int} {x y : Int32} {a b : Int} {pT pF : Nat} (hd : decode bytes pc = .ok (.if_icmp .eq o, 3)) (ha : x.toInt = a) (hb' : y.toInt = b) (h0 : 0 ≤ (pc : Int) + o) (hT : ((pc : Int) + o).toNat = pT) (hF : pc + 3 = pF) (r1 : a = b → Go p e below Rest T (mkF m pT L S)) (r2 : a ≠ b → Go p e below Rest T (mkF m pF L S)) : Go p e below Rest T (mkF m pc L (.int y :: .int x :: S)) :=
  g_icmp X C hd h0 hT hF (fun q => r1 ((hold_eq ha hb').1 q)) (fun q => r2 ((hold_eq ha hb').2 q))
theorem g_if_eq (X : St p l e R s m args below meth c n0 T h cells slots) (C : Cx p s m meth c Z bytes maxL ret own nme) {o : Int} {x : Int32} {a : Int} {pT pF : Nat} (hd : decode bytes pc = .ok (.ifCond .eq o, 3)) (ha : x.toInt = a) (h0 : 0 ≤ (pc : Int) + o) (hT : ((pc : Int) + o).toNat = pT) (hF : pc + 3 = pF) (r1 : a = 0 → Go p e below Rest T (mkF m pT L S)) (r2 : a ≠ 0 → Go p e below Rest T (mkF m pF L S)) : Go p e below Rest T (mkF m pc L (.int x :: S)) :=
  g_if X C hd h0 hT hF (fun q => r1 ((hold_eq ha (by decide)).1 q)) (fun q => r2 ((hold_eq ha (by decide)).2 q))
theorem hlc_eq {x y : Int64} {a b : Int} (ha : x.toInt = a) (hb' : y.toInt = b) : (if_icmp.holds .eq (lcmpW x y) 0 = true → a = b) ∧ (if_icmp.holds .eq (lcmpW x y) 0 = false → a ≠ b) := by
  have h1 := c_lcmp x y; subst ha hb'
  have h3 := hold_eq (x := lcmpW x y) (y := 0) rfl (b := 0) (by decide)
  refine ⟨fun q => ?_, fun q => ?_⟩
  · have := h3.1 q; omega
  · have := h3.2 q; omega
theorem g_lif_eq (X : St p l e R s m args below meth c n0 T h cells slots) (C : Cx p s m meth c Z bytes maxL ret own nme) {o : Int} {x y : Int64} {a b : Int} {pT pF : Nat} (hd : decode bytes pc = .ok (.ifCond .eq o, 3)) (ha : x.toInt = a) (hb' : y.toInt = b) (h0 : 0 ≤ (pc : Int) + o) (hT : ((pc : Int) + o).toNat = pT) (hF : pc + 3 = pF) (r1 : a = b → Go p e below Rest T (mkF m pT L S)) (r2 : a ≠ b → Go p e below Rest T (mkF m pF L S)) : Go p e below Rest T (mkF m pc L (.int (lcmpW x y) :: S)) :=
  g_if X C hd h0 hT hF (fun q => r1 ((hlc_eq ha hb').1 q)) (fun q => r2 ((hlc_eq ha hb').2 q))
theorem hold_ne {x y : Int32} {a b : Int} (ha : x.toInt = a) (hb' : y.toInt = b) : (if_icmp.holds .ne x y = true → a ≠ b) ∧ (if_icmp.holds .ne x y = false → a = b) := by
  subst ha hb'
  constructor <;> intro q <;> simp [if_icmp.holds, Int32.lt_iff_toInt_lt, Int32.le_iff_toInt_le, ← Int32.toInt_inj] at q <;> omega
theorem g_icmp_ne (X : St p l e R s m args below meth c n0 T h cells slots) (C : Cx p s m meth c Z bytes maxL ret own nme) {o : Int} {x y : Int32} {a b : Int} {pT pF : Nat} (hd : decode bytes pc = .ok (.if_icmp .ne o, 3)) (ha : x.toInt = a) (hb' : y.toInt = b) (h0 : 0 ≤ (pc : Int) + o) (hT : ((pc : Int) + o).toNat = pT) (hF : pc + 3 = pF) (r1 : a ≠ b → Go p e below Rest T (mkF m pT L S)) (r2 : a = b → Go p e below Rest T (mkF m pF L S)) : Go p e below Rest T (mkF m pc L (.int y :: .int x :: S)) :=
  g_icmp X C hd h0 hT hF (fun q => r1 ((hold_ne ha hb').1 q)) (fun q => r2 ((hold_ne ha hb').2 q))
theorem g_if_ne (X : St p l e R s m args below meth c n0 T h cells slots) (C : Cx p s m meth c Z bytes maxL ret own nme) {o : Int} {x : Int32} {a : Int} {pT pF : Nat} (hd : decode bytes pc = .ok (.ifCond .ne o, 3)) (ha : x.toInt = a) (h0 : 0 ≤ (pc : Int) + o) (hT : ((pc : Int) + o).toNat = pT) (hF : pc + 3 = pF) (r1 : a ≠ 0 → Go p e below Rest T (mkF m pT L S)) (r2 : a = 0 → Go p e below Rest T (mkF m pF L S)) : Go p e below Rest T (mkF m pc L (.int x :: S)) :=
  g_if X C hd h0 hT hF (fun q => r1 ((hold_ne ha (by decide)).1 q)) (fun q => r2 ((hold_ne ha (by decide)).2 q))
theorem hlc_ne {x y : Int64} {a b : Int} (ha : x.toInt = a) (hb' : y.toInt = b) : (if_icmp.holds .ne (lcmpW x y) 0 = true → a ≠ b) ∧ (if_icmp.holds .ne (lcmpW x y) 0 = false → a = b) := by
  have h1 := c_lcmp x y; subst ha hb'
  have h3 := hold_ne (x := lcmpW x y) (y := 0) rfl (b := 0) (by decide)
  refine ⟨fun q => ?_, fun q => ?_⟩
  · have := h3.1 q; omega
  · have := h3.2 q; omega
theorem g_lif_ne (X : St p l e R s m args below meth c n0 T h cells slots) (C : Cx p s m meth c Z bytes maxL ret own nme) {o : Int} {x y : Int64} {a b : Int} {pT pF : Nat} (hd : decode bytes pc = .ok (.ifCond .ne o, 3)) (ha : x.toInt = a) (hb' : y.toInt = b) (h0 : 0 ≤ (pc : Int) + o) (hT : ((pc : Int) + o).toNat = pT) (hF : pc + 3 = pF) (r1 : a ≠ b → Go p e below Rest T (mkF m pT L S)) (r2 : a = b → Go p e below Rest T (mkF m pF L S)) : Go p e below Rest T (mkF m pc L (.int (lcmpW x y) :: S)) :=
  g_if X C hd h0 hT hF (fun q => r1 ((hlc_ne ha hb').1 q)) (fun q => r2 ((hlc_ne ha hb').2 q))
theorem g_nullY (X : St p l e R s m args below meth c n0 T h cells slots) (C : Cx p s m meth c Z bytes maxL ret own nme) {o : Int} {pT : Nat} (hd : decode bytes pc = .ok (.ifnull o, 3)) (h0 : 0 ≤ (pc : Int) + o) (hT : ((pc : Int) + o).toNat = pT) (r : Go p e below Rest T (mkF m pT L S)) : Go p e below Rest T (mkF m pc L (.null :: S)) := by
  obtain ⟨_, X, -, -⟩ := X; obtain ⟨hx, hby, -⟩ := C
  exact go_by (fun t k => XS.ifnullYes X.here hx rfl (pc0 := pc) rfl (hb hby hd) rfl h0 hT k) r
theorem g_nullN (X : St p l e R s m args below meth c n0 T h cells slots) (C : Cx p s m meth c Z bytes maxL ret own nme) {o : Int} {b : Addr} {pF : Nat} (hd : decode bytes pc = .ok (.ifnull o, 3)) (hF : pc + 3 = pF) (r : Go p e below Rest T (mkF m pF L S)) : Go p e below Rest T (mkF m pc L (.ref b :: S)) := by
  obtain ⟨_, X, -, -⟩ := X; obtain ⟨hx, hby, -⟩ := C; subst hF
  exact go_by (fun t k => XS.ifnullNo X.here hx rfl (hb hby hd) rfl k) r
theorem g_nonnullY (X : St p l e R s m args below meth c n0 T h cells slots) (C : Cx p s m meth c Z bytes maxL ret own nme) {o : Int} {b : Addr} {pT : Nat} (hd : decode bytes pc = .ok (.ifnonnull o, 3)) (h0 : 0 ≤ (pc : Int) + o) (hT : ((pc : Int) + o).toNat = pT) (r : Go p e below Rest T (mkF m pT L S)) : Go p e below Rest T (mkF m pc L (.ref b :: S)) := by
  obtain ⟨_, X, -, -⟩ := X; obtain ⟨hx, hby, -⟩ := C
  exact go_by (fun t k => XS.ifnonnullYes X.here hx rfl (pc0 := pc) rfl (hb hby hd) rfl h0 hT k) r
theorem g_nonnullN (X : St p l e R s m args below meth c n0 T h cells slots) (C : Cx p s m meth c Z bytes maxL ret own nme) {o : Int} {pF : Nat} (hd : decode bytes pc = .ok (.ifnonnull o, 3)) (hF : pc + 3 = pF) (r : Go p e below Rest T (mkF m pF L S)) : Go p e below Rest T (mkF m pc L (.null :: S)) := by
  obtain ⟨_, X, -, -⟩ := X; obtain ⟨hx, hby, -⟩ := C; subst hF
  exact go_by (fun t k => XS.ifnonnullNo X.here hx rfl (hb hby hd) rfl k) r
theorem g_irem (X : St p l e R s m args below meth c n0 T h cells slots) (C : Cx p s m meth c Z bytes maxL ret own nme) {x y : Int32} (hd : decode bytes pc = .ok (.irem, 1)) (hy : y ≠ 0) (hp : pc + 1 = pc') (r : Go p e below Rest T (mkF m pc' L (.int (x % y) :: S))) : Go p e below Rest T (mkF m pc L (.int y :: .int x :: S)) := by
  obtain ⟨_, X, -, -⟩ := X; obtain ⟨hx, hby, -⟩ := C; subst hp
  exact go_by (fun t k => iremM X hx rfl (hb hby hd) rfl hy k) r
theorem g_lrem (X : St p l e R s m args below meth c n0 T h cells slots) (C : Cx p s m meth c Z bytes maxL ret own nme) {x y : Int64} (hd : decode bytes pc = .ok (.lrem, 1)) (hy : y ≠ 0) (hp : pc + 1 = pc') (r : Go p e below Rest T (mkF m pc' L (.long (x % y) :: S))) : Go p e below Rest T (mkF m pc L (.long y :: .long x :: S)) := by
  obtain ⟨_, X, -, -⟩ := X; obtain ⟨hx, hby, -⟩ := C; subst hp
  rw [← lrem_mod] at r
  exact go_by (fun t k => XS.lrem X.here hx rfl (hb hby hd) rfl hy k) r
theorem g_ldcI (X : St p l e R s m args below meth c n0 T h cells slots) (C : Cx p s m meth c Z bytes maxL ret own nme) {index : Nat} {v : Int32} (w : (Jvm.Cond.constant own index v).before a0 Z = true) (hd : decode bytes pc = .ok (.ldc index, 2)) (hp : pc + 2 = pc') (r : Go p e below Rest T (mkF m pc' L (.int v :: S))) : Go p e below Rest T (mkF m pc L S) := by
  obtain ⟨_, X, -, -⟩ := X; obtain ⟨hx, hby, -, -, -, hown, -, hZ⟩ := C; subst hp
  exact go_by (X.ldcInt hx hown (mvT hZ w) (g := mkF m pc L S) rfl (hb hby hd)) r
theorem g_ldcJ (X : St p l e R s m args below meth c n0 T h cells slots) (C : Cx p s m meth c Z bytes maxL ret own nme) {index : Nat} {v : Int64} (w : (Jvm.Cond.constantLong own index v).before a0 Z = true) (hd : decode bytes pc = .ok (.ldc2_w index, 3)) (hp : pc + 3 = pc') (r : Go p e below Rest T (mkF m pc' L (.long v :: S))) : Go p e below Rest T (mkF m pc L S) := by
  obtain ⟨_, X, -, -⟩ := X; obtain ⟨hx, hby, -, -, -, hown, -, hZ⟩ := C; subst hp
  exact go_by (X.ldc2Long hx hown (mvT hZ w) (g := mkF m pc L S) rfl (hb hby hd)) r
/-- an array: its kind, its length, what each place holds -/
def Ar (Z : State) (h : Heap) (a : Addr) (ty : FieldType) (n : Nat) (fn : Nat → Value) : Prop := ∃ cl : Cell, Arr Z h a cl ty ∧ cl.slots.size = n ∧ ∀ j, j < n → cl.slots[j]? = some (fn j)
theorem Ar.lt {a : Addr} {ty : FieldType} {n : Nat} {fn : Nat → Value} (A : Ar Z h a ty n fn) : a < h.size := by obtain ⟨_, A, -⟩ := A; exact A.lt
theorem Ar.keep {a : Addr} {ty : FieldType} {n : Nat} {fn : Nat → Value} {ws : List Addr} (A : Ar Z h a ty n fn) (K : Keep h h' ws) (q : a ∉ ws) : Ar Z h' a ty n fn := by
  obtain ⟨cl, A, r⟩ := A; exact ⟨cl, ⟨K.2.1 a cl A.1 q, A.2⟩, r⟩
theorem Ar.congr {a : Addr} {ty : FieldType} {n : Nat} {fn gn : Nat → Value} (A : Ar Z h a ty n fn) (q : ∀ j, j < n → fn j = gn j) : Ar Z h a ty n gn := by
  obtain ⟨cl, A, r1, r2⟩ := A; exact ⟨cl, A, r1, fun j hj => by rw [r2 j hj, q j hj]⟩
theorem Ar.set {a : Addr} {ty : FieldType} {n i : Nat} {fn : Nat → Value} {v : Value} (A : Ar Z h a ty n fn) (hi : i < n) (W : Wr h h' a i v) : Ar Z h' a ty n (fun k => if k = i then v else fn k) := by
  obtain ⟨cl, A, r1, r2⟩ := A
  refine ⟨_, A.same W, by rw [sz_set]; exact r1, fun j hj => ?_⟩
  by_cases q : j = i
  · subst q; simp [Cell.setSlot, Array.getElem?_setIfInBounds, r1, hi]
  · have := r2 j hj; simp [Cell.setSlot, Array.getElem?_setIfInBounds, q, Ne.symm q, this]
theorem keepE (E : Ext h h') : Keep h h' [] := (Keep.refl _ _).ext E
theorem keepE' {ws : List Addr} (E : Ext h h') : Keep h h' ws := (Keep.refl _ _).ext E
theorem nneg {z : Int32} {n : Nat} (hz : z.toInt = n) : ¬ z < 0 := by
  rw [Int32.lt_iff_toInt_lt, hz]; have : (0 : Int32).toInt = 0 := by decide
  omega
theorem addn {x y : Int32} {i k : Nat} (hx : x.toInt = i) (hy : y.toInt = k) (hb : i + k < 2147483648) : (x + y).toInt = (i + k : Nat) := by
  have g1 := c_iadd x y; have g2 := rng32 (x + y); omega
theorem clamp_of {j : Int32} {i : Nat} (hi : j.toInt = i) : j.toNatClampNeg = i := by
  rw [Int32.toNatClampNeg, hi]; simp
theorem inb {j : Int32} {i n : Nat} {cl : Cell} (hi : j.toInt = i) (hlt : i < n) (hs : cl.slots.size = n) : ¬ (j < 0 ∨ cl.slots.size ≤ j.toNatClampNeg) := by
  rw [clamp_of hi, hs]
  rintro (q | q)
  · rw [Int32.lt_iff_toInt_lt, hi] at q; have : (0 : Int32).toInt = 0 := by decide
    omega
  · omega
def Ob (Z : State) (h : Heap) (a : Addr) (K : String) (NS : List (String × String)) (vs : List Value) : Prop := Exa Z h a K ∧ ∀ (i : Nat) (n d : String) (v : Value), NS[i]? = some (n, d) → vs[i]? = some v → Fld Z h a K n d v
def CF (Z : State) (a0 : Array Value) (K : String) (NS : List (String × String)) (k : Nat) : Prop := (NS.map (·.1)).Nodup ∧ (∀ x ∈ NS, Laid Z a0 K K x.1 x.2 ∧ (parseFieldDescriptor x.2).isSome = true) ∧ (Jvm.Cond.instantiable K k).before a0 Z = true
theorem Ob.lt {a : Addr} {K : String} {NS : List (String × String)} {vs : List Value} (O : Ob Z h a K NS vs) : a < h.size := O.1.lt
theorem Ob.keep {a : Addr} {K : String} {NS : List (String × String)} {vs : List Value} {ws : List Addr} (O : Ob Z h a K NS vs) (K' : Keep h h' ws) (q : a ∉ ws) : Ob Z h' a K NS vs := ⟨O.1.keep K', fun i n d v h1 h2 => (O.2 i n d v h1 h2).keep K' q⟩
theorem Ob.put {a : Addr} {K : String} {NS : List (String × String)} {vs vs' : List Value} {k i : Nat} {n d : String} {v old : Value} (O : Ob Z h a K NS vs) (F : CF Z a0 K NS k) (hN : NS[i]? = some (n, d)) (ho : vs[i]? = some old) (hvs : vs.set i v = vs') (W : Wr h h' a (Jvm.RoadKit.slotOf Z K n d) v) : Ob Z h' a K NS vs' := by
  subst hvs
  refine ⟨O.1.wr W, fun j n' d' w h1 h2 => ?_⟩
  by_cases q : j = i
  · subst q
    rw [hN] at h1; obtain ⟨rfl, rfl⟩ := Prod.mk.inj (Option.some.inj h1)
    rw [List.getElem?_set_self (by exact (List.getElem?_eq_some_iff.mp ho).1)] at h2
    obtain rfl := Option.some.inj h2
    exact (O.2 _ _ _ _ hN ho).same W
  · rw [List.getElem?_set_ne (Ne.symm q)] at h2
    have hne : n' ≠ n := by
      intro e
      have h3 : (NS.map (·.1))[j]? = some n' := by rw [List.getElem?_map, h1]; rfl
      have h4 : (NS.map (·.1))[i]? = some n := by rw [List.getElem?_map, hN]; rfl
      obtain ⟨l1, e1⟩ := List.getElem?_eq_some_iff.mp h3
      obtain ⟨l2, e2⟩ := List.getElem?_eq_some_iff.mp h4
      rcases Nat.lt_or_gt_of_ne q with u | u
      · exact (List.pairwise_iff_getElem.mp F.1) j i l1 l2 u (by rw [e1, e2, e])
      · exact (List.pairwise_iff_getElem.mp F.1) i j l2 l1 u (by rw [e1, e2, e])
    obtain ⟨p1, p2⟩ := F.2.1 _ (List.mem_of_getElem? h1)
    obtain ⟨p3, p4⟩ := F.2.1 _ (List.mem_of_getElem? hN)
    obtain ⟨t1, q1⟩ := Option.isSome_iff_exists.mp p2
    obtain ⟨t2, q2⟩ := Option.isSome_iff_exists.mp p4
    exact (O.2 _ _ _ _ h1 h2).other W (Or.inr (slot_ne p1 p3 hne q1 q2))
theorem g_getO (X : St p l e R s m args below meth c n0 T h cells slots) (C : Cx p s m meth c Z bytes maxL ret own nme) {a : Addr} {K n d host : String} {NS : List (String × String)} {vs : List Value} {i index : Nat} {v : Value} (O : Ob Z h a K NS vs) (hN : NS[i]? = some (n, d)) (hv : vs[i]? = some v) (w : (Jvm.Cond.fieldLink own index K n d).before a0 Z = true ∨ (Jvm.Cond.fieldLinkNest own index K n d host).before a0 Z = true) (hd : decode bytes pc = .ok (.getfield index, 3)) (hp : pc + 3 = pc') (r : ∀ T', St p l e R s m args below meth c n0 T' h cells slots → Go p e below Rest T' (mkF m pc' L (v :: S))) : Go p e below Rest T (mkF m pc L (.ref a :: S)) := by
  obtain ⟨locs, X, N, eT⟩ := X; obtain ⟨hx, hby, -, -, -, hown, -, hZ⟩ := C; subst hp
  obtain ⟨T', X', e', st⟩ := getF X hx hZ hown w Via.refl eT (O.2 _ _ _ _ hN hv) (g := mkF m pc L (.ref a :: S)) rfl rfl (hb hby hd)
  exact go_by st (r T' ⟨locs, X', N, e'⟩)
theorem g_putO (X : St p l e R s m args below meth c n0 T h cells slots) (C : Cx p s m meth c Z bytes maxL ret own nme) {a : Addr} {K n d host : String} {NS : List (String × String)} {vs vs' : List Value} {i k index : Nat} {v old : Value} {ty : FieldType} (O : Ob Z h a K NS vs) (F : CF Z a0 K NS k) (hN : NS[i]? = some (n, d)) (ho : vs[i]? = some old) (hvs : vs.set i v = vs') (ga : n0 ≤ a) (w : (Jvm.Cond.fieldLink own index K n d).before a0 Z = true ∨ (Jvm.Cond.fieldLinkNest own index K n d host).before a0 Z = true) (Ly : (Jvm.Cond.lays K K n d).before a0 Z = true ∨ ((Jvm.Cond.laysFinal K K n d).before a0 Z = true ∧ own = K ∧ nme = "<init>")) (hty : parseFieldDescriptor d = some ty) (hn : narrow ty v = v) (hf : fits ty v = true) (hd : decode bytes pc = .ok (.putfield index, 3)) (hp : pc + 3 = pc') (r : ∀ T' h', St p l e R s m args below meth c n0 T' h' cells slots → Ob Z h' a K NS vs' → Keep h h' [a] → Go p e below Rest T' (mkF m pc' L S)) : Go p e below Rest T (mkF m pc L (v :: .ref a :: S)) := by
  obtain ⟨locs, X, N, eT⟩ := X; obtain ⟨hx, hby, -, -, -, hown, hnm, hZ⟩ := C; subst hp
  obtain ⟨T', h', X', e', W, st⟩ := putF X hx hZ hown w Via.refl eT (O.2 _ _ _ _ hN ho) O.1 (Ly.imp id fun q => ⟨q.1, q.2.1, by rw [hnm]; exact q.2.2⟩) F.2.2 hty hn hf (g := mkF m pc L (v :: .ref a :: S)) rfl rfl (hb hby hd)
  exact go_by st (r T' h' ⟨_, X', Fr.snoc X' N ga, e'⟩ (O.put F hN ho hvs W) (Keep.of_wr W))
theorem g_putN (X : St p l e R s m args below meth c n0 T h cells slots) (C : Cx p s m meth c Z bytes maxL ret own nme) {a : Addr} {K n d : String} {NS : List (String × String)} {vs vs' : List Value} {i k index : Nat} {v v' old : Value} {ty : FieldType} (O : Ob Z h a K NS vs) (F : CF Z a0 K NS k) (hN : NS[i]? = some (n, d)) (ho : vs[i]? = some old) (hvs : vs.set i v' = vs') (ga : n0 ≤ a) (w : (Jvm.Cond.fieldLink own index K n d).before a0 Z = true) (Ly : (Jvm.Cond.lays K K n d).before a0 Z = true ∨ ((Jvm.Cond.laysFinal K K n d).before a0 Z = true ∧ own = K ∧ nme = "<init>")) (hty : parseFieldDescriptor d = some ty) (hn : narrow ty v = v') (hf : fits ty v' = true) (hd : decode bytes pc = .ok (.putfield index, 3)) (hp : pc + 3 = pc') (r : ∀ T' h', St p l e R s m args below meth c n0 T' h' cells slots → Ob Z h' a K NS vs' → Keep h h' [a] → Go p e below Rest T' (mkF m pc' L S)) : Go p e below Rest T (mkF m pc L (v :: .ref a :: S)) := by
  obtain ⟨locs, X, N, eT⟩ := X; obtain ⟨hx, hby, -, -, -, hown, hnm, hZ⟩ := C; subst hp
  obtain ⟨T', h', X', e', W, st⟩ := putFN X hx hZ hown w Via.refl eT (O.2 _ _ _ _ hN ho) O.1 (Ly.imp id fun q => ⟨q.1, q.2.1, by rw [hnm]; exact q.2.2⟩) F.2.2 hty hn hf (g := mkF m pc L (v :: .ref a :: S)) rfl rfl (hb hby hd)
  exact go_by st (r T' h' ⟨_, X', Fr.snoc X' N ga, e'⟩ (O.put F hN ho hvs W) (Keep.of_wr W))
def NE (a b : Addr) : Prop := a ≠ b
def Lo (n a : Nat) : Prop := n ≤ a
def Sz (b : Addr) (h : Heap) : Prop := b = h.size
theorem NE.symm {a b : Addr} (q : NE a b) : NE b a := Ne.symm q
theorem Sz.ne {a b : Addr} (q : Sz b h) (r : a < h.size) : NE a b := Nat.ne_of_lt (by rw [show b = h.size from q]; exact r)
theorem Sz.lo {b : Addr} {n : Nat} (q : Sz b h) (r : Lo n h.size) : Lo n b := by rw [show b = h.size from q]; exact r
theorem Lo.keep {n : Nat} {ws : List Addr} (q : Lo n h.size) (K : Keep h h' ws) : Lo n h'.size := Nat.le_trans q K.1
theorem Lo.ne {a b : Addr} (q : Lo h.size b) (r : a < h.size) : NE a b := Nat.ne_of_lt (Nat.lt_of_lt_of_le r q)
theorem lone {a b : Addr} (r : a < h.size) (q : Lo h.size b) : NE a b := Nat.ne_of_lt (Nat.lt_of_lt_of_le r q)
theorem Lo.tr {a b c : Nat} (p : Lo a b) (q : Lo b c) : Lo a c := Nat.le_trans p q
theorem Lo.kt {a : Addr} {h0 : Heap} {ws : List Addr} (K : Keep h0 h ws) (q : Lo h.size a) : Lo h0.size a := Nat.le_trans K.1 q
theorem ninN {x y : Addr} {L : List Addr} (q : NE x y) (r : x ∉ L) : x ∉ y :: L := ninS q r
def dflt (d : String) : Value := match parseFieldDescriptor d with | some ty => defaultValue ty | none => .null
theorem g_newO (X : St p l e R s m args below meth c n0 T h cells slots) (C : Cx p s m meth c Z bytes maxL ret own nme) {K : String} {NS : List (String × String)} {vs : List Value} {index k : Nat} (w : (Jvm.Cond.classLink own index K).before a0 Z = true) (F : CF Z a0 K NS k) (wz : (Jvm.Cond.initialized K).before a0 Z = true) (hvs : NS.map (fun x => dflt x.2) = vs) (hc : cells + 1 ≤ R.cells) (hl : slots + k ≤ R.slots) (hd : decode bytes pc = .ok (.new index, 3)) (hp : pc + 3 = pc') (r : ∀ T' h' b, Sz b h → St p l e R s m args below meth c n0 T' h' (cells + 1) (slots + k) → Ob Z h' b K NS vs → Keep h h' [] → Go p e below Rest T' (mkF m pc' L (.ref b :: S))) : Go p e below Rest T (mkF m pc L S) := by
  obtain ⟨locs, X, N, eT⟩ := X; obtain ⟨hx, hby, -, -, -, hown, hnm, hZ⟩ := C; subst hp hvs
  obtain ⟨T', h', X', e', E, A, D, -, st⟩ := newO X hx hZ hown w F.2.2 wz eT (g := mkF m pc L S) rfl (hb hby hd) hc hl
  refine go_by st (r T' h' _ rfl ⟨_, X', N, e'⟩ ⟨A, fun i n d v h1 h2 => ?_⟩ (keepE E))
  obtain ⟨p1, p2⟩ := F.2.1 _ (List.mem_of_getElem? h1)
  obtain ⟨t1, q1⟩ := Option.isSome_iff_exists.mp p2
  rw [List.getElem?_map, h1] at h2
  obtain rfl := Option.some.inj h2
  have := D p1 q1
  simp only [dflt, q1]
  exact this
theorem g_newarr (X : St p l e R s m args below meth c n0 T h cells slots) (C : Cx p s m meth c Z bytes maxL ret own nme) {aty : ArrayType} {z : Int32} {n cap : Nat} (w : (Jvm.Cond.arrayClass (newarray.typeOf aty)).before a0 Z = true) (hz : z.toInt = n) (hcap : n ≤ cap) (hcb : cap * 8 ≤ 536870912) (hc : cells + 1 ≤ R.cells) (hl : slots + cap ≤ R.slots) (hd : decode bytes pc = .ok (.newarray aty, 2)) (hp : pc + 2 = pc') (r : ∀ T' h' b, Sz b h → St p l e R s m args below meth c n0 T' h' (cells + 1) (slots + cap) → Ar Z h' b (newarray.typeOf aty) n (fun _ => defaultValue (newarray.typeOf aty)) → Keep h h' [] → Go p e below Rest T' (mkF m pc' L (.ref b :: S))) : Go p e below Rest T (mkF m pc L (.int z :: S)) := by
  obtain ⟨locs, X, N, eT⟩ := X; obtain ⟨hx, hby, -, -, -, hown, hnm, hZ⟩ := C; subst hp
  have hneg : ¬ z < 0 := nneg hz
  obtain ⟨T', h', cA, X', e', E, A, st⟩ := newP X hx hZ w eT (g := mkF m pc L (.int z :: S)) rfl (hb hby hd) rfl hneg (cap := cap) (by rw [clamp_of hz]; exact hcap) hcb hc hl
  refine go_by st (r T' h' _ rfl ⟨_, X', N, e'⟩ ⟨_, A, by rw [sz_new, clamp_of hz], fun j hj => ?_⟩ (keepE E))
  simp [newA, clamp_of hz, hj]
def ArR (Z : State) (h : Heap) (a : Addr) (K : String) (n : Nat) (fn : Nat → Value) : Prop := ∃ cl : Cell, Arr Z h a cl (.object K) ∧ Ovr Z cl.cls K ∧ cl.slots.size = n ∧ ∀ j, j < n → cl.slots[j]? = some (fn j)
theorem ArR.lt {a : Addr} {K : String} {n : Nat} {fn : Nat → Value} (A : ArR Z h a K n fn) : a < h.size := by obtain ⟨_, A, -⟩ := A; exact A.lt
theorem ArR.keep {a : Addr} {K : String} {n : Nat} {fn : Nat → Value} {ws : List Addr} (A : ArR Z h a K n fn) (K' : Keep h h' ws) (q : a ∉ ws) : ArR Z h' a K n fn := by
  obtain ⟨cl, A, r⟩ := A; exact ⟨cl, ⟨K'.2.1 a cl A.1 q, A.2⟩, r⟩
theorem g_newR (X : St p l e R s m args below meth c n0 T h cells slots) (C : Cx p s m meth c Z bytes maxL ret own nme) {K : String} {index : Nat} {z : Int32} {n cap : Nat} (w1 : (Jvm.Cond.classLink own index K).before a0 Z = true) (w2 : (Jvm.Cond.arrayOver (.object K)).before a0 Z = true) (hz : z.toInt = n) (hcap : n ≤ cap) (hcb : cap * 8 ≤ 536870912) (hc : cells + 1 ≤ R.cells) (hl : slots + cap ≤ R.slots) (hd : decode bytes pc = .ok (.anewarray index, 3)) (hp : pc + 3 = pc') (r : ∀ T' h' b, Sz b h → St p l e R s m args below meth c n0 T' h' (cells + 1) (slots + cap) → ArR Z h' b K n (fun _ => .null) → Keep h h' [] → Go p e below Rest T' (mkF m pc' L (.ref b :: S))) : Go p e below Rest T (mkF m pc L (.int z :: S)) := by
  obtain ⟨locs, X, N, eT⟩ := X; obtain ⟨hx, hby, -, -, -, hown, hnm, hZ⟩ := C; subst hp
  have hneg : ¬ z < 0 := nneg hz
  obtain ⟨T', h', cA, X', e', E, A, Ov, st⟩ := newR X hx hZ hown w1 w2 eT (g := mkF m pc L (.int z :: S)) rfl (hb hby hd) rfl hneg (cap := cap) (by rw [clamp_of hz]; exact hcap) hcb hc hl
  refine go_by st (r T' h' _ rfl ⟨_, X', N, e'⟩ ⟨_, A, Ov, by rw [sz_new, clamp_of hz], fun j hj => ?_⟩ (keepE E))
  simp [newA, clamp_of hz, hj, defaultValue]
theorem g_arrlen (X : St p l e R s m args below meth c n0 T h cells slots) (C : Cx p s m meth c Z bytes maxL ret own nme) {a : Addr} {ty : FieldType} {n : Nat} {fn : Nat → Value} {z : Int32} (A : Ar Z h a ty n fn) (hz : n.toInt32 = z) (hd : decode bytes pc = .ok (.arraylength, 1)) (hp : pc + 1 = pc') (r : Go p e below Rest T (mkF m pc' L (.int z :: S))) : Go p e below Rest T (mkF m pc L (.ref a :: S)) := by
  obtain ⟨locs, X, N, eT⟩ := X; obtain ⟨hx, hby, -, -, -, hown, hnm, hZ⟩ := C; subst hp hz
  obtain ⟨cl, A, r1, r2⟩ := A; subst r1
  exact go_by (fun t k => X.arraylength hx (by rw [eT]; exact A.1) (State.isArrayOf_alike hZ.alike A.2.1) (g := mkF m pc L (.ref a :: S)) rfl rfl (hb hby hd) t k) r
theorem g_iaload (X : St p l e R s m args below meth c n0 T h cells slots) (C : Cx p s m meth c Z bytes maxL ret own nme) {a : Addr} {n i : Nat} {fn : Nat → Value} {j : Int32} {v : Value} (A : Ar Z h a .int n fn) (hi : j.toInt = i) (hlt : i < n) (hv : fn i = v) (hd : decode bytes pc = .ok (.iaload, 1)) (hp : pc + 1 = pc') (r : Go p e below Rest T (mkF m pc' L (v :: S))) : Go p e below Rest T (mkF m pc L (.int j :: .ref a :: S)) := by
  obtain ⟨locs, X, N, eT⟩ := X; obtain ⟨hx, hby, -, -, -, hown, hnm, hZ⟩ := C; subst hp hv
  obtain ⟨cl, A, r1, r2⟩ := A
  exact go_by (fun t k => X.iaload hx (j := j) (by rw [eT]; exact A.1) (State.isArrayOf_alike hZ.alike A.2.1) A.2.2 (inb hi hlt r1) (by rw [clamp_of hi]; exact r2 i hlt) (g := mkF m pc L (.int j :: .ref a :: S)) rfl rfl (hb hby hd) t k) r
theorem g_laload (X : St p l e R s m args below meth c n0 T h cells slots) (C : Cx p s m meth c Z bytes maxL ret own nme) {a : Addr} {n i : Nat} {fn : Nat → Value} {j : Int32} {v : Value} (A : Ar Z h a .long n fn) (hi : j.toInt = i) (hlt : i < n) (hv : fn i = v) (hd : decode bytes pc = .ok (.laload, 1)) (hp : pc + 1 = pc') (r : Go p e below Rest T (mkF m pc' L (v :: S))) : Go p e below Rest T (mkF m pc L (.int j :: .ref a :: S)) := by
  obtain ⟨locs, X, N, eT⟩ := X; obtain ⟨hx, hby, -, -, -, hown, hnm, hZ⟩ := C; subst hp hv
  obtain ⟨cl, A, r1, r2⟩ := A
  exact go_by (fun t k => X.laload hx (j := j) (by rw [eT]; exact A.1) (State.isArrayOf_alike hZ.alike A.2.1) A.2.2 (inb hi hlt r1) (by rw [clamp_of hi]; exact r2 i hlt) (g := mkF m pc L (.int j :: .ref a :: S)) rfl rfl (hb hby hd) t k) r
theorem g_baloadB (X : St p l e R s m args below meth c n0 T h cells slots) (C : Cx p s m meth c Z bytes maxL ret own nme) {a : Addr} {n i : Nat} {fn : Nat → Value} {j : Int32} {v : Value} (A : Ar Z h a .byte n fn) (hi : j.toInt = i) (hlt : i < n) (hv : fn i = v) (hd : decode bytes pc = .ok (.baload, 1)) (hp : pc + 1 = pc') (r : Go p e below Rest T (mkF m pc' L (v :: S))) : Go p e below Rest T (mkF m pc L (.int j :: .ref a :: S)) := by
  obtain ⟨locs, X, N, eT⟩ := X; obtain ⟨hx, hby, -, -, -, hown, hnm, hZ⟩ := C; subst hp hv
  obtain ⟨cl, A, r1, r2⟩ := A
  exact go_by (fun t k => X.baloadBytes hx (j := j) (by rw [eT]; exact A.1) (State.isArrayOf_alike hZ.alike A.2.1) A.2.2 (inb hi hlt r1) (by rw [clamp_of hi]; exact r2 i hlt) (g := mkF m pc L (.int j :: .ref a :: S)) rfl rfl (hb hby hd) t k) r
theorem g_baloadZ (X : St p l e R s m args below meth c n0 T h cells slots) (C : Cx p s m meth c Z bytes maxL ret own nme) {a : Addr} {n i : Nat} {fn : Nat → Value} {j : Int32} {v : Value} (A : Ar Z h a .boolean n fn) (hi : j.toInt = i) (hlt : i < n) (hv : fn i = v) (hd : decode bytes pc = .ok (.baload, 1)) (hp : pc + 1 = pc') (r : Go p e below Rest T (mkF m pc' L (v :: S))) : Go p e below Rest T (mkF m pc L (.int j :: .ref a :: S)) := by
  obtain ⟨locs, X, N, eT⟩ := X; obtain ⟨hx, hby, -, -, -, hown, hnm, hZ⟩ := C; subst hp hv
  obtain ⟨cl, A, r1, r2⟩ := A
  exact go_by (fun t k => X.baloadBooleans hx (j := j) (by rw [eT]; exact A.1) (State.isArrayOf_alike hZ.alike A.2.1) A.2.2 (inb hi hlt r1) (by rw [clamp_of hi]; exact r2 i hlt) (g := mkF m pc L (.int j :: .ref a :: S)) rfl rfl (hb hby hd) t k) r
theorem g_aaload (X : St p l e R s m args below meth c n0 T h cells slots) (C : Cx p s m meth c Z bytes maxL ret own nme) {a : Addr} {n i : Nat} {K : String} {fn : Nat → Value} {j : Int32} {v : Value} (A : ArR Z h a K n fn) (hi : j.toInt = i) (hlt : i < n) (hv : fn i = v) (hd : decode bytes pc = .ok (.aaload, 1)) (hp : pc + 1 = pc') (r : Go p e below Rest T (mkF m pc' L (v :: S))) : Go p e below Rest T (mkF m pc L (.int j :: .ref a :: S)) := by
  obtain ⟨locs, X, N, eT⟩ := X; obtain ⟨hx, hby, -, -, -, hown, hnm, hZ⟩ := C; subst hp hv
  obtain ⟨cl, A, -, r1, r2⟩ := A
  exact go_by (fun t k => X.aaload hx (j := j) (by rw [eT]; exact A.1) (State.isArrayOf_alike hZ.alike A.2.1) rfl A.2.2 (inb hi hlt r1) (by rw [clamp_of hi]; exact r2 i hlt) (g := mkF m pc L (.int j :: .ref a :: S)) rfl rfl (hb hby hd) t k) r
theorem g_iastore (X : St p l e R s m args below meth c n0 T h cells slots) (C : Cx p s m meth c Z bytes maxL ret own nme) {a : Addr} {n i : Nat} {fn : Nat → Int32} {j : Int32} {x : Int32} (A : Ar Z h a .int n (fun k => .int (fn k))) (hi : j.toInt = i) (hlt : i < n) (ga : n0 ≤ a) (hd : decode bytes pc = .ok (.iastore, 1)) (hp : pc + 1 = pc') (r : ∀ T' h', St p l e R s m args below meth c n0 T' h' cells slots → Ar Z h' a .int n (fun k => .int (if k = i then x else fn k)) → Keep h h' [a] → Go p e below Rest T' (mkF m pc' L S)) : Go p e below Rest T (mkF m pc L (.int x :: .int j :: .ref a :: S)) := by
  obtain ⟨locs, X, N, eT⟩ := X; obtain ⟨hx, hby, -, -, -, hown, hnm, hZ⟩ := C; subst hp
  have A0 := A
  obtain ⟨cl, A, r1, r2⟩ := A
  obtain ⟨T', h', X', e', W, st⟩ := stI X hx hZ eT A (j := j) (inb hi hlt r1) (g := mkF m pc L (.int x :: .int j :: .ref a :: S)) rfl rfl (hb hby hd)
  rw [clamp_of hi] at W
  exact go_by st (r T' h' ⟨_, X', Fr.snoc X' N ga, e'⟩ ((A0.set hlt W).congr (fun k hk => by (try dsimp only); split <;> rfl)) (Keep.of_wr W))
theorem g_lastore (X : St p l e R s m args below meth c n0 T h cells slots) (C : Cx p s m meth c Z bytes maxL ret own nme) {a : Addr} {n i : Nat} {fn : Nat → Int64} {j : Int32} {x : Int64} (A : Ar Z h a .long n (fun k => .long (fn k))) (hi : j.toInt = i) (hlt : i < n) (ga : n0 ≤ a) (hd : decode bytes pc = .ok (.lastore, 1)) (hp : pc + 1 = pc') (r : ∀ T' h', St p l e R s m args below meth c n0 T' h' cells slots → Ar Z h' a .long n (fun k => .long (if k = i then x else fn k)) → Keep h h' [a] → Go p e below Rest T' (mkF m pc' L S)) : Go p e below Rest T (mkF m pc L (.long x :: .int j :: .ref a :: S)) := by
  obtain ⟨locs, X, N, eT⟩ := X; obtain ⟨hx, hby, -, -, -, hown, hnm, hZ⟩ := C; subst hp
  have A0 := A
  obtain ⟨cl, A, r1, r2⟩ := A
  obtain ⟨T', h', X', e', W, st⟩ := stJ X hx hZ eT A (j := j) (inb hi hlt r1) (g := mkF m pc L (.long x :: .int j :: .ref a :: S)) rfl rfl (hb hby hd)
  rw [clamp_of hi] at W
  exact go_by st (r T' h' ⟨_, X', Fr.snoc X' N ga, e'⟩ ((A0.set hlt W).congr (fun k hk => by (try dsimp only); split <;> rfl)) (Keep.of_wr W))
theorem g_bastoreB (X : St p l e R s m args below meth c n0 T h cells slots) (C : Cx p s m meth c Z bytes maxL ret own nme) {a : Addr} {n i : Nat} {fn : Nat → Int32} {j : Int32} {x : Int32} (A : Ar Z h a .byte n (fun k => .int (fn k))) (hi : j.toInt = i) (hlt : i < n) (ga : n0 ≤ a) (hd : decode bytes pc = .ok (.bastore, 1)) (hp : pc + 1 = pc') (r : ∀ T' h', St p l e R s m args below meth c n0 T' h' cells slots → Ar Z h' a .byte n (fun k => .int (if k = i then (nar .byte x) else fn k)) → Keep h h' [a] → Go p e below Rest T' (mkF m pc' L S)) : Go p e below Rest T (mkF m pc L (.int x :: .int j :: .ref a :: S)) := by
  obtain ⟨locs, X, N, eT⟩ := X; obtain ⟨hx, hby, -, -, -, hown, hnm, hZ⟩ := C; subst hp
  have A0 := A
  obtain ⟨cl, A, r1, r2⟩ := A
  obtain ⟨T', h', X', e', W, st⟩ := stB X hx hZ eT A (j := j) (inb hi hlt r1) (g := mkF m pc L (.int x :: .int j :: .ref a :: S)) rfl rfl (hb hby hd)
  rw [clamp_of hi] at W
  exact go_by st (r T' h' ⟨_, X', Fr.snoc X' N ga, e'⟩ ((A0.set hlt W).congr (fun k hk => by (try dsimp only); split <;> rfl)) (Keep.of_wr W))
theorem g_bastoreZ (X : St p l e R s m args below meth c n0 T h cells slots) (C : Cx p s m meth c Z bytes maxL ret own nme) {a : Addr} {n i : Nat} {fn : Nat → Int32} {j : Int32} {x : Int32} (A : Ar Z h a .boolean n (fun k => .int (fn k))) (hi : j.toInt = i) (hlt : i < n) (ga : n0 ≤ a) (hd : decode bytes pc = .ok (.bastore, 1)) (hp : pc + 1 = pc') (r : ∀ T' h', St p l e R s m args below meth c n0 T' h' cells slots → Ar Z h' a .boolean n (fun k => .int (if k = i then (nar .boolean x) else fn k)) → Keep h h' [a] → Go p e below Rest T' (mkF m pc' L S)) : Go p e below Rest T (mkF m pc L (.int x :: .int j :: .ref a :: S)) := by
  obtain ⟨locs, X, N, eT⟩ := X; obtain ⟨hx, hby, -, -, -, hown, hnm, hZ⟩ := C; subst hp
  have A0 := A
  obtain ⟨cl, A, r1, r2⟩ := A
  obtain ⟨T', h', X', e', W, st⟩ := stZ X hx hZ eT A (j := j) (inb hi hlt r1) (g := mkF m pc L (.int x :: .int j :: .ref a :: S)) rfl rfl (hb hby hd)
  rw [clamp_of hi] at W
  exact go_by st (r T' h' ⟨_, X', Fr.snoc X' N ga, e'⟩ ((A0.set hlt W).congr (fun k hk => by (try dsimp only); split <;> rfl)) (Keep.of_wr W))
theorem g_initO (X : St p l e R s m args below meth c n0 T h cells slots) (C : Cx p s m meth c Z bytes maxL ret own nme) {index : Nat} {a : Addr} {W : Nat} (w1 : (Jvm.Cond.methodLink own index Lib.objectInit).before a0 Z = true) (w2 : (Jvm.Cond.instanceMethod Lib.objectInit).before a0 Z = true) (w3 : (Jvm.Cond.code Lib.objectInit ⟨#[0xb1]⟩ 1 none).before a0 Z = true) (hsz : L.size = maxL) (hW : (S.map fun v => v.category).sum = W) (hf : 1 ≤ R.frames) (hl : W + 12 ≤ R.locals) (hd : decode bytes pc = .ok (.invokespecial index, 3)) (hp : pc + 3 = pc') (r : ∀ T', St p l e R s m args below meth c n0 T' h cells slots → Go p e below Rest T' (mkF m pc' L S)) : Go p e below Rest T (mkF m pc L (.ref a :: S)) := by
  obtain ⟨locs, X, N, eT⟩ := X; obtain ⟨hx, hby, hml, -, -, hown, hnm, hZ⟩ := C; subst hp
  obtain ⟨T', X', e', st⟩ := initO X hx hZ hown w1 w2 w3 eT (g := mkF m pc L (.ref a :: S)) rfl (by rw [hml]; exact hsz) rfl (hb hby hd) hf (W := W) (by show 2 * 0 + _ ≤ _; omega) hl
  exact go_by st (r T' ⟨locs, X', N, e'⟩)
theorem g_static (X : St p l e R s m args below meth c n0 T h cells slots) (C : Cx p s m meth c Z bytes maxL ret own nme) {y : MethodName} {bytes' : ByteArray} {maxL' : Nat} {ret' : Option FieldType} {rm : Room} {as : Array Value} {Q : Option Value → Heap → Prop} {index : Nat} {W : Nat} {argsL rest : List Value} {ps : List FieldType} {rt : Option FieldType} (hM : Ctr l y bytes' maxL' ret' rm Z n0 as h Q []) (w1 : (Jvm.Cond.methodLink own index y).before a0 Z = true) (w2 : (Jvm.Cond.static y).before a0 Z = true) (w3 : (Jvm.Cond.initialized y.cls).before a0 Z = true) (w4 : (Jvm.Cond.code y bytes' maxL' ret').before a0 Z = true) (hy : y.cls ≠ "java/lang/invoke/MethodHandle" ∧ y.cls ≠ "java/lang/invoke/VarHandle") (pd : parseMethodDescriptor y.desc = some ⟨ps, rt⟩) (hal : argsL.length = ps.length) (has : argsL.toArray = as) (hs : S = argsL.reverse ++ rest) (hsz : L.size = maxL) (hW : (rest.map fun v => v.category).sum = W) (hf : rm.frames + 1 ≤ R.frames) (hl : W + (maxL' + 11) + rm.locals ≤ R.locals) (hc : cells + rm.cells ≤ R.cells) (hsl : slots + rm.slots ≤ R.slots) (hd : decode bytes pc = .ok (.invokestatic index, 3)) (hp : pc + 3 = pc') (r : ∀ v T' h', Q v h' → St p l e R s m args below meth c n0 T' h' (cells + rm.cells) (slots + rm.slots) → Go p e below Rest T' (mkF m pc' L (v.toList ++ rest))) : Go p e below Rest T (mkF m pc L S) := by
  obtain ⟨locs, X, N, eT⟩ := X; obtain ⟨hx, hby, hml, -, -, hown, hnm, hZ⟩ := C; subst hp
  obtain ⟨v, _, ⟨T', L1, k1, n1⟩, -, X', ⟨Lc, ⟨hQ, hN⟩, l1, y1, z1⟩, st⟩ := Jvm.LawKit.callS X hx (y := y) hown (mvT hZ w1) (mvT hZ w2) (mvT hZ w3) (mvT hZ w4) hy (backOf (W := W) (Q := fun v h L => Q v h ∧ Fr n0 L) hM hZ w4 w3 hf hl) (g := mkF m pc L S) rfl (by rw [hml]; exact hsz) (argsL := argsL) (rest := rest) (lenOf pd hal) hs (by show 2 * 0 + _ ≤ _; omega) (hb hby hd) (fun _ _ => ⟨has, eT, hc, hsl⟩)
  dsimp only [Pt.U, Pt.locs, Pt.cells, Pt.slots] at X' l1 y1 z1 st hQ
  subst l1 y1 z1
  exact go_by st (r v T' _ hQ ⟨_, X', Fr.app N hN, rfl⟩)
theorem g_special (X : St p l e R s m args below meth c n0 T h cells slots) (C : Cx p s m meth c Z bytes maxL ret own nme) {y : MethodName} {bytes' : ByteArray} {maxL' : Nat} {ret' : Option FieldType} {rm : Room} {as : Array Value} {Q : Option Value → Heap → Prop} {index : Nat} {W : Nat} {argsL rest : List Value} {ps : List FieldType} {rt : Option FieldType} (hM : Ctr l y bytes' maxL' ret' rm Z n0 as h Q []) {a : Addr} (hy1 : y.name = "<init>") (hret : ret' = none) (w1 : (Jvm.Cond.methodLink own index y).before a0 Z = true) (w2 : (Jvm.Cond.instanceMethod y).before a0 Z = true) (w3 : (Jvm.Cond.initialized y.cls).before a0 Z = true) (w4 : (Jvm.Cond.code y bytes' maxL' ret').before a0 Z = true) (hy : y.cls ≠ "java/lang/invoke/MethodHandle" ∧ y.cls ≠ "java/lang/invoke/VarHandle") (pd : parseMethodDescriptor y.desc = some ⟨ps, rt⟩) (hal : argsL.length = ps.length) (has : (.ref a :: argsL).toArray = as) (hs : S = argsL.reverse ++ .ref a :: rest) (hsz : L.size = maxL) (hW : (rest.map fun v => v.category).sum = W) (hf : rm.frames + 1 ≤ R.frames) (hl : W + (maxL' + 11) + rm.locals ≤ R.locals) (hc : cells + rm.cells ≤ R.cells) (hsl : slots + rm.slots ≤ R.slots) (hd : decode bytes pc = .ok (.invokespecial index, 3)) (hp : pc + 3 = pc') (r : ∀ v T' h', Q v h' → St p l e R s m args below meth c n0 T' h' (cells + rm.cells) (slots + rm.slots) → Go p e below Rest T' (mkF m pc' L (v.toList ++ rest))) : Go p e below Rest T (mkF m pc L S) := by
  obtain ⟨locs, X, N, eT⟩ := X; obtain ⟨hx, hby, hml, -, -, hown, hnm, hZ⟩ := C; subst hp hret
  obtain ⟨v, _, ⟨T', L1, k1, n1⟩, -, X', ⟨Lc, ⟨hQ, hN⟩, l1, y1, z1⟩, st⟩ := X.specialBack hx (y := y) hy1 hown (mvT hZ w1) (mvT hZ w2) (mvT hZ w4) hy (backOf (W := W) (Q := fun v h L => Q v h ∧ Fr n0 L) hM hZ w4 w3 hf hl) (g := mkF m pc L S) rfl (by rw [hml]; exact hsz) (Steps.refl _) (a := a) (argsL := argsL) (rest := rest) (lenOf pd hal) hs (by show 2 * 0 + _ ≤ _; omega) (hb hby hd) (fun _ _ => ⟨has, eT, hc, hsl⟩)
  dsimp only [Pt.U, Pt.locs, Pt.cells, Pt.slots] at X' l1 y1 z1 st hQ
  subst l1 y1 z1
  exact go_tr st (r v T' _ hQ ⟨_, X', Fr.app N hN, rfl⟩)
theorem g_virtual (X : St p l e R s m args below meth c n0 T h cells slots) (C : Cx p s m meth c Z bytes maxL ret own nme) {y : MethodName} {bytes' : ByteArray} {maxL' : Nat} {ret' : Option FieldType} {rm : Room} {as : Array Value} {Q : Option Value → Heap → Prop} {index : Nat} {W : Nat} {argsL rest : List Value} {ps : List FieldType} {rt : Option FieldType} (hM : Ctr l y bytes' maxL' ret' rm Z n0 as h Q []) {a : Addr} (Ex : Exa Z h a y.cls) (w1 : (Jvm.Cond.methodLink own index y).before a0 Z = true) (w2 : (Jvm.Cond.declares y).before a0 Z = true) (ws : (Jvm.Cond.selects y.cls y y).before a0 Z = true) (wi : (Jvm.Cond.instanceMethod y).before a0 Z = true) (w3 : (Jvm.Cond.initialized y.cls).before a0 Z = true) (w4 : (Jvm.Cond.code y bytes' maxL' ret').before a0 Z = true) (hy : y.cls ≠ "java/lang/invoke/MethodHandle" ∧ y.cls ≠ "java/lang/invoke/VarHandle") (pd : parseMethodDescriptor y.desc = some ⟨ps, rt⟩) (hal : argsL.length = ps.length) (has : (.ref a :: argsL).toArray = as) (hs : S = argsL.reverse ++ .ref a :: rest) (hsz : L.size = maxL) (hW : (rest.map fun v => v.category).sum = W) (hf : rm.frames + 1 ≤ R.frames) (hl : W + (maxL' + 11) + rm.locals ≤ R.locals) (hc : cells + rm.cells ≤ R.cells) (hsl : slots + rm.slots ≤ R.slots) (hd : decode bytes pc = .ok (.invokevirtual index, 3)) (hp : pc + 3 = pc') (r : ∀ v T' h', Q v h' → St p l e R s m args below meth c n0 T' h' (cells + rm.cells) (slots + rm.slots) → Go p e below Rest T' (mkF m pc' L (v.toList ++ rest))) : Go p e below Rest T (mkF m pc L S) := by
  obtain ⟨locs, X, N, eT⟩ := X; obtain ⟨hx, hby, hml, -, -, hown, hnm, hZ⟩ := C; subst hp
  obtain ⟨cq, kq, qa, qb, qc⟩ := isOf hZ eT Ex
  obtain ⟨v, _, ⟨T', L1, k1, n1⟩, -, X', ⟨Lc, ⟨hQ, hN⟩, l1, y1, z1⟩, st⟩ := X.virtualBack hx (y := y) (z := y) hown (mvT hZ w1) (mvT hZ w2) (notFace_of_selects (args := #[]) (mvT hZ ws)) (mvT hZ ws) (mvT hZ wi) hy (backOf (W := W) (Q := fun v h L => Q v h ∧ Fr n0 L) hM hZ w4 w3 hf hl) qa qc (g := mkF m pc L S) rfl (by rw [hml]; exact hsz) (Steps.refl _) (argsL := argsL) (rest := rest) (lenOf pd hal) hs (by show 2 * 0 + _ ≤ _; omega) (hb hby hd) (fun _ _ => ⟨has, eT, hc, hsl⟩)
  dsimp only [Pt.U, Pt.locs, Pt.cells, Pt.slots] at X' l1 y1 z1 st hQ
  subst l1 y1 z1
  exact go_tr st (r v T' _ hQ ⟨_, X', Fr.app N hN, rfl⟩)
theorem g_retI {z : Int32} (X : St p l e R s m args below meth c n0 T h cells slots) (C : Cx p s m meth c Z bytes maxL (some .int) own nme) {Q : Option Value → Heap → Prop} {k n : Nat} (hd : decode bytes pc = .ok (.ireturn, 1)) (hQ : Q (some (.int z)) h) (hk : cells ≤ k) (hn : slots ≤ n) : Go p e below (Rs s below n0 Q k n) T (mkF m pc L (.int z :: S)) := by
  obtain ⟨locs, X, N, eT⟩ := X; obtain ⟨hx, hby, -, hret, hlk, -⟩ := C
  obtain ⟨fs, hr, hrun, hended, hW, hsame⟩ := X.leave (v := (some (.int z))) (fun q => by first | rfl | (rw [hret] at q; cases q)) hlk
  refine ⟨_, _, ?_, hrun, hended, _, _, rfl, ⟨?_, N⟩, ⟨_, rfl⟩, hW, hsame.mono hk hn⟩
  · exact retOut X hx hret rfl (Or.inl ⟨rfl, Or.inl rfl, z, rfl⟩) (hb hby hd) hr
  · show Q _ T.heap; rw [eT]; exact hQ
theorem g_retJ {z : Int64} (X : St p l e R s m args below meth c n0 T h cells slots) (C : Cx p s m meth c Z bytes maxL (some .long) own nme) {Q : Option Value → Heap → Prop} {k n : Nat} (hd : decode bytes pc = .ok (.lreturn, 1)) (hQ : Q (some (.long z)) h) (hk : cells ≤ k) (hn : slots ≤ n) : Go p e below (Rs s below n0 Q k n) T (mkF m pc L (.long z :: S)) := by
  obtain ⟨locs, X, N, eT⟩ := X; obtain ⟨hx, hby, -, hret, hlk, -⟩ := C
  obtain ⟨fs, hr, hrun, hended, hW, hsame⟩ := X.leave (v := (some (.long z))) (fun q => by first | rfl | (rw [hret] at q; cases q)) hlk
  refine ⟨_, _, ?_, hrun, hended, _, _, rfl, ⟨?_, N⟩, ⟨_, rfl⟩, hW, hsame.mono hk hn⟩
  · exact retOut X hx hret rfl (Or.inr (Or.inl ⟨rfl, rfl, z, rfl⟩)) (hb hby hd) hr
  · show Q _ T.heap; rw [eT]; exact hQ
theorem g_retZ {z : Int32} (X : St p l e R s m args below meth c n0 T h cells slots) (C : Cx p s m meth c Z bytes maxL (some .boolean) own nme) {Q : Option Value → Heap → Prop} {k n : Nat} (hd : decode bytes pc = .ok (.ireturn, 1)) (hQ : Q (some (.int (nar .boolean z))) h) (hk : cells ≤ k) (hn : slots ≤ n) : Go p e below (Rs s below n0 Q k n) T (mkF m pc L (.int z :: S)) := by
  obtain ⟨locs, X, N, eT⟩ := X; obtain ⟨hx, hby, -, hret, hlk, -⟩ := C
  obtain ⟨fs, hr, hrun, hended, hW, hsame⟩ := X.leave (v := (some (.int (nar .boolean z)))) (fun q => by first | rfl | (rw [hret] at q; cases q)) hlk
  refine ⟨_, _, ?_, hrun, hended, _, _, rfl, ⟨?_, N⟩, ⟨_, rfl⟩, hW, hsame.mono hk hn⟩
  · exact retN X hx (t := .boolean) hret (by simp) (hb hby hd) hr
  · show Q _ T.heap; rw [eT]; exact hQ
theorem g_retB {z : Int32} (X : St p l e R s m args below meth c n0 T h cells slots) (C : Cx p s m meth c Z bytes maxL (some .byte) own nme) {Q : Option Value → Heap → Prop} {k n : Nat} (hd : decode bytes pc = .ok (.ireturn, 1)) (hQ : Q (some (.int (nar .byte z))) h) (hk : cells ≤ k) (hn : slots ≤ n) : Go p e below (Rs s below n0 Q k n) T (mkF m pc L (.int z :: S)) := by
  obtain ⟨locs, X, N, eT⟩ := X; obtain ⟨hx, hby, -, hret, hlk, -⟩ := C
  obtain ⟨fs, hr, hrun, hended, hW, hsame⟩ := X.leave (v := (some (.int (nar .byte z)))) (fun q => by first | rfl | (rw [hret] at q; cases q)) hlk
  refine ⟨_, _, ?_, hrun, hended, _, _, rfl, ⟨?_, N⟩, ⟨_, rfl⟩, hW, hsame.mono hk hn⟩
  · exact retN X hx (t := .byte) hret (by simp) (hb hby hd) hr
  · show Q _ T.heap; rw [eT]; exact hQ
theorem g_retV  (X : St p l e R s m args below meth c n0 T h cells slots) (C : Cx p s m meth c Z bytes maxL none own nme) {Q : Option Value → Heap → Prop} {k n : Nat} (hd : decode bytes pc = .ok (.return_, 1)) (hQ : Q none h) (hk : cells ≤ k) (hn : slots ≤ n) : Go p e below (Rs s below n0 Q k n) T (mkF m pc L []) := by
  obtain ⟨locs, X, N, eT⟩ := X; obtain ⟨hx, hby, -, hret, hlk, -⟩ := C
  obtain ⟨fs, hr, hrun, hended, hW, hsame⟩ := X.leave (v := none) (fun q => by first | rfl | (rw [hret] at q; cases q)) hlk
  refine ⟨_, _, ?_, hrun, hended, _, _, rfl, ⟨?_, N⟩, ⟨_, rfl⟩, hW, hsame.mono hk hn⟩
  · exact X.returnOut hx hret (hb hby hd) hr
  · show Q _ T.heap; rw [eT]; exact hQ
theorem g_retA {v : Value} {ty : FieldType} (X : St p l e R s m args below meth c n0 T h cells slots) (C : Cx p s m meth c Z bytes maxL (some ty) own nme) {Q : Option Value → Heap → Prop} {k n : Nat} (hd : decode bytes pc = .ok (.areturn, 1)) (ht : ty.isReference = true) (hv : v.isRef = true) (hQ : Q (some v) h) (hk : cells ≤ k) (hn : slots ≤ n) : Go p e below (Rs s below n0 Q k n) T (mkF m pc L (v :: S)) := by
  obtain ⟨locs, X, N, eT⟩ := X; obtain ⟨hx, hby, -, hret, hlk, -⟩ := C
  obtain ⟨fs, hr, hrun, hended, hW, hsame⟩ := X.leave (v := (some v)) (fun q => by first | rfl | (rw [hret] at q; cases q)) hlk
  refine ⟨_, _, ?_, hrun, hended, _, _, rfl, ⟨?_, N⟩, ⟨_, rfl⟩, hW, hsame.mono hk hn⟩
  · exact retOut X hx hret (by cases ty <;> cases v <;> simp_all [narrow, FieldType.isReference, Value.isRef]) (Or.inr (Or.inr (Or.inr (Or.inr ⟨rfl, ht, hv⟩)))) (hb hby hd) hr
  · show Q _ T.heap; rw [eT]; exact hQ
end Lay
end Jvm.Own
namespace Jvm.Pilot.@@N@@
open Jvm Jvm.ClassFile Sem Op Lib Jvm.Free Jvm.Stand Jvm.LawKit Jvm.RoadKit Jvm.Own Bundle Jvm.Pilot.@@N@@.Jvm.D
def NS_RT : List (String × String) := [("lastArrival", "J"), ("windowIndexes", "[J"), ("windowOffered", "[J"), ("windowAdmitted", "[J"), ("byPriority", "Ljava/util/Map;"), ("recentAdmissions", "Lcom/example/ugello/ugello/service/SlidingWindow;"), ("windowMicros", "J"), ("perWindow", "Z"), ("reportsIgnored", "J"), ("reportsTaken", "J"), ("offered", "J"), ("admitted", "J")]
theorem CF_RT {Z : State} {a0 : Array Value} (hw : ∀ d ∈ tables_1, d.before a0 Z = true) : CF Z a0 "com/example/ugello/ugello/service/ReplayTally" NS_RT 14 := by
  refine ⟨by decide, fun x hx => ?_, (hw _ (List.mem_of_getElem? (i := 6) rfl))⟩
  simp only [NS_RT, List.mem_cons, List.not_mem_nil, or_false] at hx
  rcases hx with rfl | rfl | rfl | rfl | rfl | rfl | rfl | rfl | rfl | rfl | rfl | rfl
  · exact ⟨Or.inl (hw _ (List.mem_of_getElem? (i := 16) rfl)), by decide⟩
  · exact ⟨Or.inl (hw _ (List.mem_of_getElem? (i := 19) rfl)), by decide⟩
  · exact ⟨Or.inl (hw _ (List.mem_of_getElem? (i := 21) rfl)), by decide⟩
  · exact ⟨Or.inl (hw _ (List.mem_of_getElem? (i := 23) rfl)), by decide⟩
  · exact ⟨Or.inr (hw _ (List.mem_of_getElem? (i := 44) rfl)), by decide⟩
  · exact ⟨Or.inr (hw _ (List.mem_of_getElem? (i := 73) rfl)), by decide⟩
  · exact ⟨Or.inr (hw _ (List.mem_of_getElem? (i := 75) rfl)), by decide⟩
  · exact ⟨Or.inr (hw _ (List.mem_of_getElem? (i := 77) rfl)), by decide⟩
  · exact ⟨Or.inl (hw _ (List.mem_of_getElem? (i := 84) rfl)), by decide⟩
  · exact ⟨Or.inl (hw _ (List.mem_of_getElem? (i := 91) rfl)), by decide⟩
  · exact ⟨Or.inl (hw _ (List.mem_of_getElem? (i := 103) rfl)), by decide⟩
  · exact ⟨Or.inl (hw _ (List.mem_of_getElem? (i := 110) rfl)), by decide⟩
def NS_TM : List (String × String) := [("size", "I"), ("modCount", "I"), ("comparator", "Ljava/util/Comparator;")]
theorem CF_TM {Z : State} {a0 : Array Value} (hw : ∀ d ∈ tables_1, d.before a0 Z = true) : CF Z a0 "java/util/TreeMap" NS_TM 9 := by
  refine ⟨by decide, fun x hx => ?_, (hw _ (List.mem_of_getElem? (i := 25) rfl))⟩
  simp only [NS_TM, List.mem_cons, List.not_mem_nil, or_false] at hx
  rcases hx with rfl | rfl | rfl
  · exact ⟨Or.inl (hw _ (List.mem_of_getElem? (i := 38) rfl)), by decide⟩
  · exact ⟨Or.inl (hw _ (List.mem_of_getElem? (i := 40) rfl)), by decide⟩
  · exact ⟨Or.inr (hw _ (List.mem_of_getElem? (i := 42) rfl)), by decide⟩
def NS_SW : List (String × String) := [("byKey", "Lcom/example/ugello/ugello/service/KeyCounts;"), ("times", "[J"), ("keys", "[J"), ("counts", "[J"), ("lastTime", "J"), ("lengthMicros", "J")]
theorem CF_SW {Z : State} {a0 : Array Value} (hw : ∀ d ∈ tables_1, d.before a0 Z = true) : CF Z a0 "com/example/ugello/ugello/service/SlidingWindow" NS_SW 8 := by
  refine ⟨by decide, fun x hx => ?_, (hw _ (List.mem_of_getElem? (i := 46) rfl))⟩
  simp only [NS_SW, List.mem_cons, List.not_mem_nil, or_false] at hx
  rcases hx with rfl | rfl | rfl | rfl | rfl | rfl
  · exact ⟨Or.inr (hw _ (List.mem_of_getElem? (i := 60) rfl)), by decide⟩
  · exact ⟨Or.inl (hw _ (List.mem_of_getElem? (i := 62) rfl)), by decide⟩
  · exact ⟨Or.inl (hw _ (List.mem_of_getElem? (i := 64) rfl)), by decide⟩
  · exact ⟨Or.inl (hw _ (List.mem_of_getElem? (i := 66) rfl)), by decide⟩
  · exact ⟨Or.inl (hw _ (List.mem_of_getElem? (i := 69) rfl)), by decide⟩
  · exact ⟨Or.inr (hw _ (List.mem_of_getElem? (i := 71) rfl)), by decide⟩
def NS_KC : List (String × String) := []
theorem CF_KC {Z : State} {a0 : Array Value} (hw : ∀ d ∈ tables_1, d.before a0 Z = true) : CF Z a0 "com/example/ugello/ugello/service/KeyCounts" NS_KC 1 := by
  refine ⟨by decide, fun x hx => ?_, (hw _ (List.mem_of_getElem? (i := 53) rfl))⟩
  simp only [NS_KC, List.mem_cons, List.not_mem_nil, or_false] at hx
theorem d1_0 : decode jdk_29_method_66_code 0 = .ok (.lload_n 0, 1) := by decide +kernel
theorem d1_1 : decode jdk_29_method_66_code 1 = .ok (.lload_n 2, 1) := by decide +kernel
theorem d1_2 : decode jdk_29_method_66_code 2 = .ok (.lcmp, 1) := by decide +kernel
theorem d1_3 : decode jdk_29_method_66_code 3 = .ok (.ifCond .lt 7, 3) := by decide +kernel
theorem d1_6 : decode jdk_29_method_66_code 6 = .ok (.lload_n 0, 1) := by decide +kernel
theorem d1_7 : decode jdk_29_method_66_code 7 = .ok (.goto 4, 3) := by decide +kernel
theorem d1_10 : decode jdk_29_method_66_code 10 = .ok (.lload_n 2, 1) := by decide +kernel
theorem d1_11 : decode jdk_29_method_66_code 11 = .ok (.lreturn, 1) := by decide +kernel
theorem d2_0 : decode prog_37_method_1_code 0 = .ok (.aload_n 0, 1) := by decide +kernel
theorem d2_1 : decode prog_37_method_1_code 1 = .ok (.invokespecial 1, 3) := by decide +kernel
theorem d2_4 : decode prog_37_method_1_code 4 = .ok (.aload_n 0, 1) := by decide +kernel
theorem d2_5 : decode prog_37_method_1_code 5 = .ok (.ldc2_w 7, 3) := by decide +kernel
theorem d2_8 : decode prog_37_method_1_code 8 = .ok (.putfield 9, 3) := by decide +kernel
theorem d2_11 : decode prog_37_method_1_code 11 = .ok (.aload_n 0, 1) := by decide +kernel
theorem d2_12 : decode prog_37_method_1_code 12 = .ok (.bipush 16, 2) := by decide +kernel
theorem d2_14 : decode prog_37_method_1_code 14 = .ok (.newarray .long, 2) := by decide +kernel
theorem d2_16 : decode prog_37_method_1_code 16 = .ok (.putfield 15, 3) := by decide +kernel
theorem d2_19 : decode prog_37_method_1_code 19 = .ok (.aload_n 0, 1) := by decide +kernel
theorem d2_20 : decode prog_37_method_1_code 20 = .ok (.bipush 16, 2) := by decide +kernel
theorem d2_22 : decode prog_37_method_1_code 22 = .ok (.newarray .long, 2) := by decide +kernel
theorem d2_24 : decode prog_37_method_1_code 24 = .ok (.putfield 19, 3) := by decide +kernel
theorem d2_27 : decode prog_37_method_1_code 27 = .ok (.aload_n 0, 1) := by decide +kernel
theorem d2_28 : decode prog_37_method_1_code 28 = .ok (.bipush 16, 2) := by decide +kernel
theorem d2_30 : decode prog_37_method_1_code 30 = .ok (.newarray .long, 2) := by decide +kernel
theorem d2_32 : decode prog_37_method_1_code 32 = .ok (.putfield 22, 3) := by decide +kernel
theorem d2_35 : decode prog_37_method_1_code 35 = .ok (.aload_n 0, 1) := by decide +kernel
theorem d2_36 : decode prog_37_method_1_code 36 = .ok (.new 25, 3) := by decide +kernel
theorem d2_39 : decode prog_37_method_1_code 39 = .ok (.dup, 1) := by decide +kernel
theorem d2_40 : decode prog_37_method_1_code 40 = .ok (.invokespecial 27, 3) := by decide +kernel
theorem d2_43 : decode prog_37_method_1_code 43 = .ok (.putfield 28, 3) := by decide +kernel
theorem d2_46 : decode prog_37_method_1_code 46 = .ok (.aload_n 0, 1) := by decide +kernel
theorem d2_47 : decode prog_37_method_1_code 47 = .ok (.new 32, 3) := by decide +kernel
theorem d2_50 : decode prog_37_method_1_code 50 = .ok (.dup, 1) := by decide +kernel
theorem d2_51 : decode prog_37_method_1_code 51 = .ok (.lload_n 1, 1) := by decide +kernel
theorem d2_52 : decode prog_37_method_1_code 52 = .ok (.invokespecial 34, 3) := by decide +kernel
theorem d2_55 : decode prog_37_method_1_code 55 = .ok (.putfield 37, 3) := by decide +kernel
theorem d2_58 : decode prog_37_method_1_code 58 = .ok (.aload_n 0, 1) := by decide +kernel
theorem d2_59 : decode prog_37_method_1_code 59 = .ok (.lload_n 1, 1) := by decide +kernel
theorem d2_60 : decode prog_37_method_1_code 60 = .ok (.putfield 41, 3) := by decide +kernel
theorem d2_63 : decode prog_37_method_1_code 63 = .ok (.aload_n 0, 1) := by decide +kernel
theorem d2_64 : decode prog_37_method_1_code 64 = .ok (.iload_n 3, 1) := by decide +kernel
theorem d2_65 : decode prog_37_method_1_code 65 = .ok (.putfield 44, 3) := by decide +kernel
theorem d2_68 : decode prog_37_method_1_code 68 = .ok (.return_, 1) := by decide +kernel
theorem d4_0 : decode jdk_2729_method_1_code 0 = .ok (.aload_n 0, 1) := by decide +kernel
theorem d4_1 : decode jdk_2729_method_1_code 1 = .ok (.invokespecial 1, 3) := by decide +kernel
theorem d4_4 : decode jdk_2729_method_1_code 4 = .ok (.aload_n 0, 1) := by decide +kernel
theorem d4_5 : decode jdk_2729_method_1_code 5 = .ok (.iconst 0, 1) := by decide +kernel
theorem d4_6 : decode jdk_2729_method_1_code 6 = .ok (.putfield 7, 3) := by decide +kernel
theorem d4_9 : decode jdk_2729_method_1_code 9 = .ok (.aload_n 0, 1) := by decide +kernel
theorem d4_10 : decode jdk_2729_method_1_code 10 = .ok (.iconst 0, 1) := by decide +kernel
theorem d4_11 : decode jdk_2729_method_1_code 11 = .ok (.putfield 13, 3) := by decide +kernel
theorem d4_14 : decode jdk_2729_method_1_code 14 = .ok (.aload_n 0, 1) := by decide +kernel
theorem d4_15 : decode jdk_2729_method_1_code 15 = .ok (.aconst_null, 1) := by decide +kernel
theorem d4_16 : decode jdk_2729_method_1_code 16 = .ok (.putfield 16, 3) := by decide +kernel
theorem d4_19 : decode jdk_2729_method_1_code 19 = .ok (.return_, 1) := by decide +kernel
theorem d5_0 : decode jdk_71_method_1_code 0 = .ok (.aload_n 0, 1) := by decide +kernel
theorem d5_1 : decode jdk_71_method_1_code 1 = .ok (.invokespecial 1, 3) := by decide +kernel
theorem d5_4 : decode jdk_71_method_1_code 4 = .ok (.return_, 1) := by decide +kernel
theorem d6_0 : decode prog_41_method_1_code 0 = .ok (.aload_n 0, 1) := by decide +kernel
theorem d6_1 : decode prog_41_method_1_code 1 = .ok (.invokespecial 1, 3) := by decide +kernel
theorem d6_4 : decode prog_41_method_1_code 4 = .ok (.aload_n 0, 1) := by decide +kernel
theorem d6_5 : decode prog_41_method_1_code 5 = .ok (.new 7, 3) := by decide +kernel
theorem d6_8 : decode prog_41_method_1_code 8 = .ok (.dup, 1) := by decide +kernel
theorem d6_9 : decode prog_41_method_1_code 9 = .ok (.invokespecial 9, 3) := by decide +kernel
theorem d6_12 : decode prog_41_method_1_code 12 = .ok (.putfield 10, 3) := by decide +kernel
theorem d6_15 : decode prog_41_method_1_code 15 = .ok (.aload_n 0, 1) := by decide +kernel
theorem d6_16 : decode prog_41_method_1_code 16 = .ok (.bipush 16, 2) := by decide +kernel
theorem d6_18 : decode prog_41_method_1_code 18 = .ok (.newarray .long, 2) := by decide +kernel
theorem d6_20 : decode prog_41_method_1_code 20 = .ok (.putfield 16, 3) := by decide +kernel
theorem d6_23 : decode prog_41_method_1_code 23 = .ok (.aload_n 0, 1) := by decide +kernel
theorem d6_24 : decode prog_41_method_1_code 24 = .ok (.bipush 16, 2) := by decide +kernel
theorem d6_26 : decode prog_41_method_1_code 26 = .ok (.newarray .long, 2) := by decide +kernel
theorem d6_28 : decode prog_41_method_1_code 28 = .ok (.putfield 20, 3) := by decide +kernel
theorem d6_31 : decode prog_41_method_1_code 31 = .ok (.aload_n 0, 1) := by decide +kernel
theorem d6_32 : decode prog_41_method_1_code 32 = .ok (.bipush 16, 2) := by decide +kernel
theorem d6_34 : decode prog_41_method_1_code 34 = .ok (.newarray .long, 2) := by decide +kernel
theorem d6_36 : decode prog_41_method_1_code 36 = .ok (.putfield 23, 3) := by decide +kernel
theorem d6_39 : decode prog_41_method_1_code 39 = .ok (.aload_n 0, 1) := by decide +kernel
theorem d6_40 : decode prog_41_method_1_code 40 = .ok (.ldc2_w 26, 3) := by decide +kernel
theorem d6_43 : decode prog_41_method_1_code 43 = .ok (.putfield 28, 3) := by decide +kernel
theorem d6_46 : decode prog_41_method_1_code 46 = .ok (.lload_n 1, 1) := by decide +kernel
theorem d6_47 : decode prog_41_method_1_code 47 = .ok (.lconst 1, 1) := by decide +kernel
theorem d6_48 : decode prog_41_method_1_code 48 = .ok (.lcmp, 1) := by decide +kernel
theorem d6_49 : decode prog_41_method_1_code 49 = .ok (.ifCond .ge 17, 3) := by decide +kernel
theorem d6_52 : decode prog_41_method_1_code 52 = .ok (.new 32, 3) := by decide +kernel
theorem d6_55 : decode prog_41_method_1_code 55 = .ok (.dup, 1) := by decide +kernel
theorem d6_56 : decode prog_41_method_1_code 56 = .ok (.lload_n 1, 1) := by decide +kernel
theorem d6_62 : decode prog_41_method_1_code 62 = .ok (.invokespecial 38, 3) := by decide +kernel
theorem d6_66 : decode prog_41_method_1_code 66 = .ok (.aload_n 0, 1) := by decide +kernel
theorem d6_67 : decode prog_41_method_1_code 67 = .ok (.lload_n 1, 1) := by decide +kernel
theorem d6_68 : decode prog_41_method_1_code 68 = .ok (.putfield 41, 3) := by decide +kernel
theorem d6_71 : decode prog_41_method_1_code 71 = .ok (.return_, 1) := by decide +kernel
theorem d7_0 : decode prog_23_method_1_code 0 = .ok (.aload_n 0, 1) := by decide +kernel
theorem d7_1 : decode prog_23_method_1_code 1 = .ok (.invokespecial 1, 3) := by decide +kernel
theorem d7_4 : decode prog_23_method_1_code 4 = .ok (.return_, 1) := by decide +kernel
theorem d8_0 : decode prog_37_method_3_code 0 = .ok (.iload_n 1, 1) := by decide +kernel
theorem d8_1 : decode prog_37_method_3_code 1 = .ok (.ifCond .eq 16, 3) := by decide +kernel
theorem d8_4 : decode prog_37_method_3_code 4 = .ok (.aload_n 0, 1) := by decide +kernel
theorem d8_5 : decode prog_37_method_3_code 5 = .ok (.dup, 1) := by decide +kernel
theorem d8_6 : decode prog_37_method_3_code 6 = .ok (.getfield 104, 3) := by decide +kernel
theorem d8_9 : decode prog_37_method_3_code 9 = .ok (.lconst 1, 1) := by decide +kernel
theorem d8_10 : decode prog_37_method_3_code 10 = .ok (.ladd, 1) := by decide +kernel
theorem d8_11 : decode prog_37_method_3_code 11 = .ok (.putfield 104, 3) := by decide +kernel
theorem d8_14 : decode prog_37_method_3_code 14 = .ok (.goto 13, 3) := by decide +kernel
theorem d8_17 : decode prog_37_method_3_code 17 = .ok (.aload_n 0, 1) := by decide +kernel
theorem d8_18 : decode prog_37_method_3_code 18 = .ok (.dup, 1) := by decide +kernel
theorem d8_19 : decode prog_37_method_3_code 19 = .ok (.getfield 107, 3) := by decide +kernel
theorem d8_22 : decode prog_37_method_3_code 22 = .ok (.lconst 1, 1) := by decide +kernel
theorem d8_23 : decode prog_37_method_3_code 23 = .ok (.ladd, 1) := by decide +kernel
theorem d8_24 : decode prog_37_method_3_code 24 = .ok (.putfield 107, 3) := by decide +kernel
theorem d8_27 : decode prog_37_method_3_code 27 = .ok (.return_, 1) := by decide +kernel
theorem d9_0 : decode prog_37_method_8_code 0 = .ok (.aload_n 0, 1) := by decide +kernel
theorem d9_1 : decode prog_37_method_8_code 1 = .ok (.getfield 104, 3) := by decide +kernel
theorem d9_4 : decode prog_37_method_8_code 4 = .ok (.lreturn, 1) := by decide +kernel
theorem d10_0 : decode prog_37_method_9_code 0 = .ok (.aload_n 0, 1) := by decide +kernel
theorem d10_1 : decode prog_37_method_9_code 1 = .ok (.getfield 107, 3) := by decide +kernel
theorem d10_4 : decode prog_37_method_9_code 4 = .ok (.lreturn, 1) := by decide +kernel
theorem d11_0 : decode prog_37_method_4_code 0 = .ok (.aload_n 0, 1) := by decide +kernel
theorem d11_1 : decode prog_37_method_4_code 1 = .ok (.getfield 57, 3) := by decide +kernel
theorem d11_4 : decode prog_37_method_4_code 4 = .ok (.lreturn, 1) := by decide +kernel
theorem d12_0 : decode prog_37_method_5_code 0 = .ok (.aload_n 0, 1) := by decide +kernel
theorem d12_1 : decode prog_37_method_5_code 1 = .ok (.getfield 79, 3) := by decide +kernel
theorem d12_4 : decode prog_37_method_5_code 4 = .ok (.lreturn, 1) := by decide +kernel
theorem pn_0 : plainName "java/util/AbstractMap" = true := by first | (simp [plainName, overriddenIn]; done) | decide +kernel
theorem pn_1 : plainName "com/example/ugello/ugello/service/KeyCounts" = true := by first | (simp [plainName, overriddenIn]; done) | decide +kernel
theorem pn_2 : plainName "java/util/TreeMap" = true := by first | (simp [plainName, overriddenIn]; done) | decide +kernel
theorem pn_3 : plainName "com/example/ugello/ugello/service/SlidingWindow" = true := by first | (simp [plainName, overriddenIn]; done) | decide +kernel
theorem pn_4 : plainName "com/example/ugello/ugello/service/ReplayTally" = true := by first | (simp [plainName, overriddenIn]; done) | decide +kernel
theorem pn_5 : plainName "com/example/ugello/ugello/service/ReplayTallyRecordReportPinLaw" = true := by first | (simp [plainName, overriddenIn]; done) | decide +kernel
theorem pd_0 : parseMethodDescriptor "()V" = some ⟨[], none⟩ := by decide +kernel
theorem pd_1 : parseMethodDescriptor "(J)V" = some ⟨[.long], none⟩ := by decide +kernel
theorem pd_2 : parseMethodDescriptor "(JJ)J" = some ⟨[.long, .long], some .long⟩ := by decide +kernel
theorem pd_3 : parseMethodDescriptor "(JZ)V" = some ⟨[.long, .boolean], none⟩ := by decide +kernel
theorem pd_4 : parseMethodDescriptor "()J" = some ⟨[], some .long⟩ := by decide +kernel
theorem pd_5 : parseMethodDescriptor "(Z)V" = some ⟨[.boolean], none⟩ := by decide +kernel
theorem ef_rmX (m : MethodId) (q1 : Int64) (q2 : Int64) : entryFrame m #[(.long q1), (.long q2)] 4 = mkF m 0 #[.val (.long q1), .second, .val (.long q2), .second] [] := by first | (simp [entryFrame, mkF, argsToLocals, Value.category]; done) | rfl
set_option maxRecDepth 65536 in
set_option maxHeartbeats 40000000 in
theorem rmX (l : Launch) (Z : State) (a0 : Array Value) (hw : ∀ d ∈ tables_1, d.before a0 Z = true) (q1 q2 : Int64) (h0 : Heap) (n0 : Nat) (hz0 : Lo n0 h0.size)  (ws : List Jvm.Cond) :
    Ctr l (⟨"java/lang/Math", "max", "(JJ)J"⟩ : MethodName) jdk_29_method_66_code 4 (some .long) ({ frames := 0, cells := 0, slots := 0, locals := 0 } : Room) Z n0 #[(.long q1), (.long q2)] h0 (fun v h => ∃ r : Int64, v = some (.long r) ∧ q1.toInt ≤ r.toInt ∧ h = h0) ws := by
  refine ctr_of (by decide +kernel) ?_
  intro p e s m below meth c T0 X0 C
  refine go_cast (ef_rmX m q1 q2) ?_
  obtain ⟨RS, hRS⟩ : ∃ RS, RS = Rs s below n0 (fun v h => ∃ r : Int64, v = some (.long r) ∧ q1.toInt ≤ r.toInt ∧ h = h0) ({ frames := 0, cells := 0, slots := 0, locals := 0 } : Room).cells ({ frames := 0, cells := 0, slots := 0, locals := 0 } : Room).slots := ⟨_, rfl⟩
  suffices HG : Go p e below RS T0 (mkF m 0 #[.val (.long q1), .second, .val (.long q2), .second] []) by rw [hRS] at HG; exact HG
  show Go p e below RS T0 (mkF m 0 #[.val (.long q1), .second, .val (.long q2), .second] [])
  refine g_lloadN X0 C d1_0 rfl rfl ?_
  refine g_lloadN X0 C d1_1 rfl rfl ?_
  refine g_lcmp X0 C d1_2 rfl ?_
  refine g_lif_lt (a := q1.toInt) (b := q2.toInt) X0 C d1_3 rfl rfl (by decide) (pT := 10) (by decide) (pF := 6) rfl (fun hc3 => ?_) (fun hc3 => ?_)
  ·
    refine g_lloadN X0 C d1_10 rfl rfl ?_
    rw [hRS]
    refine g_retJ X0 C d1_11 ?_ (by decide) (by decide)
    exact ⟨_, rfl, by omega, rfl⟩
  ·
    refine g_lloadN X0 C d1_6 rfl rfl ?_
    refine g_goto (pc' := 11) X0 C d1_7 (by decide) (by decide) ?_
    rw [hRS]
    refine g_retJ X0 C d1_11 ?_ (by decide) (by decide)
    exact ⟨_, rfl, by omega, rfl⟩
theorem ef_rmAM (m : MethodId) (a1 : Addr) : entryFrame m #[(.ref a1)] 1 = mkF m 0 #[.val (.ref a1)] [] := by first | (simp [entryFrame, mkF, argsToLocals, Value.category]; done) | rfl
set_option maxRecDepth 65536 in
set_option maxHeartbeats 40000000 in
theorem rmAM (l : Launch) (Z : State) (a0 : Array Value) (hw : ∀ d ∈ tables_1, d.before a0 Z = true) (a1 : Addr) (h0 : Heap) (n0 : Nat) (hz0 : Lo n0 h0.size)  (ws : List Jvm.Cond) :
    Ctr l (⟨"java/util/AbstractMap", "<init>", "()V"⟩ : MethodName) jdk_71_method_1_code 1 none ({ frames := 1, cells := 0, slots := 0, locals := 12 } : Room) Z n0 #[(.ref a1)] h0 (fun v h => v = none ∧ h = h0) ws := by
  refine ctr_of (plainFor_of_name pn_0) ?_
  intro p e s m below meth c T0 X0 C
  refine go_cast (ef_rmAM m a1) ?_
  obtain ⟨RS, hRS⟩ : ∃ RS, RS = Rs s below n0 (fun v h => v = none ∧ h = h0) ({ frames := 1, cells := 0, slots := 0, locals := 12 } : Room).cells ({ frames := 1, cells := 0, slots := 0, locals := 12 } : Room).slots := ⟨_, rfl⟩
  suffices HG : Go p e below RS T0 (mkF m 0 #[.val (.ref a1)] []) by rw [hRS] at HG; exact HG
  show Go p e below RS T0 (mkF m 0 #[.val (.ref a1)] [])
  refine g_aloadN X0 C d5_0 rfl rfl rfl ?_
  refine g_initO (W := 0) X0 C (hw _ (List.mem_of_getElem? (i := 36) rfl)) (hw _ (List.mem_of_getElem? (i := 12) rfl)) (hw _ (List.mem_of_getElem? (i := 13) rfl)) rfl rfl (by decide) (by decide) d5_1 rfl (fun T1 X2 => ?_)
  rw [hRS]
  refine g_retV X2 C d5_4 ?_ (by decide) (by decide)
  exact ⟨rfl, rfl⟩
theorem ef_rmKC (m : MethodId) (a1 : Addr) : entryFrame m #[(.ref a1)] 1 = mkF m 0 #[.val (.ref a1)] [] := by first | (simp [entryFrame, mkF, argsToLocals, Value.category]; done) | rfl
set_option maxRecDepth 65536 in
set_option maxHeartbeats 40000000 in
theorem rmKC (l : Launch) (Z : State) (a0 : Array Value) (hw : ∀ d ∈ tables_1, d.before a0 Z = true) (a1 : Addr) (h0 : Heap) (n0 : Nat) (hz0 : Lo n0 h0.size)  (ws : List Jvm.Cond) :
    Ctr l (⟨"com/example/ugello/ugello/service/KeyCounts", "<init>", "()V"⟩ : MethodName) prog_23_method_1_code 1 none ({ frames := 1, cells := 0, slots := 0, locals := 12 } : Room) Z n0 #[(.ref a1)] h0 (fun v h => v = none ∧ h = h0) ws := by
  refine ctr_of (plainFor_of_name pn_1) ?_
  intro p e s m below meth c T0 X0 C
  refine go_cast (ef_rmKC m a1) ?_
  obtain ⟨RS, hRS⟩ : ∃ RS, RS = Rs s below n0 (fun v h => v = none ∧ h = h0) ({ frames := 1, cells := 0, slots := 0, locals := 12 } : Room).cells ({ frames := 1, cells := 0, slots := 0, locals := 12 } : Room).slots := ⟨_, rfl⟩
  suffices HG : Go p e below RS T0 (mkF m 0 #[.val (.ref a1)] []) by rw [hRS] at HG; exact HG
  show Go p e below RS T0 (mkF m 0 #[.val (.ref a1)] [])
  refine g_aloadN X0 C d7_0 rfl rfl rfl ?_
  refine g_initO (W := 0) X0 C (hw _ (List.mem_of_getElem? (i := 58) rfl)) (hw _ (List.mem_of_getElem? (i := 12) rfl)) (hw _ (List.mem_of_getElem? (i := 13) rfl)) rfl rfl (by decide) (by decide) d7_1 rfl (fun T3 X4 => ?_)
  rw [hRS]
  refine g_retV X4 C d7_4 ?_ (by decide) (by decide)
  exact ⟨rfl, rfl⟩
theorem ef_rmTM (m : MethodId) (a1 : Addr) : entryFrame m #[(.ref a1)] 1 = mkF m 0 #[.val (.ref a1)] [] := by first | (simp [entryFrame, mkF, argsToLocals, Value.category]; done) | rfl
set_option maxRecDepth 65536 in
set_option maxHeartbeats 40000000 in
theorem rmTM (l : Launch) (Z : State) (a0 : Array Value) (hw : ∀ d ∈ tables_1, d.before a0 Z = true) (a1 : Addr) (h0 : Heap) (n0 : Nat) (hz0 : Lo n0 h0.size) (ga_a1 : Lo n0 a1) (O_a1 : Ob Z h0 a1 "java/util/TreeMap" NS_TM [(.int (0 : Int32)), (.int (0 : Int32)), .null]) (ws : List Jvm.Cond) :
    Ctr l (⟨"java/util/TreeMap", "<init>", "()V"⟩ : MethodName) jdk_2729_method_1_code 1 none ({ frames := 2, cells := 0, slots := 0, locals := 24 } : Room) Z n0 #[(.ref a1)] h0 (fun v h => v = none ∧ Keep h0 h [a1]) ws := by
  refine ctr_of (plainFor_of_name pn_2) ?_
  intro p e s m below meth c T0 X0 C
  refine go_cast (ef_rmTM m a1) ?_
  obtain ⟨RS, hRS⟩ : ∃ RS, RS = Rs s below n0 (fun v h => v = none ∧ Keep h0 h [a1]) ({ frames := 2, cells := 0, slots := 0, locals := 24 } : Room).cells ({ frames := 2, cells := 0, slots := 0, locals := 24 } : Room).slots := ⟨_, rfl⟩
  suffices HG : Go p e below RS T0 (mkF m 0 #[.val (.ref a1)] []) by rw [hRS] at HG; exact HG
  show Go p e below RS T0 (mkF m 0 #[.val (.ref a1)] [])
  refine g_aloadN X0 C d4_0 rfl rfl rfl ?_
  refine g_special (argsL := []) (rest := []) (W := 0) (a := a1) X0 C (rmAM l Z a0 hw a1 h0 n0 hz0 []) rfl rfl (hw _ (List.mem_of_getElem? (i := 30) rfl)) (hw _ (List.mem_of_getElem? (i := 31) rfl)) (hw _ (List.mem_of_getElem? (i := 34) rfl)) (hw _ (List.mem_of_getElem? (i := 35) rfl)) (by decide) pd_0 rfl rfl rfl rfl rfl (by decide) (by decide) (by decide) (by decide) d4_1 rfl (fun r8 T5 h7 hQ9 X6 => ?_)
  obtain ⟨rfl, hh⟩ := hQ9; rw [hh] at X6
  show Go p e below RS T5 (mkF m 4 #[.val (.ref a1)] [])
  refine g_aloadN X6 C d4_4 rfl rfl rfl ?_
  refine g_iconst (v := 0) X6 C d4_5 (by decide) rfl ?_
  refine g_putO (i := 0) (vs' := [(.int (0 : Int32)), (.int (0 : Int32)), .null]) X6 C O_a1 (CF_TM hw) rfl rfl rfl ga_a1 (host := "") (Or.inl (hw _ (List.mem_of_getElem? (i := 37) rfl))) (Or.inl (hw _ (List.mem_of_getElem? (i := 38) rfl))) (ty := .int) (by decide) rfl rfl d4_6 rfl (fun T10 h12 X11 O_a1 K13 => ?_)
  have hz14 : Lo n0 h12.size := Lo.keep hz0 K13
  have KK15 := (Keep.refl h0 [a1]).trans K13 (allS (Or.inl (List.mem_of_getElem? (i := 0) rfl)) all0)
  refine g_aloadN X11 C d4_9 rfl rfl rfl ?_
  refine g_iconst (v := 0) X11 C d4_10 (by decide) rfl ?_
  refine g_putO (i := 1) (vs' := [(.int (0 : Int32)), (.int (0 : Int32)), .null]) X11 C O_a1 (CF_TM hw) rfl rfl rfl ga_a1 (host := "") (Or.inl (hw _ (List.mem_of_getElem? (i := 39) rfl))) (Or.inl (hw _ (List.mem_of_getElem? (i := 40) rfl))) (ty := .int) (by decide) rfl rfl d4_11 rfl (fun T16 h18 X17 O_a1 K19 => ?_)
  have hz20 : Lo n0 h18.size := Lo.keep hz14 K19
  have KK21 := KK15.trans K19 (allS (Or.inl (List.mem_of_getElem? (i := 0) rfl)) all0)
  refine g_aloadN X17 C d4_14 rfl rfl rfl ?_
  refine g_aconst X17 C d4_15 rfl ?_
  refine g_putO (i := 2) (vs' := [(.int (0 : Int32)), (.int (0 : Int32)), .null]) X17 C O_a1 (CF_TM hw) rfl rfl rfl ga_a1 (host := "") (Or.inl (hw _ (List.mem_of_getElem? (i := 41) rfl))) (Or.inr ⟨(hw _ (List.mem_of_getElem? (i := 42) rfl)), rfl, rfl⟩) (ty := (.object "java/util/Comparator")) (by decide) rfl rfl d4_16 rfl (fun T22 h24 X23 O_a1 K25 => ?_)
  have hz26 : Lo n0 h24.size := Lo.keep hz20 K25
  have KK27 := KK21.trans K25 (allS (Or.inl (List.mem_of_getElem? (i := 0) rfl)) all0)
  rw [hRS]
  refine g_retV X23 C d4_19 ?_ (by decide) (by decide)
  exact ⟨rfl, KK27⟩
theorem ef_rmSW (m : MethodId) (a1 : Addr) (q2 : Int64) : entryFrame m #[(.ref a1), (.long q2)] 3 = mkF m 0 #[.val (.ref a1), .val (.long q2), .second] [] := by first | (simp [entryFrame, mkF, argsToLocals, Value.category]; done) | rfl
set_option maxRecDepth 65536 in
set_option maxHeartbeats 40000000 in
theorem rmSW (l : Launch) (Z : State) (a0 : Array Value) (hw : ∀ d ∈ tables_1, d.before a0 Z = true) (a1 : Addr) (q2 : Int64) (h0 : Heap) (n0 : Nat) (hz0 : Lo n0 h0.size) (hq2 : 1 ≤ q2.toInt) (ga_a1 : Lo n0 a1) (O_a1 : Ob Z h0 a1 "com/example/ugello/ugello/service/SlidingWindow" NS_SW [.null, .null, .null, .null, (.long (0 : Int64)), (.long (0 : Int64))]) (ws : List Jvm.Cond) :
    Ctr l (⟨"com/example/ugello/ugello/service/SlidingWindow", "<init>", "(J)V"⟩ : MethodName) prog_41_method_1_code 3 none ({ frames := 2, cells := 4, slots := 49, locals := 26 } : Room) Z n0 #[(.ref a1), (.long q2)] h0 (fun v h => v = none ∧ Keep h0 h [a1]) ws := by
  refine ctr_of (plainFor_of_name pn_3) ?_
  intro p e s m below meth c T0 X0 C
  refine go_cast (ef_rmSW m a1 q2) ?_
  obtain ⟨RS, hRS⟩ : ∃ RS, RS = Rs s below n0 (fun v h => v = none ∧ Keep h0 h [a1]) ({ frames := 2, cells := 4, slots := 49, locals := 26 } : Room).cells ({ frames := 2, cells := 4, slots := 49, locals := 26 } : Room).slots := ⟨_, rfl⟩
  suffices HG : Go p e below RS T0 (mkF m 0 #[.val (.ref a1), .val (.long q2), .second] []) by rw [hRS] at HG; exact HG
  show Go p e below RS T0 (mkF m 0 #[.val (.ref a1), .val (.long q2), .second] [])
  refine g_aloadN X0 C d6_0 rfl rfl rfl ?_
  refine g_initO (W := 0) X0 C (hw _ (List.mem_of_getElem? (i := 51) rfl)) (hw _ (List.mem_of_getElem? (i := 12) rfl)) (hw _ (List.mem_of_getElem? (i := 13) rfl)) rfl rfl (by decide) (by decide) d6_1 rfl (fun T28 X29 => ?_)
  refine g_aloadN X29 C d6_4 rfl rfl rfl ?_
  refine g_newO (vs := []) X29 C (hw _ (List.mem_of_getElem? (i := 52) rfl)) (CF_KC hw) (hw _ (List.mem_of_getElem? (i := 54) rfl)) (by decide) (by decide) (by decide) d6_5 rfl (fun T30 h32 b34 hb35 X31 O_b34 K33 => ?_)
  have ne_a1_b34 : NE a1 b34 := hb35.ne O_a1.lt
  have ga_b34 : Lo n0 b34 := Sz.lo hb35 hz0
  have sz_b34 : Lo h0.size b34 := Sz.lo hb35 ((Keep.refl h0 [a1]).1)
  have O_a1 := O_a1.keep K33 nin0
  have hz36 : Lo n0 h32.size := Lo.keep hz0 K33
  have KK37 := (Keep.refl h0 [a1]).trans K33 (fun x hx => nomatch hx)
  refine g_dup X31 C d6_8 rfl rfl ?_
  refine g_special (argsL := []) (rest := [(.ref b34), (.ref a1)]) (W := 2) (a := b34) X31 C (rmKC l Z a0 hw b34 h32 n0 hz36 []) rfl rfl (hw _ (List.mem_of_getElem? (i := 55) rfl)) (hw _ (List.mem_of_getElem? (i := 56) rfl)) (hw _ (List.mem_of_getElem? (i := 54) rfl)) (hw _ (List.mem_of_getElem? (i := 57) rfl)) (by decide) pd_0 rfl rfl rfl rfl rfl (by decide) (by decide) (by decide) (by decide) d6_9 rfl (fun r41 T38 h40 hQ42 X39 => ?_)
  obtain ⟨rfl, hh⟩ := hQ42; rw [hh] at X39
  show Go p e below RS T38 (mkF m 12 #[.val (.ref a1), .val (.long q2), .second] [(.ref b34), (.ref a1)])
  refine g_putO (i := 0) (vs' := [(.ref b34), .null, .null, .null, (.long (0 : Int64)), (.long (0 : Int64))]) X39 C O_a1 (CF_SW hw) rfl rfl rfl ga_a1 (host := "") (Or.inl (hw _ (List.mem_of_getElem? (i := 59) rfl))) (Or.inr ⟨(hw _ (List.mem_of_getElem? (i := 60) rfl)), rfl, rfl⟩) (ty := (.object "com/example/ugello/ugello/service/KeyCounts")) (by decide) rfl rfl d6_12 rfl (fun T43 h45 X44 O_a1 K46 => ?_)
  have O_b34 := O_b34.keep K46 (ninN (NE.symm ne_a1_b34) nin0)
  have hz47 : Lo n0 h45.size := Lo.keep hz36 K46
  have KK48 := KK37.trans K46 (allS (Or.inl (List.mem_of_getElem? (i := 0) rfl)) all0)
  refine g_aloadN X44 C d6_15 rfl rfl rfl ?_
  refine g_bipush (v := 16) X44 C d6_16 (by decide) rfl ?_
  refine g_newarr (n := 16) (cap := 16) X44 C (hw _ (List.mem_of_getElem? (i := 17) rfl)) (by decide) (by decide) (by decide) (by decide) (by decide) d6_18 rfl (fun T49 h51 b53 hb54 X50 A_b53 K52 => ?_)
  have A_b53 : Ar Z h51 b53 .long 16 (fun _ => .long 0) := A_b53
  have ne_a1_b53 : NE a1 b53 := hb54.ne O_a1.lt
  have ne_b34_b53 : NE b34 b53 := hb54.ne O_b34.lt
  have ga_b53 : Lo n0 b53 := Sz.lo hb54 hz47
  have sz_b53 : Lo h0.size b53 := Sz.lo hb54 (KK48.1)
  have O_a1 := O_a1.keep K52 nin0
  have O_b34 := O_b34.keep K52 nin0
  have hz55 : Lo n0 h51.size := Lo.keep hz47 K52
  have KK56 := KK48.trans K52 (fun x hx => nomatch hx)
  refine g_putO (i := 1) (vs' := [(.ref b34), (.ref b53), .null, .null, (.long (0 : Int64)), (.long (0 : Int64))]) X50 C O_a1 (CF_SW hw) rfl rfl rfl ga_a1 (host := "") (Or.inl (hw _ (List.mem_of_getElem? (i := 61) rfl))) (Or.inl (hw _ (List.mem_of_getElem? (i := 62) rfl))) (ty := (.array .long)) (by decide) rfl rfl d6_20 rfl (fun T57 h59 X58 O_a1 K60 => ?_)
  have O_b34 := O_b34.keep K60 (ninN (NE.symm ne_a1_b34) nin0)
  have hz61 : Lo n0 h59.size := Lo.keep hz55 K60
  have KK62 := KK56.trans K60 (allS (Or.inl (List.mem_of_getElem? (i := 0) rfl)) all0)
  refine g_aloadN X58 C d6_23 rfl rfl rfl ?_
  refine g_bipush (v := 16) X58 C d6_24 (by decide) rfl ?_
  refine g_newarr (n := 16) (cap := 16) X58 C (hw _ (List.mem_of_getElem? (i := 17) rfl)) (by decide) (by decide) (by decide) (by decide) (by decide) d6_26 rfl (fun T63 h65 b67 hb68 X64 A_b67 K66 => ?_)
  have A_b67 : Ar Z h65 b67 .long 16 (fun _ => .long 0) := A_b67
  have ne_a1_b67 : NE a1 b67 := hb68.ne O_a1.lt
  have ne_b34_b67 : NE b34 b67 := hb68.ne O_b34.lt
  have ga_b67 : Lo n0 b67 := Sz.lo hb68 hz61
  have sz_b67 : Lo h0.size b67 := Sz.lo hb68 (KK62.1)
  have O_a1 := O_a1.keep K66 nin0
  have O_b34 := O_b34.keep K66 nin0
  have hz69 : Lo n0 h65.size := Lo.keep hz61 K66
  have KK70 := KK62.trans K66 (fun x hx => nomatch hx)
  refine g_putO (i := 2) (vs' := [(.ref b34), (.ref b53), (.ref b67), .null, (.long (0 : Int64)), (.long (0 : Int64))]) X64 C O_a1 (CF_SW hw) rfl rfl rfl ga_a1 (host := "") (Or.inl (hw _ (List.mem_of_getElem? (i := 63) rfl))) (Or.inl (hw _ (List.mem_of_getElem? (i := 64) rfl))) (ty := (.array .long)) (by decide) rfl rfl d6_28 rfl (fun T71 h73 X72 O_a1 K74 => ?_)
  have O_b34 := O_b34.keep K74 (ninN (NE.symm ne_a1_b34) nin0)
  have hz75 : Lo n0 h73.size := Lo.keep hz69 K74
  have KK76 := KK70.trans K74 (allS (Or.inl (List.mem_of_getElem? (i := 0) rfl)) all0)
  refine g_aloadN X72 C d6_31 rfl rfl rfl ?_
  refine g_bipush (v := 16) X72 C d6_32 (by decide) rfl ?_
  refine g_newarr (n := 16) (cap := 16) X72 C (hw _ (List.mem_of_getElem? (i := 17) rfl)) (by decide) (by decide) (by decide) (by decide) (by decide) d6_34 rfl (fun T77 h79 b81 hb82 X78 A_b81 K80 => ?_)
  have A_b81 : Ar Z h79 b81 .long 16 (fun _ => .long 0) := A_b81
  have ne_a1_b81 : NE a1 b81 := hb82.ne O_a1.lt
  have ne_b34_b81 : NE b34 b81 := hb82.ne O_b34.lt
  have ga_b81 : Lo n0 b81 := Sz.lo hb82 hz75
  have sz_b81 : Lo h0.size b81 := Sz.lo hb82 (KK76.1)
  have O_a1 := O_a1.keep K80 nin0
  have O_b34 := O_b34.keep K80 nin0
  have hz83 : Lo n0 h79.size := Lo.keep hz75 K80
  have KK84 := KK76.trans K80 (fun x hx => nomatch hx)
  refine g_putO (i := 3) (vs' := [(.ref b34), (.ref b53), (.ref b67), (.ref b81), (.long (0 : Int64)), (.long (0 : Int64))]) X78 C O_a1 (CF_SW hw) rfl rfl rfl ga_a1 (host := "") (Or.inl (hw _ (List.mem_of_getElem? (i := 65) rfl))) (Or.inl (hw _ (List.mem_of_getElem? (i := 66) rfl))) (ty := (.array .long)) (by decide) rfl rfl d6_36 rfl (fun T85 h87 X86 O_a1 K88 => ?_)
  have O_b34 := O_b34.keep K88 (ninN (NE.symm ne_a1_b34) nin0)
  have hz89 : Lo n0 h87.size := Lo.keep hz83 K88
  have KK90 := KK84.trans K88 (allS (Or.inl (List.mem_of_getElem? (i := 0) rfl)) all0)
  refine g_aloadN X86 C d6_39 rfl rfl rfl ?_
  refine g_ldcJ X86 C (hw _ (List.mem_of_getElem? (i := 67) rfl)) d6_40 rfl ?_
  refine g_putO (i := 4) (vs' := [(.ref b34), (.ref b53), (.ref b67), (.ref b81), (.long (-1 : Int64)), (.long (0 : Int64))]) X86 C O_a1 (CF_SW hw) rfl rfl rfl ga_a1 (host := "") (Or.inl (hw _ (List.mem_of_getElem? (i := 68) rfl))) (Or.inl (hw _ (List.mem_of_getElem? (i := 69) rfl))) (ty := .long) (by decide) rfl rfl d6_43 rfl (fun T91 h93 X92 O_a1 K94 => ?_)
  have O_b34 := O_b34.keep K94 (ninN (NE.symm ne_a1_b34) nin0)
  have hz95 : Lo n0 h93.size := Lo.keep hz89 K94
  have KK96 := KK90.trans K94 (allS (Or.inl (List.mem_of_getElem? (i := 0) rfl)) all0)
  refine g_lloadN X92 C d6_46 rfl rfl ?_
  refine g_lconst (v := 1) X92 C d6_47 (by decide) rfl ?_
  refine g_lcmp X92 C d6_48 rfl ?_
  refine g_lif_ge (a := q2.toInt) (b := 1) X92 C d6_49 rfl (by decide) (by decide) (pT := 66) (by decide) (pF := 52) rfl (fun hc49 => ?_) (fun hc49 => absurd hc49 (by omega))
  refine g_aloadN X92 C d6_66 rfl rfl rfl ?_
  refine g_lloadN X92 C d6_67 rfl rfl ?_
  refine g_putO (i := 5) (vs' := [(.ref b34), (.ref b53), (.ref b67), (.ref b81), (.long (-1 : Int64)), (.long q2)]) X92 C O_a1 (CF_SW hw) rfl rfl rfl ga_a1 (host := "") (Or.inl (hw _ (List.mem_of_getElem? (i := 70) rfl))) (Or.inr ⟨(hw _ (List.mem_of_getElem? (i := 71) rfl)), rfl, rfl⟩) (ty := .long) (by decide) rfl rfl d6_68 rfl (fun T97 h99 X98 O_a1 K100 => ?_)
  have O_b34 := O_b34.keep K100 (ninN (NE.symm ne_a1_b34) nin0)
  have hz101 : Lo n0 h99.size := Lo.keep hz95 K100
  have KK102 := KK96.trans K100 (allS (Or.inl (List.mem_of_getElem? (i := 0) rfl)) all0)
  rw [hRS]
  refine g_retV X98 C d6_71 ?_ (by decide) (by decide)
  exact ⟨rfl, KK102⟩
theorem ef_rmRT (m : MethodId) (a1 : Addr) (q2 : Int64) (p3 : Int32) : entryFrame m #[(.ref a1), (.long q2), (.int p3)] 4 = mkF m 0 #[.val (.ref a1), .val (.long q2), .second, .val (.int p3)] [] := by first | (simp [entryFrame, mkF, argsToLocals, Value.category]; done) | rfl
set_option maxRecDepth 65536 in
set_option maxHeartbeats 40000000 in
theorem rmRT (l : Launch) (Z : State) (a0 : Array Value) (hw : ∀ d ∈ tables_1, d.before a0 Z = true) (a1 : Addr) (q2 : Int64) (p3 : Int32) (h0 : Heap) (n0 : Nat) (hz0 : Lo n0 h0.size) (hq2 : 1 ≤ q2.toInt) (ga_a1 : Lo n0 a1) (O_a1 : Ob Z h0 a1 "com/example/ugello/ugello/service/ReplayTally" NS_RT [(.long (0 : Int64)), .null, .null, .null, .null, .null, (.long (0 : Int64)), (.int (0 : Int32)), (.long (0 : Int64)), (.long (0 : Int64)), (.long (0 : Int64)), (.long (0 : Int64))]) (ws : List Jvm.Cond) :
    Ctr l (⟨"com/example/ugello/ugello/service/ReplayTally", "<init>", "(JZ)V"⟩ : MethodName) prog_37_method_1_code 4 none ({ frames := 3, cells := 9, slots := 114, locals := 42 } : Room) Z n0 #[(.ref a1), (.long q2), (.int p3)] h0 (fun v h => v = none ∧ Keep h0 h [a1] ∧ ∃ (c1 c2 c3 c4 c5 : Addr) (z6 : Int32), Ob Z h a1 "com/example/ugello/ugello/service/ReplayTally" NS_RT [(.long (-1 : Int64)), (.ref c1), (.ref c2), (.ref c3), (.ref c4), (.ref c5), (.long q2), (.int z6), (.long (0 : Int64)), (.long (0 : Int64)), (.long (0 : Int64)), (.long (0 : Int64))]) ws := by
  refine ctr_of (plainFor_of_name pn_4) ?_
  intro p e s m below meth c T0 X0 C
  refine go_cast (ef_rmRT m a1 q2 p3) ?_
  obtain ⟨RS, hRS⟩ : ∃ RS, RS = Rs s below n0 (fun v h => v = none ∧ Keep h0 h [a1] ∧ ∃ (c1 c2 c3 c4 c5 : Addr) (z6 : Int32), Ob Z h a1 "com/example/ugello/ugello/service/ReplayTally" NS_RT [(.long (-1 : Int64)), (.ref c1), (.ref c2), (.ref c3), (.ref c4), (.ref c5), (.long q2), (.int z6), (.long (0 : Int64)), (.long (0 : Int64)), (.long (0 : Int64)), (.long (0 : Int64))]) ({ frames := 3, cells := 9, slots := 114, locals := 42 } : Room).cells ({ frames := 3, cells := 9, slots := 114, locals := 42 } : Room).slots := ⟨_, rfl⟩
  suffices HG : Go p e below RS T0 (mkF m 0 #[.val (.ref a1), .val (.long q2), .second, .val (.int p3)] []) by rw [hRS] at HG; exact HG
  show Go p e below RS T0 (mkF m 0 #[.val (.ref a1), .val (.long q2), .second, .val (.int p3)] [])
  refine g_aloadN X0 C d2_0 rfl rfl rfl ?_
  refine g_initO (W := 0) X0 C (hw _ (List.mem_of_getElem? (i := 11) rfl)) (hw _ (List.mem_of_getElem? (i := 12) rfl)) (hw _ (List.mem_of_getElem? (i := 13) rfl)) rfl rfl (by decide) (by decide) d2_1 rfl (fun T103 X104 => ?_)
  refine g_aloadN X104 C d2_4 rfl rfl rfl ?_
  refine g_ldcJ X104 C (hw _ (List.mem_of_getElem? (i := 14) rfl)) d2_5 rfl ?_
  refine g_putO (i := 0) (vs' := [(.long (-1 : Int64)), .null, .null, .null, .null, .null, (.long (0 : Int64)), (.int (0 : Int32)), (.long (0 : Int64)), (.long (0 : Int64)), (.long (0 : Int64)), (.long (0 : Int64))]) X104 C O_a1 (CF_RT hw) rfl rfl rfl ga_a1 (host := "") (Or.inl (hw _ (List.mem_of_getElem? (i := 15) rfl))) (Or.inl (hw _ (List.mem_of_getElem? (i := 16) rfl))) (ty := .long) (by decide) rfl rfl d2_8 rfl (fun T105 h107 X106 O_a1 K108 => ?_)
  have hz109 : Lo n0 h107.size := Lo.keep hz0 K108
  have KK110 := (Keep.refl h0 [a1]).trans K108 (allS (Or.inl (List.mem_of_getElem? (i := 0) rfl)) all0)
  refine g_aloadN X106 C d2_11 rfl rfl rfl ?_
  refine g_bipush (v := 16) X106 C d2_12 (by decide) rfl ?_
  refine g_newarr (n := 16) (cap := 16) X106 C (hw _ (List.mem_of_getElem? (i := 17) rfl)) (by decide) (by decide) (by decide) (by decide) (by decide) d2_14 rfl (fun T111 h113 b115 hb116 X112 A_b115 K114 => ?_)
  have A_b115 : Ar Z h113 b115 .long 16 (fun _ => .long 0) := A_b115
  have ne_a1_b115 : NE a1 b115 := hb116.ne O_a1.lt
  have ga_b115 : Lo n0 b115 := Sz.lo hb116 hz109
  have sz_b115 : Lo h0.size b115 := Sz.lo hb116 (KK110.1)
  have O_a1 := O_a1.keep K114 nin0
  have hz117 : Lo n0 h113.size := Lo.keep hz109 K114
  have KK118 := KK110.trans K114 (fun x hx => nomatch hx)
  refine g_putO (i := 1) (vs' := [(.long (-1 : Int64)), (.ref b115), .null, .null, .null, .null, (.long (0 : Int64)), (.int (0 : Int32)), (.long (0 : Int64)), (.long (0 : Int64)), (.long (0 : Int64)), (.long (0 : Int64))]) X112 C O_a1 (CF_RT hw) rfl rfl rfl ga_a1 (host := "") (Or.inl (hw _ (List.mem_of_getElem? (i := 18) rfl))) (Or.inl (hw _ (List.mem_of_getElem? (i := 19) rfl))) (ty := (.array .long)) (by decide) rfl rfl d2_16 rfl (fun T119 h121 X120 O_a1 K122 => ?_)
  have hz123 : Lo n0 h121.size := Lo.keep hz117 K122
  have KK124 := KK118.trans K122 (allS (Or.inl (List.mem_of_getElem? (i := 0) rfl)) all0)
  refine g_aloadN X120 C d2_19 rfl rfl rfl ?_
  refine g_bipush (v := 16) X120 C d2_20 (by decide) rfl ?_
  refine g_newarr (n := 16) (cap := 16) X120 C (hw _ (List.mem_of_getElem? (i := 17) rfl)) (by decide) (by decide) (by decide) (by decide) (by decide) d2_22 rfl (fun T125 h127 b129 hb130 X126 A_b129 K128 => ?_)
  have A_b129 : Ar Z h127 b129 .long 16 (fun _ => .long 0) := A_b129
  have ne_a1_b129 : NE a1 b129 := hb130.ne O_a1.lt
  have ga_b129 : Lo n0 b129 := Sz.lo hb130 hz123
  have sz_b129 : Lo h0.size b129 := Sz.lo hb130 (KK124.1)
  have O_a1 := O_a1.keep K128 nin0
  have hz131 : Lo n0 h127.size := Lo.keep hz123 K128
  have KK132 := KK124.trans K128 (fun x hx => nomatch hx)
  refine g_putO (i := 2) (vs' := [(.long (-1 : Int64)), (.ref b115), (.ref b129), .null, .null, .null, (.long (0 : Int64)), (.int (0 : Int32)), (.long (0 : Int64)), (.long (0 : Int64)), (.long (0 : Int64)), (.long (0 : Int64))]) X126 C O_a1 (CF_RT hw) rfl rfl rfl ga_a1 (host := "") (Or.inl (hw _ (List.mem_of_getElem? (i := 20) rfl))) (Or.inl (hw _ (List.mem_of_getElem? (i := 21) rfl))) (ty := (.array .long)) (by decide) rfl rfl d2_24 rfl (fun T133 h135 X134 O_a1 K136 => ?_)
  have hz137 : Lo n0 h135.size := Lo.keep hz131 K136
  have KK138 := KK132.trans K136 (allS (Or.inl (List.mem_of_getElem? (i := 0) rfl)) all0)
  refine g_aloadN X134 C d2_27 rfl rfl rfl ?_
  refine g_bipush (v := 16) X134 C d2_28 (by decide) rfl ?_
  refine g_newarr (n := 16) (cap := 16) X134 C (hw _ (List.mem_of_getElem? (i := 17) rfl)) (by decide) (by decide) (by decide) (by decide) (by decide) d2_30 rfl (fun T139 h141 b143 hb144 X140 A_b143 K142 => ?_)
  have A_b143 : Ar Z h141 b143 .long 16 (fun _ => .long 0) := A_b143
  have ne_a1_b143 : NE a1 b143 := hb144.ne O_a1.lt
  have ga_b143 : Lo n0 b143 := Sz.lo hb144 hz137
  have sz_b143 : Lo h0.size b143 := Sz.lo hb144 (KK138.1)
  have O_a1 := O_a1.keep K142 nin0
  have hz145 : Lo n0 h141.size := Lo.keep hz137 K142
  have KK146 := KK138.trans K142 (fun x hx => nomatch hx)
  refine g_putO (i := 3) (vs' := [(.long (-1 : Int64)), (.ref b115), (.ref b129), (.ref b143), .null, .null, (.long (0 : Int64)), (.int (0 : Int32)), (.long (0 : Int64)), (.long (0 : Int64)), (.long (0 : Int64)), (.long (0 : Int64))]) X140 C O_a1 (CF_RT hw) rfl rfl rfl ga_a1 (host := "") (Or.inl (hw _ (List.mem_of_getElem? (i := 22) rfl))) (Or.inl (hw _ (List.mem_of_getElem? (i := 23) rfl))) (ty := (.array .long)) (by decide) rfl rfl d2_32 rfl (fun T147 h149 X148 O_a1 K150 => ?_)
  have hz151 : Lo n0 h149.size := Lo.keep hz145 K150
  have KK152 := KK146.trans K150 (allS (Or.inl (List.mem_of_getElem? (i := 0) rfl)) all0)
  refine g_aloadN X148 C d2_35 rfl rfl rfl ?_
  refine g_newO (vs := [(.int (0 : Int32)), (.int (0 : Int32)), .null]) X148 C (hw _ (List.mem_of_getElem? (i := 24) rfl)) (CF_TM hw) (hw _ (List.mem_of_getElem? (i := 26) rfl)) (by decide) (by decide) (by decide) d2_36 rfl (fun T153 h155 b157 hb158 X154 O_b157 K156 => ?_)
  have ne_a1_b157 : NE a1 b157 := hb158.ne O_a1.lt
  have ga_b157 : Lo n0 b157 := Sz.lo hb158 hz151
  have sz_b157 : Lo h0.size b157 := Sz.lo hb158 (KK152.1)
  have O_a1 := O_a1.keep K156 nin0
  have hz159 : Lo n0 h155.size := Lo.keep hz151 K156
  have KK160 := KK152.trans K156 (fun x hx => nomatch hx)
  refine g_dup X154 C d2_39 rfl rfl ?_
  refine g_special (argsL := []) (rest := [(.ref b157), (.ref a1)]) (W := 2) (a := b157) X154 C (rmTM l Z a0 hw b157 h155 n0 hz159 ga_b157 O_b157 []) rfl rfl (hw _ (List.mem_of_getElem? (i := 27) rfl)) (hw _ (List.mem_of_getElem? (i := 28) rfl)) (hw _ (List.mem_of_getElem? (i := 26) rfl)) (hw _ (List.mem_of_getElem? (i := 29) rfl)) (by decide) pd_0 rfl rfl rfl rfl rfl (by decide) (by decide) (by decide) (by decide) d2_40 rfl (fun r164 T161 h163 hQ165 X162 => ?_)
  obtain ⟨rfl, KC166⟩ := hQ165
  have O_a1 := O_a1.keep KC166 (ninN ne_a1_b157 nin0)
  have hz167 : Lo n0 h163.size := Lo.keep hz159 KC166
  have KK168 := KK160.trans KC166 (allS (Or.inr sz_b157) all0)
  show Go p e below RS T161 (mkF m 43 #[.val (.ref a1), .val (.long q2), .second, .val (.int p3)] [(.ref b157), (.ref a1)])
  refine g_putO (i := 4) (vs' := [(.long (-1 : Int64)), (.ref b115), (.ref b129), (.ref b143), (.ref b157), .null, (.long (0 : Int64)), (.int (0 : Int32)), (.long (0 : Int64)), (.long (0 : Int64)), (.long (0 : Int64)), (.long (0 : Int64))]) X162 C O_a1 (CF_RT hw) rfl rfl rfl ga_a1 (host := "") (Or.inl (hw _ (List.mem_of_getElem? (i := 43) rfl))) (Or.inr ⟨(hw _ (List.mem_of_getElem? (i := 44) rfl)), rfl, rfl⟩) (ty := (.object "java/util/Map")) (by decide) rfl rfl d2_43 rfl (fun T169 h171 X170 O_a1 K172 => ?_)
  have hz173 : Lo n0 h171.size := Lo.keep hz167 K172
  have KK174 := KK168.trans K172 (allS (Or.inl (List.mem_of_getElem? (i := 0) rfl)) all0)
  refine g_aloadN X170 C d2_46 rfl rfl rfl ?_
  refine g_newO (vs := [.null, .null, .null, .null, (.long (0 : Int64)), (.long (0 : Int64))]) X170 C (hw _ (List.mem_of_getElem? (i := 45) rfl)) (CF_SW hw) (hw _ (List.mem_of_getElem? (i := 47) rfl)) (by decide) (by decide) (by decide) d2_47 rfl (fun T175 h177 b179 hb180 X176 O_b179 K178 => ?_)
  have ne_a1_b179 : NE a1 b179 := hb180.ne O_a1.lt
  have ga_b179 : Lo n0 b179 := Sz.lo hb180 hz173
  have sz_b179 : Lo h0.size b179 := Sz.lo hb180 (KK174.1)
  have O_a1 := O_a1.keep K178 nin0
  have hz181 : Lo n0 h177.size := Lo.keep hz173 K178
  have KK182 := KK174.trans K178 (fun x hx => nomatch hx)
  refine g_dup X176 C d2_50 rfl rfl ?_
  refine g_lloadN X176 C d2_51 rfl rfl ?_
  refine g_special (argsL := [(.long q2)]) (rest := [(.ref b179), (.ref a1)]) (W := 2) (a := b179) X176 C (rmSW l Z a0 hw b179 q2 h177 n0 hz181 hq2 ga_b179 O_b179 []) rfl rfl (hw _ (List.mem_of_getElem? (i := 48) rfl)) (hw _ (List.mem_of_getElem? (i := 49) rfl)) (hw _ (List.mem_of_getElem? (i := 47) rfl)) (hw _ (List.mem_of_getElem? (i := 50) rfl)) (by decide) pd_1 rfl rfl rfl rfl rfl (by decide) (by decide) (by decide) (by decide) d2_52 rfl (fun r186 T183 h185 hQ187 X184 => ?_)
  obtain ⟨rfl, KC188⟩ := hQ187
  have O_a1 := O_a1.keep KC188 (ninN ne_a1_b179 nin0)
  have hz189 : Lo n0 h185.size := Lo.keep hz181 KC188
  have KK190 := KK182.trans KC188 (allS (Or.inr sz_b179) all0)
  show Go p e below RS T183 (mkF m 55 #[.val (.ref a1), .val (.long q2), .second, .val (.int p3)] [(.ref b179), (.ref a1)])
  refine g_putO (i := 5) (vs' := [(.long (-1 : Int64)), (.ref b115), (.ref b129), (.ref b143), (.ref b157), (.ref b179), (.long (0 : Int64)), (.int (0 : Int32)), (.long (0 : Int64)), (.long (0 : Int64)), (.long (0 : Int64)), (.long (0 : Int64))]) X184 C O_a1 (CF_RT hw) rfl rfl rfl ga_a1 (host := "") (Or.inl (hw _ (List.mem_of_getElem? (i := 72) rfl))) (Or.inr ⟨(hw _ (List.mem_of_getElem? (i := 73) rfl)), rfl, rfl⟩) (ty := (.object "com/example/ugello/ugello/service/SlidingWindow")) (by decide) rfl rfl d2_55 rfl (fun T191 h193 X192 O_a1 K194 => ?_)
  have hz195 : Lo n0 h193.size := Lo.keep hz189 K194
  have KK196 := KK190.trans K194 (allS (Or.inl (List.mem_of_getElem? (i := 0) rfl)) all0)
  refine g_aloadN X192 C d2_58 rfl rfl rfl ?_
  refine g_lloadN X192 C d2_59 rfl rfl ?_
  refine g_putO (i := 6) (vs' := [(.long (-1 : Int64)), (.ref b115), (.ref b129), (.ref b143), (.ref b157), (.ref b179), (.long q2), (.int (0 : Int32)), (.long (0 : Int64)), (.long (0 : Int64)), (.long (0 : Int64)), (.long (0 : Int64))]) X192 C O_a1 (CF_RT hw) rfl rfl rfl ga_a1 (host := "") (Or.inl (hw _ (List.mem_of_getElem? (i := 74) rfl))) (Or.inr ⟨(hw _ (List.mem_of_getElem? (i := 75) rfl)), rfl, rfl⟩) (ty := .long) (by decide) rfl rfl d2_60 rfl (fun T197 h199 X198 O_a1 K200 => ?_)
  have hz201 : Lo n0 h199.size := Lo.keep hz195 K200
  have KK202 := KK196.trans K200 (allS (Or.inl (List.mem_of_getElem? (i := 0) rfl)) all0)
  refine g_aloadN X198 C d2_63 rfl rfl rfl ?_
  refine g_iloadN X198 C d2_64 rfl rfl ?_
  refine g_putN (i := 7) (v' := (.int (nar .boolean p3))) (vs' := [(.long (-1 : Int64)), (.ref b115), (.ref b129), (.ref b143), (.ref b157), (.ref b179), (.long q2), (.int (nar .boolean p3)), (.long (0 : Int64)), (.long (0 : Int64)), (.long (0 : Int64)), (.long (0 : Int64))]) X198 C O_a1 (CF_RT hw) rfl rfl rfl ga_a1 (hw _ (List.mem_of_getElem? (i := 76) rfl)) (Or.inr ⟨(hw _ (List.mem_of_getElem? (i := 77) rfl)), rfl, rfl⟩) (ty := .boolean) (by decide) rfl (fits_nar_bool _) d2_65 rfl (fun T203 h205 X204 O_a1 K206 => ?_)
  have hz207 : Lo n0 h205.size := Lo.keep hz201 K206
  have KK208 := KK202.trans K206 (allS (Or.inl (List.mem_of_getElem? (i := 0) rfl)) all0)
  rw [hRS]
  refine g_retV X204 C d2_68 ?_ (by decide) (by decide)
  exact ⟨rfl, KK208, _, _, _, _, _, _, O_a1⟩
theorem ef_rmRR (m : MethodId) (a1 : Addr) (p2 : Int32) : entryFrame m #[(.ref a1), (.int p2)] 2 = mkF m 0 #[.val (.ref a1), .val (.int p2)] [] := by first | (simp [entryFrame, mkF, argsToLocals, Value.category]; done) | rfl
set_option maxRecDepth 65536 in
set_option maxHeartbeats 40000000 in
theorem rmRR (l : Launch) (Z : State) (a0 : Array Value) (hw : ∀ d ∈ tables_1, d.before a0 Z = true) (a1 : Addr) (p2 : Int32) (c1 c2 c3 c4 c5 : Addr) (q2 : Int64) (z6 : Int32) (rI rT : Int64) (h0 : Heap) (n0 : Nat) (hz0 : Lo n0 h0.size) (hrI : 0 ≤ rI.toInt ∧ rI.toInt ≤ 10) (hrT : 0 ≤ rT.toInt ∧ rT.toInt ≤ 10) (ga_a1 : Lo n0 a1) (O_a1 : Ob Z h0 a1 "com/example/ugello/ugello/service/ReplayTally" NS_RT [(.long (-1 : Int64)), (.ref c1), (.ref c2), (.ref c3), (.ref c4), (.ref c5), (.long q2), (.int z6), (.long rI), (.long rT), (.long (0 : Int64)), (.long (0 : Int64))]) (ws : List Jvm.Cond) :
    Ctr l (⟨"com/example/ugello/ugello/service/ReplayTally", "recordReport", "(Z)V"⟩ : MethodName) prog_37_method_3_code 2 none ({ frames := 0, cells := 0, slots := 0, locals := 0 } : Room) Z n0 #[(.ref a1), (.int p2)] h0 (fun v h => v = none ∧ Keep h0 h [a1] ∧ ∃ rI' rT' : Int64, Ob Z h a1 "com/example/ugello/ugello/service/ReplayTally" NS_RT [(.long (-1 : Int64)), (.ref c1), (.ref c2), (.ref c3), (.ref c4), (.ref c5), (.long q2), (.int z6), (.long rI'), (.long rT'), (.long (0 : Int64)), (.long (0 : Int64))] ∧ ((p2.toInt = 0 ∧ rT'.toInt = rT.toInt ∧ rI'.toInt = rI.toInt + 1) ∨ (p2.toInt ≠ 0 ∧ rT'.toInt = rT.toInt + 1 ∧ rI'.toInt = rI.toInt))) ws := by
  refine ctr_of (plainFor_of_name pn_4) ?_
  intro p e s m below meth c T0 X0 C
  refine go_cast (ef_rmRR m a1 p2) ?_
  obtain ⟨RS, hRS⟩ : ∃ RS, RS = Rs s below n0 (fun v h => v = none ∧ Keep h0 h [a1] ∧ ∃ rI' rT' : Int64, Ob Z h a1 "com/example/ugello/ugello/service/ReplayTally" NS_RT [(.long (-1 : Int64)), (.ref c1), (.ref c2), (.ref c3), (.ref c4), (.ref c5), (.long q2), (.int z6), (.long rI'), (.long rT'), (.long (0 : Int64)), (.long (0 : Int64))] ∧ ((p2.toInt = 0 ∧ rT'.toInt = rT.toInt ∧ rI'.toInt = rI.toInt + 1) ∨ (p2.toInt ≠ 0 ∧ rT'.toInt = rT.toInt + 1 ∧ rI'.toInt = rI.toInt))) ({ frames := 0, cells := 0, slots := 0, locals := 0 } : Room).cells ({ frames := 0, cells := 0, slots := 0, locals := 0 } : Room).slots := ⟨_, rfl⟩
  suffices HG : Go p e below RS T0 (mkF m 0 #[.val (.ref a1), .val (.int p2)] []) by rw [hRS] at HG; exact HG
  show Go p e below RS T0 (mkF m 0 #[.val (.ref a1), .val (.int p2)] [])
  refine g_iloadN X0 C d8_0 rfl rfl ?_
  refine g_if_eq (a := p2.toInt) X0 C d8_1 rfl (by decide) (pT := 17) (by decide) (pF := 4) rfl (fun hc1 => ?_) (fun hc1 => ?_)
  ·
    refine g_aloadN X0 C d8_17 rfl rfl rfl ?_
    refine g_dup X0 C d8_18 rfl rfl ?_
    refine g_getO (i := 8) X0 C O_a1 rfl rfl (host := "") (Or.inl (hw _ (List.mem_of_getElem? (i := 83) rfl))) d8_19 rfl (fun T209 X210 => ?_)
    refine g_lconst (v := 1) X210 C d8_22 (by decide) rfl ?_
    refine g_ladd X210 C d8_23 rfl ?_
    refine g_putO (i := 8) (vs' := [(.long (-1 : Int64)), (.ref c1), (.ref c2), (.ref c3), (.ref c4), (.ref c5), (.long q2), (.int z6), (.long (rI + (1 : Int64))), (.long rT), (.long (0 : Int64)), (.long (0 : Int64))]) X210 C O_a1 (CF_RT hw) rfl rfl rfl ga_a1 (host := "") (Or.inl (hw _ (List.mem_of_getElem? (i := 83) rfl))) (Or.inl (hw _ (List.mem_of_getElem? (i := 84) rfl))) (ty := .long) (by decide) rfl rfl d8_24 rfl (fun T211 h213 X212 O_a1 K214 => ?_)
    have hz215 : Lo n0 h213.size := Lo.keep hz0 K214
    have KK216 := (Keep.refl h0 [a1]).trans K214 (allS (Or.inl (List.mem_of_getElem? (i := 0) rfl)) all0)
    rw [hRS]
    refine g_retV X212 C d8_27 ?_ (by decide) (by decide)
    have g1 := c_ladd rT 1; have g2 := c_ladd rI 1; have g3 : (1 : Int64).toInt = 1 := (by decide); have g4 := rng64 (rT + 1); have g5 := rng64 (rI + 1)
    exact ⟨rfl, KK216, _, _, O_a1, by omega⟩
  ·
    refine g_aloadN X0 C d8_4 rfl rfl rfl ?_
    refine g_dup X0 C d8_5 rfl rfl ?_
    refine g_getO (i := 9) X0 C O_a1 rfl rfl (host := "") (Or.inl (hw _ (List.mem_of_getElem? (i := 90) rfl))) d8_6 rfl (fun T217 X218 => ?_)
    refine g_lconst (v := 1) X218 C d8_9 (by decide) rfl ?_
    refine g_ladd X218 C d8_10 rfl ?_
    refine g_putO (i := 9) (vs' := [(.long (-1 : Int64)), (.ref c1), (.ref c2), (.ref c3), (.ref c4), (.ref c5), (.long q2), (.int z6), (.long rI), (.long (rT + (1 : Int64))), (.long (0 : Int64)), (.long (0 : Int64))]) X218 C O_a1 (CF_RT hw) rfl rfl rfl ga_a1 (host := "") (Or.inl (hw _ (List.mem_of_getElem? (i := 90) rfl))) (Or.inl (hw _ (List.mem_of_getElem? (i := 91) rfl))) (ty := .long) (by decide) rfl rfl d8_11 rfl (fun T219 h221 X220 O_a1 K222 => ?_)
    have hz223 : Lo n0 h221.size := Lo.keep hz0 K222
    have KK224 := (Keep.refl h0 [a1]).trans K222 (allS (Or.inl (List.mem_of_getElem? (i := 0) rfl)) all0)
    refine g_goto (pc' := 27) X220 C d8_14 (by decide) (by decide) ?_
    rw [hRS]
    refine g_retV X220 C d8_27 ?_ (by decide) (by decide)
    have g1 := c_ladd rT 1; have g2 := c_ladd rI 1; have g3 : (1 : Int64).toInt = 1 := (by decide); have g4 := rng64 (rT + 1); have g5 := rng64 (rI + 1)
    exact ⟨rfl, KK224, _, _, O_a1, by omega⟩
theorem ef_rm_reportsTaken (m : MethodId) (a1 : Addr) : entryFrame m #[(.ref a1)] 1 = mkF m 0 #[.val (.ref a1)] [] := by first | (simp [entryFrame, mkF, argsToLocals, Value.category]; done) | rfl
set_option maxRecDepth 65536 in
set_option maxHeartbeats 40000000 in
theorem rm_reportsTaken (l : Launch) (Z : State) (a0 : Array Value) (hw : ∀ d ∈ tables_1, d.before a0 Z = true) (a1 : Addr) (c1 c2 c3 c4 c5 : Addr) (q2 : Int64) (z6 : Int32) (rI rT : Int64) (h0 : Heap) (n0 : Nat) (hz0 : Lo n0 h0.size) (O_a1 : Ob Z h0 a1 "com/example/ugello/ugello/service/ReplayTally" NS_RT [(.long (-1 : Int64)), (.ref c1), (.ref c2), (.ref c3), (.ref c4), (.ref c5), (.long q2), (.int z6), (.long rI), (.long rT), (.long (0 : Int64)), (.long (0 : Int64))]) (ws : List Jvm.Cond) :
    Ctr l (⟨"com/example/ugello/ugello/service/ReplayTally", "reportsTaken", "()J"⟩ : MethodName) prog_37_method_8_code 1 (some .long) ({ frames := 0, cells := 0, slots := 0, locals := 0 } : Room) Z n0 #[(.ref a1)] h0 (fun v h => v = some (.long rT) ∧ h = h0) ws := by
  refine ctr_of (plainFor_of_name pn_4) ?_
  intro p e s m below meth c T0 X0 C
  refine go_cast (ef_rm_reportsTaken m a1) ?_
  obtain ⟨RS, hRS⟩ : ∃ RS, RS = Rs s below n0 (fun v h => v = some (.long rT) ∧ h = h0) ({ frames := 0, cells := 0, slots := 0, locals := 0 } : Room).cells ({ frames := 0, cells := 0, slots := 0, locals := 0 } : Room).slots := ⟨_, rfl⟩
  suffices HG : Go p e below RS T0 (mkF m 0 #[.val (.ref a1)] []) by rw [hRS] at HG; exact HG
  show Go p e below RS T0 (mkF m 0 #[.val (.ref a1)] [])
  refine g_aloadN X0 C d9_0 rfl rfl rfl ?_
  refine g_getO (i := 9) X0 C O_a1 rfl rfl (host := "") (Or.inl (hw _ (List.mem_of_getElem? (i := 90) rfl))) d9_1 rfl (fun T225 X226 => ?_)
  rw [hRS]
  refine g_retJ X226 C d9_4 ?_ (by decide) (by decide)
  exact ⟨rfl, rfl⟩
theorem ef_rm_reportsIgnored (m : MethodId) (a1 : Addr) : entryFrame m #[(.ref a1)] 1 = mkF m 0 #[.val (.ref a1)] [] := by first | (simp [entryFrame, mkF, argsToLocals, Value.category]; done) | rfl
set_option maxRecDepth 65536 in
set_option maxHeartbeats 40000000 in
theorem rm_reportsIgnored (l : Launch) (Z : State) (a0 : Array Value) (hw : ∀ d ∈ tables_1, d.before a0 Z = true) (a1 : Addr) (c1 c2 c3 c4 c5 : Addr) (q2 : Int64) (z6 : Int32) (rI rT : Int64) (h0 : Heap) (n0 : Nat) (hz0 : Lo n0 h0.size) (O_a1 : Ob Z h0 a1 "com/example/ugello/ugello/service/ReplayTally" NS_RT [(.long (-1 : Int64)), (.ref c1), (.ref c2), (.ref c3), (.ref c4), (.ref c5), (.long q2), (.int z6), (.long rI), (.long rT), (.long (0 : Int64)), (.long (0 : Int64))]) (ws : List Jvm.Cond) :
    Ctr l (⟨"com/example/ugello/ugello/service/ReplayTally", "reportsIgnored", "()J"⟩ : MethodName) prog_37_method_9_code 1 (some .long) ({ frames := 0, cells := 0, slots := 0, locals := 0 } : Room) Z n0 #[(.ref a1)] h0 (fun v h => v = some (.long rI) ∧ h = h0) ws := by
  refine ctr_of (plainFor_of_name pn_4) ?_
  intro p e s m below meth c T0 X0 C
  refine go_cast (ef_rm_reportsIgnored m a1) ?_
  obtain ⟨RS, hRS⟩ : ∃ RS, RS = Rs s below n0 (fun v h => v = some (.long rI) ∧ h = h0) ({ frames := 0, cells := 0, slots := 0, locals := 0 } : Room).cells ({ frames := 0, cells := 0, slots := 0, locals := 0 } : Room).slots := ⟨_, rfl⟩
  suffices HG : Go p e below RS T0 (mkF m 0 #[.val (.ref a1)] []) by rw [hRS] at HG; exact HG
  show Go p e below RS T0 (mkF m 0 #[.val (.ref a1)] [])
  refine g_aloadN X0 C d10_0 rfl rfl rfl ?_
  refine g_getO (i := 8) X0 C O_a1 rfl rfl (host := "") (Or.inl (hw _ (List.mem_of_getElem? (i := 83) rfl))) d10_1 rfl (fun T227 X228 => ?_)
  rw [hRS]
  refine g_retJ X228 C d10_4 ?_ (by decide) (by decide)
  exact ⟨rfl, rfl⟩
theorem ef_rm_offered (m : MethodId) (a1 : Addr) : entryFrame m #[(.ref a1)] 1 = mkF m 0 #[.val (.ref a1)] [] := by first | (simp [entryFrame, mkF, argsToLocals, Value.category]; done) | rfl
set_option maxRecDepth 65536 in
set_option maxHeartbeats 40000000 in
theorem rm_offered (l : Launch) (Z : State) (a0 : Array Value) (hw : ∀ d ∈ tables_1, d.before a0 Z = true) (a1 : Addr) (c1 c2 c3 c4 c5 : Addr) (q2 : Int64) (z6 : Int32) (rI rT : Int64) (h0 : Heap) (n0 : Nat) (hz0 : Lo n0 h0.size) (O_a1 : Ob Z h0 a1 "com/example/ugello/ugello/service/ReplayTally" NS_RT [(.long (-1 : Int64)), (.ref c1), (.ref c2), (.ref c3), (.ref c4), (.ref c5), (.long q2), (.int z6), (.long rI), (.long rT), (.long (0 : Int64)), (.long (0 : Int64))]) (ws : List Jvm.Cond) :
    Ctr l (⟨"com/example/ugello/ugello/service/ReplayTally", "offered", "()J"⟩ : MethodName) prog_37_method_4_code 1 (some .long) ({ frames := 0, cells := 0, slots := 0, locals := 0 } : Room) Z n0 #[(.ref a1)] h0 (fun v h => v = some (.long (0 : Int64)) ∧ h = h0) ws := by
  refine ctr_of (plainFor_of_name pn_4) ?_
  intro p e s m below meth c T0 X0 C
  refine go_cast (ef_rm_offered m a1) ?_
  obtain ⟨RS, hRS⟩ : ∃ RS, RS = Rs s below n0 (fun v h => v = some (.long (0 : Int64)) ∧ h = h0) ({ frames := 0, cells := 0, slots := 0, locals := 0 } : Room).cells ({ frames := 0, cells := 0, slots := 0, locals := 0 } : Room).slots := ⟨_, rfl⟩
  suffices HG : Go p e below RS T0 (mkF m 0 #[.val (.ref a1)] []) by rw [hRS] at HG; exact HG
  show Go p e below RS T0 (mkF m 0 #[.val (.ref a1)] [])
  refine g_aloadN X0 C d11_0 rfl rfl rfl ?_
  refine g_getO (i := 10) X0 C O_a1 rfl rfl (host := "") (Or.inl (hw _ (List.mem_of_getElem? (i := 102) rfl))) d11_1 rfl (fun T229 X230 => ?_)
  rw [hRS]
  refine g_retJ X230 C d11_4 ?_ (by decide) (by decide)
  exact ⟨rfl, rfl⟩
theorem ef_rm_admitted (m : MethodId) (a1 : Addr) : entryFrame m #[(.ref a1)] 1 = mkF m 0 #[.val (.ref a1)] [] := by first | (simp [entryFrame, mkF, argsToLocals, Value.category]; done) | rfl
set_option maxRecDepth 65536 in
set_option maxHeartbeats 40000000 in
theorem rm_admitted (l : Launch) (Z : State) (a0 : Array Value) (hw : ∀ d ∈ tables_1, d.before a0 Z = true) (a1 : Addr) (c1 c2 c3 c4 c5 : Addr) (q2 : Int64) (z6 : Int32) (rI rT : Int64) (h0 : Heap) (n0 : Nat) (hz0 : Lo n0 h0.size) (O_a1 : Ob Z h0 a1 "com/example/ugello/ugello/service/ReplayTally" NS_RT [(.long (-1 : Int64)), (.ref c1), (.ref c2), (.ref c3), (.ref c4), (.ref c5), (.long q2), (.int z6), (.long rI), (.long rT), (.long (0 : Int64)), (.long (0 : Int64))]) (ws : List Jvm.Cond) :
    Ctr l (⟨"com/example/ugello/ugello/service/ReplayTally", "admitted", "()J"⟩ : MethodName) prog_37_method_5_code 1 (some .long) ({ frames := 0, cells := 0, slots := 0, locals := 0 } : Room) Z n0 #[(.ref a1)] h0 (fun v h => v = some (.long (0 : Int64)) ∧ h = h0) ws := by
  refine ctr_of (plainFor_of_name pn_4) ?_
  intro p e s m below meth c T0 X0 C
  refine go_cast (ef_rm_admitted m a1) ?_
  obtain ⟨RS, hRS⟩ : ∃ RS, RS = Rs s below n0 (fun v h => v = some (.long (0 : Int64)) ∧ h = h0) ({ frames := 0, cells := 0, slots := 0, locals := 0 } : Room).cells ({ frames := 0, cells := 0, slots := 0, locals := 0 } : Room).slots := ⟨_, rfl⟩
  suffices HG : Go p e below RS T0 (mkF m 0 #[.val (.ref a1)] []) by rw [hRS] at HG; exact HG
  show Go p e below RS T0 (mkF m 0 #[.val (.ref a1)] [])
  refine g_aloadN X0 C d12_0 rfl rfl rfl ?_
  refine g_getO (i := 11) X0 C O_a1 rfl rfl (host := "") (Or.inl (hw _ (List.mem_of_getElem? (i := 109) rfl))) d12_1 rfl (fun T231 X232 => ?_)
  rw [hRS]
  refine g_retJ X232 C d12_4 ?_ (by decide) (by decide)
  exact ⟨rfl, rfl⟩
theorem ef_rm0 (m : MethodId) (q1 : Int64) (p2 : Int32) : entryFrame m #[(.long q1), (.int p2)] maxLocals = mkF m 0 #[.val (.long q1), .second, .val (.int p2), .unset, .unset, .unset, .unset, .unset, .unset, .unset, .unset, .unset, .unset, .unset, .unset] [] := by first | (simp [entryFrame, mkF, argsToLocals, Value.category, maxLocals]; done) | rfl
set_option maxRecDepth 65536 in
set_option maxHeartbeats 40000000 in
theorem rm0 (l : Launch) (Z : State) (a0 : Array Value) (hw : ∀ d ∈ tables_1, d.before a0 Z = true) (q1 : Int64) (p2 : Int32) (h0 : Heap) (n0 : Nat) (hz0 : Lo n0 h0.size)  (ws : List Jvm.Cond) :
    Ctr l x code maxLocals ret room_1 Z n0 #[(.long q1), (.int p2)] h0 (fun v h => v = some (.int 1)) ws := by
  refine ctr_of (plainFor_of_name pn_5) ?_
  intro p e s m below meth c T0 X0 C
  refine go_cast (ef_rm0 m q1 p2) ?_
  obtain ⟨RS, hRS⟩ : ∃ RS, RS = Rs s below n0 (fun v h => v = some (.int 1)) room_1.cells room_1.slots := ⟨_, rfl⟩
  suffices HG : Go p e below RS T0 (mkF m 0 #[.val (.long q1), .second, .val (.int p2), .unset, .unset, .unset, .unset, .unset, .unset, .unset, .unset, .unset, .unset, .unset, .unset] []) by rw [hRS] at HG; exact HG
  show Go p e below RS T0 (mkF m 0 #[.val (.long q1), .second, .val (.int p2), .unset, .unset, .unset, .unset, .unset, .unset, .unset, .unset, .unset, .unset, .unset, .unset] [])
  refine g_lconst (v := 1) X0 C at_0 (by decide) rfl ?_
  refine g_lloadN X0 C at_1 rfl rfl ?_
  refine g_ldcJ X0 C (hw _ (List.mem_of_getElem? (i := 0) rfl)) at_2 rfl ?_
  refine g_land X0 C at_5 rfl ?_
  refine g_static (argsL := [(.long (1 : Int64)), (.long (q1 &&& (9223372036854775807 : Int64)))]) (rest := []) (W := 0) X0 C (rmX l Z a0 hw (1 : Int64) (q1 &&& (9223372036854775807 : Int64)) h0 n0 hz0 []) (hw _ (List.mem_of_getElem? (i := 1) rfl)) (hw _ (List.mem_of_getElem? (i := 2) rfl)) (hw _ (List.mem_of_getElem? (i := 3) rfl)) (hw _ (List.mem_of_getElem? (i := 4) rfl)) (by decide) pd_2 rfl rfl rfl rfl rfl (by decide) (by decide) (by decide) (by decide) at_6 rfl (fun r236 T233 h235 hQ237 X234 => ?_)
  obtain ⟨q2, rfl, hq2, hh⟩ := hQ237; rw [hh] at X234
  have hq2' : 1 ≤ q2.toInt := by have g : (1 : Int64).toInt = 1 := (by decide); omega
  show Go p e below RS T233 (mkF m 9 #[.val (.long q1), .second, .val (.int p2), .unset, .unset, .unset, .unset, .unset, .unset, .unset, .unset, .unset, .unset, .unset, .unset] [(.long q2)])
  refine g_lstoreN (L' := #[.val (.long q1), .second, .val (.int p2), .val (.long q2), .second, .unset, .unset, .unset, .unset, .unset, .unset, .unset, .unset, .unset, .unset]) X234 C at_9 rfl rfl rfl ?_
  refine g_iloadN X234 C at_10 rfl rfl ?_
  refine g_iconst (v := 1) X234 C at_11 (by decide) rfl ?_
  refine g_iand X234 C at_12 rfl ?_
  have J21_238 : ∀ (i238 : Int32) (_ : ((p2 &&& (1 : Int32)).toInt = 0 ∧ i238 = (0 : Int32) ∧ i238.toInt = 0) ∨ ((p2 &&& (1 : Int32)).toInt ≠ 0 ∧ i238 = (1 : Int32) ∧ i238.toInt = 1)), Go p e below RS T233 (mkF m 21 #[.val (.long q1), .second, .val (.int p2), .val (.long q2), .second, .unset, .unset, .unset, .unset, .unset, .unset, .unset, .unset, .unset, .unset] [(.int i238)]) := by
    intro i238 hJ21
    refine g_istore (L' := #[.val (.long q1), .second, .val (.int p2), .val (.long q2), .second, .val (.int i238), .unset, .unset, .unset, .unset, .unset, .unset, .unset, .unset, .unset]) X234 C at_21 rfl rfl rfl ?_
    refine g_iloadN X234 C at_23 rfl rfl ?_
    refine g_iconst (v := 1) X234 C at_24 (by decide) rfl ?_
    refine g_iushr X234 C at_25 rfl ?_
    refine g_iconst (v := 3) X234 C at_26 (by decide) rfl ?_
    refine g_iand X234 C at_27 rfl ?_
    obtain ⟨i240, h_i240⟩ : ∃ z, z = (((p2.toUInt32 >>> ((1 : Int32) &&& 31).toUInt32).toInt32) &&& (3 : Int32)) := ⟨_, rfl⟩
    have hm_i240 : 0 ≤ i240.toInt ∧ i240.toInt ≤ 3 := by
      have g1 := c_mask ((p2.toUInt32 >>> ((1 : Int32) &&& 31).toUInt32).toInt32) 3 2 (by decide) (by decide)
      rw [← h_i240] at g1; simp only [Nat.reducePow] at g1; omega
    refine g_istore (L' := #[.val (.long q1), .second, .val (.int p2), .val (.long q2), .second, .val (.int i238), .val (.int i240), .unset, .unset, .unset, .unset, .unset, .unset, .unset, .unset]) X234 C at_28 h_i240 rfl rfl ?_
    refine g_iloadN X234 C at_30 rfl rfl ?_
    refine g_iconst (v := 3) X234 C at_31 (by decide) rfl ?_
    refine g_iushr X234 C at_32 rfl ?_
    refine g_iconst (v := 1) X234 C at_33 (by decide) rfl ?_
    refine g_iand X234 C at_34 rfl ?_
    obtain ⟨i241, h_i241⟩ : ∃ z, z = (((p2.toUInt32 >>> ((3 : Int32) &&& 31).toUInt32).toInt32) &&& (1 : Int32)) := ⟨_, rfl⟩
    have hm_i241 : 0 ≤ i241.toInt ∧ i241.toInt ≤ 1 := by
      have g1 := c_mask ((p2.toUInt32 >>> ((3 : Int32) &&& 31).toUInt32).toInt32) 1 1 (by decide) (by decide)
      rw [← h_i241] at g1; simp only [Nat.reducePow] at g1; omega
    refine g_istore (L' := #[.val (.long q1), .second, .val (.int p2), .val (.long q2), .second, .val (.int i238), .val (.int i240), .val (.int i241), .unset, .unset, .unset, .unset, .unset, .unset, .unset]) X234 C at_35 h_i241 rfl rfl ?_
    refine g_iloadN X234 C at_37 rfl rfl ?_
    refine g_iconst (v := 4) X234 C at_38 (by decide) rfl ?_
    refine g_iushr X234 C at_39 rfl ?_
    refine g_iconst (v := 1) X234 C at_40 (by decide) rfl ?_
    refine g_iand X234 C at_41 rfl ?_
    obtain ⟨i242, h_i242⟩ : ∃ z, z = (((p2.toUInt32 >>> ((4 : Int32) &&& 31).toUInt32).toInt32) &&& (1 : Int32)) := ⟨_, rfl⟩
    have hm_i242 : 0 ≤ i242.toInt ∧ i242.toInt ≤ 1 := by
      have g1 := c_mask ((p2.toUInt32 >>> ((4 : Int32) &&& 31).toUInt32).toInt32) 1 1 (by decide) (by decide)
      rw [← h_i242] at g1; simp only [Nat.reducePow] at g1; omega
    refine g_istore (L' := #[.val (.long q1), .second, .val (.int p2), .val (.long q2), .second, .val (.int i238), .val (.int i240), .val (.int i241), .val (.int i242), .unset, .unset, .unset, .unset, .unset, .unset]) X234 C at_42 h_i242 rfl rfl ?_
    refine g_iloadN X234 C at_44 rfl rfl ?_
    refine g_iconst (v := 5) X234 C at_45 (by decide) rfl ?_
    refine g_iushr X234 C at_46 rfl ?_
    refine g_iconst (v := 1) X234 C at_47 (by decide) rfl ?_
    refine g_iand X234 C at_48 rfl ?_
    obtain ⟨i243, h_i243⟩ : ∃ z, z = (((p2.toUInt32 >>> ((5 : Int32) &&& 31).toUInt32).toInt32) &&& (1 : Int32)) := ⟨_, rfl⟩
    have hm_i243 : 0 ≤ i243.toInt ∧ i243.toInt ≤ 1 := by
      have g1 := c_mask ((p2.toUInt32 >>> ((5 : Int32) &&& 31).toUInt32).toInt32) 1 1 (by decide) (by decide)
      rw [← h_i243] at g1; simp only [Nat.reducePow] at g1; omega
    refine g_istore (L' := #[.val (.long q1), .second, .val (.int p2), .val (.long q2), .second, .val (.int i238), .val (.int i240), .val (.int i241), .val (.int i242), .val (.int i243), .unset, .unset, .unset, .unset, .unset]) X234 C at_49 h_i243 rfl rfl ?_
    refine g_newO (vs := [(.long (0 : Int64)), .null, .null, .null, .null, .null, (.long (0 : Int64)), (.int (0 : Int32)), (.long (0 : Int64)), (.long (0 : Int64)), (.long (0 : Int64)), (.long (0 : Int64))]) X234 C (hw _ (List.mem_of_getElem? (i := 5) rfl)) (CF_RT hw) (hw _ (List.mem_of_getElem? (i := 7) rfl)) (by decide) (by decide) (by decide) at_51 rfl (fun T244 h246 b248 hb249 X245 O_b248 K247 => ?_)
    have ga_b248 : Lo n0 b248 := Sz.lo hb249 hz0
    have hz250 : Lo n0 h246.size := Lo.keep hz0 K247
    refine g_dup X245 C at_54 rfl rfl ?_
    refine g_lloadN X245 C at_55 rfl rfl ?_
    refine g_iload X245 C at_56 rfl rfl ?_
    refine g_special (argsL := [(.long q2), (.int i238)]) (rest := [(.ref b248)]) (W := 1) (a := b248) X245 C (rmRT l Z a0 hw b248 q2 i238 h246 n0 hz250 hq2' ga_b248 O_b248 []) rfl rfl (hw _ (List.mem_of_getElem? (i := 8) rfl)) (hw _ (List.mem_of_getElem? (i := 9) rfl)) (hw _ (List.mem_of_getElem? (i := 7) rfl)) (hw _ (List.mem_of_getElem? (i := 10) rfl)) (by decide) pd_3 rfl rfl rfl rfl rfl (by decide) (by decide) (by decide) (by decide) at_58 rfl (fun r254 T251 h253 hQ255 X252 => ?_)
    obtain ⟨rfl, KI, c1, c2, c3, c4, c5, z6, O_b248⟩ := hQ255
    have hz256 : Lo n0 h253.size := Lo.keep hz250 KI
    have h0I : 0 ≤ (0 : Int64).toInt ∧ (0 : Int64).toInt ≤ 0 := (by decide)
    have h0T : 0 ≤ (0 : Int64).toInt ∧ (0 : Int64).toInt ≤ 0 := (by decide)
    show Go p e below RS T251 (mkF m 61 #[.val (.long q1), .second, .val (.int p2), .val (.long q2), .second, .val (.int i238), .val (.int i240), .val (.int i241), .val (.int i242), .val (.int i243), .unset, .unset, .unset, .unset, .unset] [(.ref b248)])
    refine g_astore (L' := #[.val (.long q1), .second, .val (.int p2), .val (.long q2), .second, .val (.int i238), .val (.int i240), .val (.int i241), .val (.int i242), .val (.int i243), .val (.ref b248), .unset, .unset, .unset, .unset]) X252 C at_61 rfl rfl rfl ?_
    refine g_iload X252 C at_63 rfl rfl ?_
    refine g_iconst (v := 1) X252 C at_65 (by decide) rfl ?_
    refine g_icmp_lt (a := i240.toInt) (b := 1) X252 C at_66 rfl (by decide) (by decide) (pT := 84) (by decide) (pF := 69) rfl (fun hc66 => ?_) (fun hc66 => ?_)
    ·
      refine g_iload X252 C at_84 rfl rfl ?_
      refine g_iconst (v := 2) X252 C at_86 (by decide) rfl ?_
      refine g_icmp_lt (a := i240.toInt) (b := 2) X252 C at_87 rfl (by decide) (by decide) (pT := 105) (by decide) (pF := 90) rfl (fun hc87 => ?_) (fun hc87 => absurd hc87 (by omega))
      refine g_iload X252 C at_105 rfl rfl ?_
      refine g_iconst (v := 3) X252 C at_107 (by decide) rfl ?_
      refine g_icmp_lt (a := i240.toInt) (b := 3) X252 C at_108 rfl (by decide) (by decide) (pT := 126) (by decide) (pF := 111) rfl (fun hc108 => ?_) (fun hc108 => absurd hc108 (by omega))
      refine g_iload X252 C at_126 rfl rfl ?_
      refine g_iconst (v := 1) X252 C at_128 (by decide) rfl ?_
      refine g_icmp_lt (a := i240.toInt) (b := 1) X252 C at_129 rfl (by decide) (by decide) (pT := 137) (by decide) (pF := 132) rfl (fun hc129 => ?_) (fun hc129 => absurd hc129 (by omega))
      refine g_iconst (v := 0) X252 C at_137 (by decide) rfl ?_
      refine g_iload X252 C at_138 rfl rfl ?_
      refine g_iconst (v := 2) X252 C at_140 (by decide) rfl ?_
      refine g_icmp_lt (a := i240.toInt) (b := 2) X252 C at_141 rfl (by decide) (by decide) (pT := 149) (by decide) (pF := 144) rfl (fun hc141 => ?_) (fun hc141 => absurd hc141 (by omega))
      refine g_iconst (v := 0) X252 C at_149 (by decide) rfl ?_
      refine g_iadd X252 C at_150 rfl ?_
      refine g_iload X252 C at_151 rfl rfl ?_
      refine g_iconst (v := 3) X252 C at_153 (by decide) rfl ?_
      refine g_icmp_lt (a := i240.toInt) (b := 3) X252 C at_154 rfl (by decide) (by decide) (pT := 162) (by decide) (pF := 157) rfl (fun hc154 => ?_) (fun hc154 => absurd hc154 (by omega))
      refine g_iconst (v := 0) X252 C at_162 (by decide) rfl ?_
      refine g_iadd X252 C at_163 rfl ?_
      refine g_i2l X252 C at_164 rfl ?_
      obtain ⟨j257, h_j257⟩ : ∃ z, z = (((0 : Int32) + (0 : Int32)) + (0 : Int32)).toInt64 := ⟨_, rfl⟩
      have hx_j257 : j257.toInt = 0 + 0 + 0 := by
        have g1 := c_iadd (0 : Int32) (0 : Int32); have g2 := c_iadd ((0 : Int32) + (0 : Int32)) (0 : Int32); have g3 := rng32 ((0 : Int32) + (0 : Int32)); have g4 := rng32 ((0 : Int32) + (0 : Int32) + (0 : Int32)); have g5 := c_i2l ((0 : Int32) + (0 : Int32) + (0 : Int32)); have g6 : (0 : Int32).toInt = 0 := (by decide)
        rw [← h_j257] at g5; omega
      refine g_lstore (L' := #[.val (.long q1), .second, .val (.int p2), .val (.long q2), .second, .val (.int i238), .val (.int i240), .val (.int i241), .val (.int i242), .val (.int i243), .val (.ref b248), .val (.long j257), .second, .unset, .unset]) X252 C at_165 h_j257 rfl rfl ?_
      refine g_iload X252 C at_167 rfl rfl ?_
      refine g_i2l X252 C at_169 rfl ?_
      refine g_lload X252 C at_170 rfl rfl ?_
      refine g_lsub X252 C at_172 rfl ?_
      obtain ⟨j258, h_j258⟩ : ∃ z, z = (i240.toInt64 - j257) := ⟨_, rfl⟩
      have hx_j258 : j258.toInt = i240.toInt - j257.toInt := by
        have g1 := c_lsub i240.toInt64 j257; have g2 := c_i2l i240; have g3 := rng64 j258
        rw [← h_j258] at g1; omega
      refine g_lstore (L' := #[.val (.long q1), .second, .val (.int p2), .val (.long q2), .second, .val (.int i238), .val (.int i240), .val (.int i241), .val (.int i242), .val (.int i243), .val (.ref b248), .val (.long j257), .second, .val (.long j258), .second]) X252 C at_173 h_j258 rfl rfl ?_
      refine g_aload X252 C at_175 rfl rfl rfl ?_
      refine g_virtual (argsL := []) (rest := []) (W := 0) (a := b248) X252 C (rm_reportsTaken l Z a0 hw b248 c1 c2 c3 c4 c5 q2 z6 (0 : Int64) (0 : Int64) h253 n0 hz256 O_b248 []) O_b248.1 (hw _ (List.mem_of_getElem? (i := 85) rfl)) (hw _ (List.mem_of_getElem? (i := 86) rfl)) (hw _ (List.mem_of_getElem? (i := 88) rfl)) (hw _ (List.mem_of_getElem? (i := 87) rfl)) (hw _ (List.mem_of_getElem? (i := 7) rfl)) (hw _ (List.mem_of_getElem? (i := 89) rfl)) (by decide) pd_4 rfl rfl rfl rfl rfl (by decide) (by decide) (by decide) (by decide) at_177 rfl (fun r262 T259 h261 hQ263 X260 => ?_)
      obtain ⟨rfl, hh⟩ := hQ263; rw [hh] at X260
      show Go p e below RS T259 (mkF m 180 #[.val (.long q1), .second, .val (.int p2), .val (.long q2), .second, .val (.int i238), .val (.int i240), .val (.int i241), .val (.int i242), .val (.int i243), .val (.ref b248), .val (.long j257), .second, .val (.long j258), .second] [(.long (0 : Int64))])
      refine g_lload X260 C at_180 rfl rfl ?_
      refine g_lcmp X260 C at_182 rfl ?_
      refine g_lif_ne (a := 0) (b := j257.toInt) X260 C at_183 (by decide) rfl (by decide) (pT := 221) (by decide) (pF := 186) rfl (fun hc183 => absurd hc183 (by omega)) (fun hc183 => ?_)
      refine g_aload X260 C at_186 rfl rfl rfl ?_
      refine g_virtual (argsL := []) (rest := []) (W := 0) (a := b248) X260 C (rm_reportsIgnored l Z a0 hw b248 c1 c2 c3 c4 c5 q2 z6 (0 : Int64) (0 : Int64) h253 n0 hz256 O_b248 []) O_b248.1 (hw _ (List.mem_of_getElem? (i := 92) rfl)) (hw _ (List.mem_of_getElem? (i := 93) rfl)) (hw _ (List.mem_of_getElem? (i := 95) rfl)) (hw _ (List.mem_of_getElem? (i := 94) rfl)) (hw _ (List.mem_of_getElem? (i := 7) rfl)) (hw _ (List.mem_of_getElem? (i := 96) rfl)) (by decide) pd_4 rfl rfl rfl rfl rfl (by decide) (by decide) (by decide) (by decide) at_188 rfl (fun r267 T264 h266 hQ268 X265 => ?_)
      obtain ⟨rfl, hh⟩ := hQ268; rw [hh] at X265
      show Go p e below RS T264 (mkF m 191 #[.val (.long q1), .second, .val (.int p2), .val (.long q2), .second, .val (.int i238), .val (.int i240), .val (.int i241), .val (.int i242), .val (.int i243), .val (.ref b248), .val (.long j257), .second, .val (.long j258), .second] [(.long (0 : Int64))])
      refine g_lload X265 C at_191 rfl rfl ?_
      refine g_lcmp X265 C at_193 rfl ?_
      refine g_lif_ne (a := 0) (b := j258.toInt) X265 C at_194 (by decide) rfl (by decide) (pT := 221) (by decide) (pF := 197) rfl (fun hc194 => absurd hc194 (by omega)) (fun hc194 => ?_)
      refine g_aload X265 C at_197 rfl rfl rfl ?_
      refine g_virtual (argsL := []) (rest := []) (W := 0) (a := b248) X265 C (rm_offered l Z a0 hw b248 c1 c2 c3 c4 c5 q2 z6 (0 : Int64) (0 : Int64) h253 n0 hz256 O_b248 []) O_b248.1 (hw _ (List.mem_of_getElem? (i := 97) rfl)) (hw _ (List.mem_of_getElem? (i := 98) rfl)) (hw _ (List.mem_of_getElem? (i := 100) rfl)) (hw _ (List.mem_of_getElem? (i := 99) rfl)) (hw _ (List.mem_of_getElem? (i := 7) rfl)) (hw _ (List.mem_of_getElem? (i := 101) rfl)) (by decide) pd_4 rfl rfl rfl rfl rfl (by decide) (by decide) (by decide) (by decide) at_199 rfl (fun r272 T269 h271 hQ273 X270 => ?_)
      obtain ⟨rfl, hh⟩ := hQ273; rw [hh] at X270
      show Go p e below RS T269 (mkF m 202 #[.val (.long q1), .second, .val (.int p2), .val (.long q2), .second, .val (.int i238), .val (.int i240), .val (.int i241), .val (.int i242), .val (.int i243), .val (.ref b248), .val (.long j257), .second, .val (.long j258), .second] [(.long (0 : Int64))])
      refine g_lconst (v := 0) X270 C at_202 (by decide) rfl ?_
      refine g_lcmp X270 C at_203 rfl ?_
      refine g_lif_ne (a := 0) (b := 0) X270 C at_204 (by decide) (by decide) (by decide) (pT := 221) (by decide) (pF := 207) rfl (fun hc204 => absurd hc204 (by omega)) (fun hc204 => ?_)
      refine g_aload X270 C at_207 rfl rfl rfl ?_
      refine g_virtual (argsL := []) (rest := []) (W := 0) (a := b248) X270 C (rm_admitted l Z a0 hw b248 c1 c2 c3 c4 c5 q2 z6 (0 : Int64) (0 : Int64) h253 n0 hz256 O_b248 []) O_b248.1 (hw _ (List.mem_of_getElem? (i := 104) rfl)) (hw _ (List.mem_of_getElem? (i := 105) rfl)) (hw _ (List.mem_of_getElem? (i := 107) rfl)) (hw _ (List.mem_of_getElem? (i := 106) rfl)) (hw _ (List.mem_of_getElem? (i := 7) rfl)) (hw _ (List.mem_of_getElem? (i := 108) rfl)) (by decide) pd_4 rfl rfl rfl rfl rfl (by decide) (by decide) (by decide) (by decide) at_209 rfl (fun r277 T274 h276 hQ278 X275 => ?_)
      obtain ⟨rfl, hh⟩ := hQ278; rw [hh] at X275
      show Go p e below RS T274 (mkF m 212 #[.val (.long q1), .second, .val (.int p2), .val (.long q2), .second, .val (.int i238), .val (.int i240), .val (.int i241), .val (.int i242), .val (.int i243), .val (.ref b248), .val (.long j257), .second, .val (.long j258), .second] [(.long (0 : Int64))])
      refine g_lconst (v := 0) X275 C at_212 (by decide) rfl ?_
      refine g_lcmp X275 C at_213 rfl ?_
      refine g_lif_ne (a := 0) (b := 0) X275 C at_214 (by decide) (by decide) (by decide) (pT := 221) (by decide) (pF := 217) rfl (fun hc214 => absurd hc214 (by omega)) (fun hc214 => ?_)
      refine g_iconst (v := 1) X275 C at_217 (by decide) rfl ?_
      refine g_goto (pc' := 222) X275 C at_218 (by decide) (by decide) ?_
      rw [hRS]
      refine g_retZ X275 C at_222 ?_ (by decide) (by decide)
      exact rfl
    ·
      refine g_aload X252 C at_69 rfl rfl rfl ?_
      refine g_iload X252 C at_71 rfl rfl ?_
      have J81_279 : ∀ (i279 : Int32) (_ : (i241.toInt = 0 ∧ i279 = (0 : Int32) ∧ i279.toInt = 0) ∨ (i241.toInt ≠ 0 ∧ i279 = (1 : Int32) ∧ i279.toInt = 1)), Go p e below RS T251 (mkF m 81 #[.val (.long q1), .second, .val (.int p2), .val (.long q2), .second, .val (.int i238), .val (.int i240), .val (.int i241), .val (.int i242), .val (.int i243), .val (.ref b248), .unset, .unset, .unset, .unset] [(.int i279), (.ref b248)]) := by
        intro i279 hJ81
        refine g_virtual (argsL := [(.int i279)]) (rest := []) (W := 0) (a := b248) X252 C (rmRR l Z a0 hw b248 i279 c1 c2 c3 c4 c5 q2 z6 (0 : Int64) (0 : Int64) h253 n0 hz256 (by omega) (by omega) ga_b248 O_b248 []) O_b248.1 (hw _ (List.mem_of_getElem? (i := 78) rfl)) (hw _ (List.mem_of_getElem? (i := 79) rfl)) (hw _ (List.mem_of_getElem? (i := 81) rfl)) (hw _ (List.mem_of_getElem? (i := 80) rfl)) (hw _ (List.mem_of_getElem? (i := 7) rfl)) (hw _ (List.mem_of_getElem? (i := 82) rfl)) (by decide) pd_5 rfl rfl rfl rfl rfl (by decide) (by decide) (by decide) (by decide) at_81 rfl (fun r284 T281 h283 hQ285 X282 => ?_)
        obtain ⟨rfl, KR1, rI1, rT1, O_b248, hr1⟩ := hQ285
        have hz286 : Lo n0 h283.size := Lo.keep hz256 KR1
        show Go p e below RS T281 (mkF m 84 #[.val (.long q1), .second, .val (.int p2), .val (.long q2), .second, .val (.int i238), .val (.int i240), .val (.int i241), .val (.int i242), .val (.int i243), .val (.ref b248), .unset, .unset, .unset, .unset] [])
        refine g_iload X282 C at_84 rfl rfl ?_
        refine g_iconst (v := 2) X282 C at_86 (by decide) rfl ?_
        refine g_icmp_lt (a := i240.toInt) (b := 2) X282 C at_87 rfl (by decide) (by decide) (pT := 105) (by decide) (pF := 90) rfl (fun hc87 => ?_) (fun hc87 => ?_)
        ·
          refine g_iload X282 C at_105 rfl rfl ?_
          refine g_iconst (v := 3) X282 C at_107 (by decide) rfl ?_
          refine g_icmp_lt (a := i240.toInt) (b := 3) X282 C at_108 rfl (by decide) (by decide) (pT := 126) (by decide) (pF := 111) rfl (fun hc108 => ?_) (fun hc108 => absurd hc108 (by omega))
          refine g_iload X282 C at_126 rfl rfl ?_
          refine g_iconst (v := 1) X282 C at_128 (by decide) rfl ?_
          refine g_icmp_lt (a := i240.toInt) (b := 1) X282 C at_129 rfl (by decide) (by decide) (pT := 137) (by decide) (pF := 132) rfl (fun hc129 => absurd hc129 (by omega)) (fun hc129 => ?_)
          refine g_iload X282 C at_132 rfl rfl ?_
          refine g_goto (pc' := 138) X282 C at_134 (by decide) (by decide) ?_
          refine g_iload X282 C at_138 rfl rfl ?_
          refine g_iconst (v := 2) X282 C at_140 (by decide) rfl ?_
          refine g_icmp_lt (a := i240.toInt) (b := 2) X282 C at_141 rfl (by decide) (by decide) (pT := 149) (by decide) (pF := 144) rfl (fun hc141 => ?_) (fun hc141 => absurd hc141 (by omega))
          refine g_iconst (v := 0) X282 C at_149 (by decide) rfl ?_
          refine g_iadd X282 C at_150 rfl ?_
          refine g_iload X282 C at_151 rfl rfl ?_
          refine g_iconst (v := 3) X282 C at_153 (by decide) rfl ?_
          refine g_icmp_lt (a := i240.toInt) (b := 3) X282 C at_154 rfl (by decide) (by decide) (pT := 162) (by decide) (pF := 157) rfl (fun hc154 => ?_) (fun hc154 => absurd hc154 (by omega))
          refine g_iconst (v := 0) X282 C at_162 (by decide) rfl ?_
          refine g_iadd X282 C at_163 rfl ?_
          refine g_i2l X282 C at_164 rfl ?_
          obtain ⟨j287, h_j287⟩ : ∃ z, z = ((i241 + (0 : Int32)) + (0 : Int32)).toInt64 := ⟨_, rfl⟩
          have hx_j287 : j287.toInt = i241.toInt + 0 + 0 := by
            have g1 := c_iadd i241 (0 : Int32); have g2 := c_iadd (i241 + (0 : Int32)) (0 : Int32); have g3 := rng32 (i241 + (0 : Int32)); have g4 := rng32 (i241 + (0 : Int32) + (0 : Int32)); have g5 := c_i2l (i241 + (0 : Int32) + (0 : Int32)); have g6 : (0 : Int32).toInt = 0 := (by decide)
            rw [← h_j287] at g5; omega
          refine g_lstore (L' := #[.val (.long q1), .second, .val (.int p2), .val (.long q2), .second, .val (.int i238), .val (.int i240), .val (.int i241), .val (.int i242), .val (.int i243), .val (.ref b248), .val (.long j287), .second, .unset, .unset]) X282 C at_165 h_j287 rfl rfl ?_
          refine g_iload X282 C at_167 rfl rfl ?_
          refine g_i2l X282 C at_169 rfl ?_
          refine g_lload X282 C at_170 rfl rfl ?_
          refine g_lsub X282 C at_172 rfl ?_
          obtain ⟨j288, h_j288⟩ : ∃ z, z = (i240.toInt64 - j287) := ⟨_, rfl⟩
          have hx_j288 : j288.toInt = i240.toInt - j287.toInt := by
            have g1 := c_lsub i240.toInt64 j287; have g2 := c_i2l i240; have g3 := rng64 j288
            rw [← h_j288] at g1; omega
          refine g_lstore (L' := #[.val (.long q1), .second, .val (.int p2), .val (.long q2), .second, .val (.int i238), .val (.int i240), .val (.int i241), .val (.int i242), .val (.int i243), .val (.ref b248), .val (.long j287), .second, .val (.long j288), .second]) X282 C at_173 h_j288 rfl rfl ?_
          refine g_aload X282 C at_175 rfl rfl rfl ?_
          refine g_virtual (argsL := []) (rest := []) (W := 0) (a := b248) X282 C (rm_reportsTaken l Z a0 hw b248 c1 c2 c3 c4 c5 q2 z6 rI1 rT1 h283 n0 hz286 O_b248 []) O_b248.1 (hw _ (List.mem_of_getElem? (i := 85) rfl)) (hw _ (List.mem_of_getElem? (i := 86) rfl)) (hw _ (List.mem_of_getElem? (i := 88) rfl)) (hw _ (List.mem_of_getElem? (i := 87) rfl)) (hw _ (List.mem_of_getElem? (i := 7) rfl)) (hw _ (List.mem_of_getElem? (i := 89) rfl)) (by decide) pd_4 rfl rfl rfl rfl rfl (by decide) (by decide) (by decide) (by decide) at_177 rfl (fun r292 T289 h291 hQ293 X290 => ?_)
          obtain ⟨rfl, hh⟩ := hQ293; rw [hh] at X290
          show Go p e below RS T289 (mkF m 180 #[.val (.long q1), .second, .val (.int p2), .val (.long q2), .second, .val (.int i238), .val (.int i240), .val (.int i241), .val (.int i242), .val (.int i243), .val (.ref b248), .val (.long j287), .second, .val (.long j288), .second] [(.long rT1)])
          refine g_lload X290 C at_180 rfl rfl ?_
          refine g_lcmp X290 C at_182 rfl ?_
          refine g_lif_ne (a := rT1.toInt) (b := j287.toInt) X290 C at_183 rfl rfl (by decide) (pT := 221) (by decide) (pF := 186) rfl (fun hc183 => absurd hc183 (by omega)) (fun hc183 => ?_)
          refine g_aload X290 C at_186 rfl rfl rfl ?_
          refine g_virtual (argsL := []) (rest := []) (W := 0) (a := b248) X290 C (rm_reportsIgnored l Z a0 hw b248 c1 c2 c3 c4 c5 q2 z6 rI1 rT1 h283 n0 hz286 O_b248 []) O_b248.1 (hw _ (List.mem_of_getElem? (i := 92) rfl)) (hw _ (List.mem_of_getElem? (i := 93) rfl)) (hw _ (List.mem_of_getElem? (i := 95) rfl)) (hw _ (List.mem_of_getElem? (i := 94) rfl)) (hw _ (List.mem_of_getElem? (i := 7) rfl)) (hw _ (List.mem_of_getElem? (i := 96) rfl)) (by decide) pd_4 rfl rfl rfl rfl rfl (by decide) (by decide) (by decide) (by decide) at_188 rfl (fun r297 T294 h296 hQ298 X295 => ?_)
          obtain ⟨rfl, hh⟩ := hQ298; rw [hh] at X295
          show Go p e below RS T294 (mkF m 191 #[.val (.long q1), .second, .val (.int p2), .val (.long q2), .second, .val (.int i238), .val (.int i240), .val (.int i241), .val (.int i242), .val (.int i243), .val (.ref b248), .val (.long j287), .second, .val (.long j288), .second] [(.long rI1)])
          refine g_lload X295 C at_191 rfl rfl ?_
          refine g_lcmp X295 C at_193 rfl ?_
          refine g_lif_ne (a := rI1.toInt) (b := j288.toInt) X295 C at_194 rfl rfl (by decide) (pT := 221) (by decide) (pF := 197) rfl (fun hc194 => absurd hc194 (by omega)) (fun hc194 => ?_)
          refine g_aload X295 C at_197 rfl rfl rfl ?_
          refine g_virtual (argsL := []) (rest := []) (W := 0) (a := b248) X295 C (rm_offered l Z a0 hw b248 c1 c2 c3 c4 c5 q2 z6 rI1 rT1 h283 n0 hz286 O_b248 []) O_b248.1 (hw _ (List.mem_of_getElem? (i := 97) rfl)) (hw _ (List.mem_of_getElem? (i := 98) rfl)) (hw _ (List.mem_of_getElem? (i := 100) rfl)) (hw _ (List.mem_of_getElem? (i := 99) rfl)) (hw _ (List.mem_of_getElem? (i := 7) rfl)) (hw _ (List.mem_of_getElem? (i := 101) rfl)) (by decide) pd_4 rfl rfl rfl rfl rfl (by decide) (by decide) (by decide) (by decide) at_199 rfl (fun r302 T299 h301 hQ303 X300 => ?_)
          obtain ⟨rfl, hh⟩ := hQ303; rw [hh] at X300
          show Go p e below RS T299 (mkF m 202 #[.val (.long q1), .second, .val (.int p2), .val (.long q2), .second, .val (.int i238), .val (.int i240), .val (.int i241), .val (.int i242), .val (.int i243), .val (.ref b248), .val (.long j287), .second, .val (.long j288), .second] [(.long (0 : Int64))])
          refine g_lconst (v := 0) X300 C at_202 (by decide) rfl ?_
          refine g_lcmp X300 C at_203 rfl ?_
          refine g_lif_ne (a := 0) (b := 0) X300 C at_204 (by decide) (by decide) (by decide) (pT := 221) (by decide) (pF := 207) rfl (fun hc204 => absurd hc204 (by omega)) (fun hc204 => ?_)
          refine g_aload X300 C at_207 rfl rfl rfl ?_
          refine g_virtual (argsL := []) (rest := []) (W := 0) (a := b248) X300 C (rm_admitted l Z a0 hw b248 c1 c2 c3 c4 c5 q2 z6 rI1 rT1 h283 n0 hz286 O_b248 []) O_b248.1 (hw _ (List.mem_of_getElem? (i := 104) rfl)) (hw _ (List.mem_of_getElem? (i := 105) rfl)) (hw _ (List.mem_of_getElem? (i := 107) rfl)) (hw _ (List.mem_of_getElem? (i := 106) rfl)) (hw _ (List.mem_of_getElem? (i := 7) rfl)) (hw _ (List.mem_of_getElem? (i := 108) rfl)) (by decide) pd_4 rfl rfl rfl rfl rfl (by decide) (by decide) (by decide) (by decide) at_209 rfl (fun r307 T304 h306 hQ308 X305 => ?_)
          obtain ⟨rfl, hh⟩ := hQ308; rw [hh] at X305
          show Go p e below RS T304 (mkF m 212 #[.val (.long q1), .second, .val (.int p2), .val (.long q2), .second, .val (.int i238), .val (.int i240), .val (.int i241), .val (.int i242), .val (.int i243), .val (.ref b248), .val (.long j287), .second, .val (.long j288), .second] [(.long (0 : Int64))])
          refine g_lconst (v := 0) X305 C at_212 (by decide) rfl ?_
          refine g_lcmp X305 C at_213 rfl ?_
          refine g_lif_ne (a := 0) (b := 0) X305 C at_214 (by decide) (by decide) (by decide) (pT := 221) (by decide) (pF := 217) rfl (fun hc214 => absurd hc214 (by omega)) (fun hc214 => ?_)
          refine g_iconst (v := 1) X305 C at_217 (by decide) rfl ?_
          refine g_goto (pc' := 222) X305 C at_218 (by decide) (by decide) ?_
          rw [hRS]
          refine g_retZ X305 C at_222 ?_ (by decide) (by decide)
          exact rfl
        ·
          refine g_aload X282 C at_90 rfl rfl rfl ?_
          refine g_iload X282 C at_92 rfl rfl ?_
          have J102_309 : ∀ (i309 : Int32) (_ : (i242.toInt = 0 ∧ i309 = (0 : Int32) ∧ i309.toInt = 0) ∨ (i242.toInt ≠ 0 ∧ i309 = (1 : Int32) ∧ i309.toInt = 1)), Go p e below RS T281 (mkF m 102 #[.val (.long q1), .second, .val (.int p2), .val (.long q2), .second, .val (.int i238), .val (.int i240), .val (.int i241), .val (.int i242), .val (.int i243), .val (.ref b248), .unset, .unset, .unset, .unset] [(.int i309), (.ref b248)]) := by
            intro i309 hJ102
            refine g_virtual (argsL := [(.int i309)]) (rest := []) (W := 0) (a := b248) X282 C (rmRR l Z a0 hw b248 i309 c1 c2 c3 c4 c5 q2 z6 rI1 rT1 h283 n0 hz286 (by omega) (by omega) ga_b248 O_b248 []) O_b248.1 (hw _ (List.mem_of_getElem? (i := 78) rfl)) (hw _ (List.mem_of_getElem? (i := 79) rfl)) (hw _ (List.mem_of_getElem? (i := 81) rfl)) (hw _ (List.mem_of_getElem? (i := 80) rfl)) (hw _ (List.mem_of_getElem? (i := 7) rfl)) (hw _ (List.mem_of_getElem? (i := 82) rfl)) (by decide) pd_5 rfl rfl rfl rfl rfl (by decide) (by decide) (by decide) (by decide) at_102 rfl (fun r314 T311 h313 hQ315 X312 => ?_)
            obtain ⟨rfl, KR2, rI2, rT2, O_b248, hr2⟩ := hQ315
            have hz316 : Lo n0 h313.size := Lo.keep hz286 KR2
            show Go p e below RS T311 (mkF m 105 #[.val (.long q1), .second, .val (.int p2), .val (.long q2), .second, .val (.int i238), .val (.int i240), .val (.int i241), .val (.int i242), .val (.int i243), .val (.ref b248), .unset, .unset, .unset, .unset] [])
            refine g_iload X312 C at_105 rfl rfl ?_
            refine g_iconst (v := 3) X312 C at_107 (by decide) rfl ?_
            refine g_icmp_lt (a := i240.toInt) (b := 3) X312 C at_108 rfl (by decide) (by decide) (pT := 126) (by decide) (pF := 111) rfl (fun hc108 => ?_) (fun hc108 => ?_)
            ·
              refine g_iload X312 C at_126 rfl rfl ?_
              refine g_iconst (v := 1) X312 C at_128 (by decide) rfl ?_
              refine g_icmp_lt (a := i240.toInt) (b := 1) X312 C at_129 rfl (by decide) (by decide) (pT := 137) (by decide) (pF := 132) rfl (fun hc129 => absurd hc129 (by omega)) (fun hc129 => ?_)
              refine g_iload X312 C at_132 rfl rfl ?_
              refine g_goto (pc' := 138) X312 C at_134 (by decide) (by decide) ?_
              refine g_iload X312 C at_138 rfl rfl ?_
              refine g_iconst (v := 2) X312 C at_140 (by decide) rfl ?_
              refine g_icmp_lt (a := i240.toInt) (b := 2) X312 C at_141 rfl (by decide) (by decide) (pT := 149) (by decide) (pF := 144) rfl (fun hc141 => absurd hc141 (by omega)) (fun hc141 => ?_)
              refine g_iload X312 C at_144 rfl rfl ?_
              refine g_goto (pc' := 150) X312 C at_146 (by decide) (by decide) ?_
              refine g_iadd X312 C at_150 rfl ?_
              refine g_iload X312 C at_151 rfl rfl ?_
              refine g_iconst (v := 3) X312 C at_153 (by decide) rfl ?_
              refine g_icmp_lt (a := i240.toInt) (b := 3) X312 C at_154 rfl (by decide) (by decide) (pT := 162) (by decide) (pF := 157) rfl (fun hc154 => ?_) (fun hc154 => absurd hc154 (by omega))
              refine g_iconst (v := 0) X312 C at_162 (by decide) rfl ?_
              refine g_iadd X312 C at_163 rfl ?_
              refine g_i2l X312 C at_164 rfl ?_
              obtain ⟨j317, h_j317⟩ : ∃ z, z = ((i241 + i242) + (0 : Int32)).toInt64 := ⟨_, rfl⟩
              have hx_j317 : j317.toInt = i241.toInt + i242.toInt + 0 := by
                have g1 := c_iadd i241 i242; have g2 := c_iadd (i241 + i242) (0 : Int32); have g3 := rng32 (i241 + i242); have g4 := rng32 (i241 + i242 + (0 : Int32)); have g5 := c_i2l (i241 + i242 + (0 : Int32)); have g6 : (0 : Int32).toInt = 0 := (by decide)
                rw [← h_j317] at g5; omega
              refine g_lstore (L' := #[.val (.long q1), .second, .val (.int p2), .val (.long q2), .second, .val (.int i238), .val (.int i240), .val (.int i241), .val (.int i242), .val (.int i243), .val (.ref b248), .val (.long j317), .second, .unset, .unset]) X312 C at_165 h_j317 rfl rfl ?_
              refine g_iload X312 C at_167 rfl rfl ?_
              refine g_i2l X312 C at_169 rfl ?_
              refine g_lload X312 C at_170 rfl rfl ?_
              refine g_lsub X312 C at_172 rfl ?_
              obtain ⟨j318, h_j318⟩ : ∃ z, z = (i240.toInt64 - j317) := ⟨_, rfl⟩
              have hx_j318 : j318.toInt = i240.toInt - j317.toInt := by
                have g1 := c_lsub i240.toInt64 j317; have g2 := c_i2l i240; have g3 := rng64 j318
                rw [← h_j318] at g1; omega
              refine g_lstore (L' := #[.val (.long q1), .second, .val (.int p2), .val (.long q2), .second, .val (.int i238), .val (.int i240), .val (.int i241), .val (.int i242), .val (.int i243), .val (.ref b248), .val (.long j317), .second, .val (.long j318), .second]) X312 C at_173 h_j318 rfl rfl ?_
              refine g_aload X312 C at_175 rfl rfl rfl ?_
              refine g_virtual (argsL := []) (rest := []) (W := 0) (a := b248) X312 C (rm_reportsTaken l Z a0 hw b248 c1 c2 c3 c4 c5 q2 z6 rI2 rT2 h313 n0 hz316 O_b248 []) O_b248.1 (hw _ (List.mem_of_getElem? (i := 85) rfl)) (hw _ (List.mem_of_getElem? (i := 86) rfl)) (hw _ (List.mem_of_getElem? (i := 88) rfl)) (hw _ (List.mem_of_getElem? (i := 87) rfl)) (hw _ (List.mem_of_getElem? (i := 7) rfl)) (hw _ (List.mem_of_getElem? (i := 89) rfl)) (by decide) pd_4 rfl rfl rfl rfl rfl (by decide) (by decide) (by decide) (by decide) at_177 rfl (fun r322 T319 h321 hQ323 X320 => ?_)
              obtain ⟨rfl, hh⟩ := hQ323; rw [hh] at X320
              show Go p e below RS T319 (mkF m 180 #[.val (.long q1), .second, .val (.int p2), .val (.long q2), .second, .val (.int i238), .val (.int i240), .val (.int i241), .val (.int i242), .val (.int i243), .val (.ref b248), .val (.long j317), .second, .val (.long j318), .second] [(.long rT2)])
              refine g_lload X320 C at_180 rfl rfl ?_
              refine g_lcmp X320 C at_182 rfl ?_
              refine g_lif_ne (a := rT2.toInt) (b := j317.toInt) X320 C at_183 rfl rfl (by decide) (pT := 221) (by decide) (pF := 186) rfl (fun hc183 => absurd hc183 (by omega)) (fun hc183 => ?_)
              refine g_aload X320 C at_186 rfl rfl rfl ?_
              refine g_virtual (argsL := []) (rest := []) (W := 0) (a := b248) X320 C (rm_reportsIgnored l Z a0 hw b248 c1 c2 c3 c4 c5 q2 z6 rI2 rT2 h313 n0 hz316 O_b248 []) O_b248.1 (hw _ (List.mem_of_getElem? (i := 92) rfl)) (hw _ (List.mem_of_getElem? (i := 93) rfl)) (hw _ (List.mem_of_getElem? (i := 95) rfl)) (hw _ (List.mem_of_getElem? (i := 94) rfl)) (hw _ (List.mem_of_getElem? (i := 7) rfl)) (hw _ (List.mem_of_getElem? (i := 96) rfl)) (by decide) pd_4 rfl rfl rfl rfl rfl (by decide) (by decide) (by decide) (by decide) at_188 rfl (fun r327 T324 h326 hQ328 X325 => ?_)
              obtain ⟨rfl, hh⟩ := hQ328; rw [hh] at X325
              show Go p e below RS T324 (mkF m 191 #[.val (.long q1), .second, .val (.int p2), .val (.long q2), .second, .val (.int i238), .val (.int i240), .val (.int i241), .val (.int i242), .val (.int i243), .val (.ref b248), .val (.long j317), .second, .val (.long j318), .second] [(.long rI2)])
              refine g_lload X325 C at_191 rfl rfl ?_
              refine g_lcmp X325 C at_193 rfl ?_
              refine g_lif_ne (a := rI2.toInt) (b := j318.toInt) X325 C at_194 rfl rfl (by decide) (pT := 221) (by decide) (pF := 197) rfl (fun hc194 => absurd hc194 (by omega)) (fun hc194 => ?_)
              refine g_aload X325 C at_197 rfl rfl rfl ?_
              refine g_virtual (argsL := []) (rest := []) (W := 0) (a := b248) X325 C (rm_offered l Z a0 hw b248 c1 c2 c3 c4 c5 q2 z6 rI2 rT2 h313 n0 hz316 O_b248 []) O_b248.1 (hw _ (List.mem_of_getElem? (i := 97) rfl)) (hw _ (List.mem_of_getElem? (i := 98) rfl)) (hw _ (List.mem_of_getElem? (i := 100) rfl)) (hw _ (List.mem_of_getElem? (i := 99) rfl)) (hw _ (List.mem_of_getElem? (i := 7) rfl)) (hw _ (List.mem_of_getElem? (i := 101) rfl)) (by decide) pd_4 rfl rfl rfl rfl rfl (by decide) (by decide) (by decide) (by decide) at_199 rfl (fun r332 T329 h331 hQ333 X330 => ?_)
              obtain ⟨rfl, hh⟩ := hQ333; rw [hh] at X330
              show Go p e below RS T329 (mkF m 202 #[.val (.long q1), .second, .val (.int p2), .val (.long q2), .second, .val (.int i238), .val (.int i240), .val (.int i241), .val (.int i242), .val (.int i243), .val (.ref b248), .val (.long j317), .second, .val (.long j318), .second] [(.long (0 : Int64))])
              refine g_lconst (v := 0) X330 C at_202 (by decide) rfl ?_
              refine g_lcmp X330 C at_203 rfl ?_
              refine g_lif_ne (a := 0) (b := 0) X330 C at_204 (by decide) (by decide) (by decide) (pT := 221) (by decide) (pF := 207) rfl (fun hc204 => absurd hc204 (by omega)) (fun hc204 => ?_)
              refine g_aload X330 C at_207 rfl rfl rfl ?_
              refine g_virtual (argsL := []) (rest := []) (W := 0) (a := b248) X330 C (rm_admitted l Z a0 hw b248 c1 c2 c3 c4 c5 q2 z6 rI2 rT2 h313 n0 hz316 O_b248 []) O_b248.1 (hw _ (List.mem_of_getElem? (i := 104) rfl)) (hw _ (List.mem_of_getElem? (i := 105) rfl)) (hw _ (List.mem_of_getElem? (i := 107) rfl)) (hw _ (List.mem_of_getElem? (i := 106) rfl)) (hw _ (List.mem_of_getElem? (i := 7) rfl)) (hw _ (List.mem_of_getElem? (i := 108) rfl)) (by decide) pd_4 rfl rfl rfl rfl rfl (by decide) (by decide) (by decide) (by decide) at_209 rfl (fun r337 T334 h336 hQ338 X335 => ?_)
              obtain ⟨rfl, hh⟩ := hQ338; rw [hh] at X335
              show Go p e below RS T334 (mkF m 212 #[.val (.long q1), .second, .val (.int p2), .val (.long q2), .second, .val (.int i238), .val (.int i240), .val (.int i241), .val (.int i242), .val (.int i243), .val (.ref b248), .val (.long j317), .second, .val (.long j318), .second] [(.long (0 : Int64))])
              refine g_lconst (v := 0) X335 C at_212 (by decide) rfl ?_
              refine g_lcmp X335 C at_213 rfl ?_
              refine g_lif_ne (a := 0) (b := 0) X335 C at_214 (by decide) (by decide) (by decide) (pT := 221) (by decide) (pF := 217) rfl (fun hc214 => absurd hc214 (by omega)) (fun hc214 => ?_)
              refine g_iconst (v := 1) X335 C at_217 (by decide) rfl ?_
              refine g_goto (pc' := 222) X335 C at_218 (by decide) (by decide) ?_
              rw [hRS]
              refine g_retZ X335 C at_222 ?_ (by decide) (by decide)
              exact rfl
            ·
              refine g_aload X312 C at_111 rfl rfl rfl ?_
              refine g_iload X312 C at_113 rfl rfl ?_
              have J123_339 : ∀ (i339 : Int32) (_ : (i243.toInt = 0 ∧ i339 = (0 : Int32) ∧ i339.toInt = 0) ∨ (i243.toInt ≠ 0 ∧ i339 = (1 : Int32) ∧ i339.toInt = 1)), Go p e below RS T311 (mkF m 123 #[.val (.long q1), .second, .val (.int p2), .val (.long q2), .second, .val (.int i238), .val (.int i240), .val (.int i241), .val (.int i242), .val (.int i243), .val (.ref b248), .unset, .unset, .unset, .unset] [(.int i339), (.ref b248)]) := by
                intro i339 hJ123
                refine g_virtual (argsL := [(.int i339)]) (rest := []) (W := 0) (a := b248) X312 C (rmRR l Z a0 hw b248 i339 c1 c2 c3 c4 c5 q2 z6 rI2 rT2 h313 n0 hz316 (by omega) (by omega) ga_b248 O_b248 []) O_b248.1 (hw _ (List.mem_of_getElem? (i := 78) rfl)) (hw _ (List.mem_of_getElem? (i := 79) rfl)) (hw _ (List.mem_of_getElem? (i := 81) rfl)) (hw _ (List.mem_of_getElem? (i := 80) rfl)) (hw _ (List.mem_of_getElem? (i := 7) rfl)) (hw _ (List.mem_of_getElem? (i := 82) rfl)) (by decide) pd_5 rfl rfl rfl rfl rfl (by decide) (by decide) (by decide) (by decide) at_123 rfl (fun r344 T341 h343 hQ345 X342 => ?_)
                obtain ⟨rfl, KR3, rI3, rT3, O_b248, hr3⟩ := hQ345
                have hz346 : Lo n0 h343.size := Lo.keep hz316 KR3
                show Go p e below RS T341 (mkF m 126 #[.val (.long q1), .second, .val (.int p2), .val (.long q2), .second, .val (.int i238), .val (.int i240), .val (.int i241), .val (.int i242), .val (.int i243), .val (.ref b248), .unset, .unset, .unset, .unset] [])
                refine g_iload X342 C at_126 rfl rfl ?_
                refine g_iconst (v := 1) X342 C at_128 (by decide) rfl ?_
                refine g_icmp_lt (a := i240.toInt) (b := 1) X342 C at_129 rfl (by decide) (by decide) (pT := 137) (by decide) (pF := 132) rfl (fun hc129 => absurd hc129 (by omega)) (fun hc129 => ?_)
                refine g_iload X342 C at_132 rfl rfl ?_
                refine g_goto (pc' := 138) X342 C at_134 (by decide) (by decide) ?_
                refine g_iload X342 C at_138 rfl rfl ?_
                refine g_iconst (v := 2) X342 C at_140 (by decide) rfl ?_
                refine g_icmp_lt (a := i240.toInt) (b := 2) X342 C at_141 rfl (by decide) (by decide) (pT := 149) (by decide) (pF := 144) rfl (fun hc141 => absurd hc141 (by omega)) (fun hc141 => ?_)
                refine g_iload X342 C at_144 rfl rfl ?_
                refine g_goto (pc' := 150) X342 C at_146 (by decide) (by decide) ?_
                refine g_iadd X342 C at_150 rfl ?_
                refine g_iload X342 C at_151 rfl rfl ?_
                refine g_iconst (v := 3) X342 C at_153 (by decide) rfl ?_
                refine g_icmp_lt (a := i240.toInt) (b := 3) X342 C at_154 rfl (by decide) (by decide) (pT := 162) (by decide) (pF := 157) rfl (fun hc154 => absurd hc154 (by omega)) (fun hc154 => ?_)
                refine g_iload X342 C at_157 rfl rfl ?_
                refine g_goto (pc' := 163) X342 C at_159 (by decide) (by decide) ?_
                refine g_iadd X342 C at_163 rfl ?_
                refine g_i2l X342 C at_164 rfl ?_
                obtain ⟨j347, h_j347⟩ : ∃ z, z = ((i241 + i242) + i243).toInt64 := ⟨_, rfl⟩
                have hx_j347 : j347.toInt = i241.toInt + i242.toInt + i243.toInt := by
                  have g1 := c_iadd i241 i242; have g2 := c_iadd (i241 + i242) i243; have g3 := rng32 (i241 + i242); have g4 := rng32 (i241 + i242 + i243); have g5 := c_i2l (i241 + i242 + i243); have g6 : (0 : Int32).toInt = 0 := (by decide)
                  rw [← h_j347] at g5; omega
                refine g_lstore (L' := #[.val (.long q1), .second, .val (.int p2), .val (.long q2), .second, .val (.int i238), .val (.int i240), .val (.int i241), .val (.int i242), .val (.int i243), .val (.ref b248), .val (.long j347), .second, .unset, .unset]) X342 C at_165 h_j347 rfl rfl ?_
                refine g_iload X342 C at_167 rfl rfl ?_
                refine g_i2l X342 C at_169 rfl ?_
                refine g_lload X342 C at_170 rfl rfl ?_
                refine g_lsub X342 C at_172 rfl ?_
                obtain ⟨j348, h_j348⟩ : ∃ z, z = (i240.toInt64 - j347) := ⟨_, rfl⟩
                have hx_j348 : j348.toInt = i240.toInt - j347.toInt := by
                  have g1 := c_lsub i240.toInt64 j347; have g2 := c_i2l i240; have g3 := rng64 j348
                  rw [← h_j348] at g1; omega
                refine g_lstore (L' := #[.val (.long q1), .second, .val (.int p2), .val (.long q2), .second, .val (.int i238), .val (.int i240), .val (.int i241), .val (.int i242), .val (.int i243), .val (.ref b248), .val (.long j347), .second, .val (.long j348), .second]) X342 C at_173 h_j348 rfl rfl ?_
                refine g_aload X342 C at_175 rfl rfl rfl ?_
                refine g_virtual (argsL := []) (rest := []) (W := 0) (a := b248) X342 C (rm_reportsTaken l Z a0 hw b248 c1 c2 c3 c4 c5 q2 z6 rI3 rT3 h343 n0 hz346 O_b248 []) O_b248.1 (hw _ (List.mem_of_getElem? (i := 85) rfl)) (hw _ (List.mem_of_getElem? (i := 86) rfl)) (hw _ (List.mem_of_getElem? (i := 88) rfl)) (hw _ (List.mem_of_getElem? (i := 87) rfl)) (hw _ (List.mem_of_getElem? (i := 7) rfl)) (hw _ (List.mem_of_getElem? (i := 89) rfl)) (by decide) pd_4 rfl rfl rfl rfl rfl (by decide) (by decide) (by decide) (by decide) at_177 rfl (fun r352 T349 h351 hQ353 X350 => ?_)
                obtain ⟨rfl, hh⟩ := hQ353; rw [hh] at X350
                show Go p e below RS T349 (mkF m 180 #[.val (.long q1), .second, .val (.int p2), .val (.long q2), .second, .val (.int i238), .val (.int i240), .val (.int i241), .val (.int i242), .val (.int i243), .val (.ref b248), .val (.long j347), .second, .val (.long j348), .second] [(.long rT3)])
                refine g_lload X350 C at_180 rfl rfl ?_
                refine g_lcmp X350 C at_182 rfl ?_
                refine g_lif_ne (a := rT3.toInt) (b := j347.toInt) X350 C at_183 rfl rfl (by decide) (pT := 221) (by decide) (pF := 186) rfl (fun hc183 => absurd hc183 (by omega)) (fun hc183 => ?_)
                refine g_aload X350 C at_186 rfl rfl rfl ?_
                refine g_virtual (argsL := []) (rest := []) (W := 0) (a := b248) X350 C (rm_reportsIgnored l Z a0 hw b248 c1 c2 c3 c4 c5 q2 z6 rI3 rT3 h343 n0 hz346 O_b248 []) O_b248.1 (hw _ (List.mem_of_getElem? (i := 92) rfl)) (hw _ (List.mem_of_getElem? (i := 93) rfl)) (hw _ (List.mem_of_getElem? (i := 95) rfl)) (hw _ (List.mem_of_getElem? (i := 94) rfl)) (hw _ (List.mem_of_getElem? (i := 7) rfl)) (hw _ (List.mem_of_getElem? (i := 96) rfl)) (by decide) pd_4 rfl rfl rfl rfl rfl (by decide) (by decide) (by decide) (by decide) at_188 rfl (fun r357 T354 h356 hQ358 X355 => ?_)
                obtain ⟨rfl, hh⟩ := hQ358; rw [hh] at X355
                show Go p e below RS T354 (mkF m 191 #[.val (.long q1), .second, .val (.int p2), .val (.long q2), .second, .val (.int i238), .val (.int i240), .val (.int i241), .val (.int i242), .val (.int i243), .val (.ref b248), .val (.long j347), .second, .val (.long j348), .second] [(.long rI3)])
                refine g_lload X355 C at_191 rfl rfl ?_
                refine g_lcmp X355 C at_193 rfl ?_
                refine g_lif_ne (a := rI3.toInt) (b := j348.toInt) X355 C at_194 rfl rfl (by decide) (pT := 221) (by decide) (pF := 197) rfl (fun hc194 => absurd hc194 (by omega)) (fun hc194 => ?_)
                refine g_aload X355 C at_197 rfl rfl rfl ?_
                refine g_virtual (argsL := []) (rest := []) (W := 0) (a := b248) X355 C (rm_offered l Z a0 hw b248 c1 c2 c3 c4 c5 q2 z6 rI3 rT3 h343 n0 hz346 O_b248 []) O_b248.1 (hw _ (List.mem_of_getElem? (i := 97) rfl)) (hw _ (List.mem_of_getElem? (i := 98) rfl)) (hw _ (List.mem_of_getElem? (i := 100) rfl)) (hw _ (List.mem_of_getElem? (i := 99) rfl)) (hw _ (List.mem_of_getElem? (i := 7) rfl)) (hw _ (List.mem_of_getElem? (i := 101) rfl)) (by decide) pd_4 rfl rfl rfl rfl rfl (by decide) (by decide) (by decide) (by decide) at_199 rfl (fun r362 T359 h361 hQ363 X360 => ?_)
                obtain ⟨rfl, hh⟩ := hQ363; rw [hh] at X360
                show Go p e below RS T359 (mkF m 202 #[.val (.long q1), .second, .val (.int p2), .val (.long q2), .second, .val (.int i238), .val (.int i240), .val (.int i241), .val (.int i242), .val (.int i243), .val (.ref b248), .val (.long j347), .second, .val (.long j348), .second] [(.long (0 : Int64))])
                refine g_lconst (v := 0) X360 C at_202 (by decide) rfl ?_
                refine g_lcmp X360 C at_203 rfl ?_
                refine g_lif_ne (a := 0) (b := 0) X360 C at_204 (by decide) (by decide) (by decide) (pT := 221) (by decide) (pF := 207) rfl (fun hc204 => absurd hc204 (by omega)) (fun hc204 => ?_)
                refine g_aload X360 C at_207 rfl rfl rfl ?_
                refine g_virtual (argsL := []) (rest := []) (W := 0) (a := b248) X360 C (rm_admitted l Z a0 hw b248 c1 c2 c3 c4 c5 q2 z6 rI3 rT3 h343 n0 hz346 O_b248 []) O_b248.1 (hw _ (List.mem_of_getElem? (i := 104) rfl)) (hw _ (List.mem_of_getElem? (i := 105) rfl)) (hw _ (List.mem_of_getElem? (i := 107) rfl)) (hw _ (List.mem_of_getElem? (i := 106) rfl)) (hw _ (List.mem_of_getElem? (i := 7) rfl)) (hw _ (List.mem_of_getElem? (i := 108) rfl)) (by decide) pd_4 rfl rfl rfl rfl rfl (by decide) (by decide) (by decide) (by decide) at_209 rfl (fun r367 T364 h366 hQ368 X365 => ?_)
                obtain ⟨rfl, hh⟩ := hQ368; rw [hh] at X365
                show Go p e below RS T364 (mkF m 212 #[.val (.long q1), .second, .val (.int p2), .val (.long q2), .second, .val (.int i238), .val (.int i240), .val (.int i241), .val (.int i242), .val (.int i243), .val (.ref b248), .val (.long j347), .second, .val (.long j348), .second] [(.long (0 : Int64))])
                refine g_lconst (v := 0) X365 C at_212 (by decide) rfl ?_
                refine g_lcmp X365 C at_213 rfl ?_
                refine g_lif_ne (a := 0) (b := 0) X365 C at_214 (by decide) (by decide) (by decide) (pT := 221) (by decide) (pF := 217) rfl (fun hc214 => absurd hc214 (by omega)) (fun hc214 => ?_)
                refine g_iconst (v := 1) X365 C at_217 (by decide) rfl ?_
                refine g_goto (pc' := 222) X365 C at_218 (by decide) (by decide) ?_
                rw [hRS]
                refine g_retZ X365 C at_222 ?_ (by decide) (by decide)
                exact rfl
              refine g_if_eq (a := i243.toInt) X312 C at_115 rfl (by decide) (pT := 122) (by decide) (pF := 118) rfl (fun hc115 => ?_) (fun hc115 => ?_)
              ·
                refine g_iconst (v := 0) X312 C at_122 (by decide) rfl ?_
                exact J123_339 (0 : Int32) (Or.inl (⟨hc115, rfl, by decide⟩))
              ·
                refine g_iconst (v := 1) X312 C at_118 (by decide) rfl ?_
                refine g_goto (pc' := 123) X312 C at_119 (by decide) (by decide) ?_
                exact J123_339 (1 : Int32) (Or.inr (⟨hc115, rfl, by decide⟩))
          refine g_if_eq (a := i242.toInt) X282 C at_94 rfl (by decide) (pT := 101) (by decide) (pF := 97) rfl (fun hc94 => ?_) (fun hc94 => ?_)
          ·
            refine g_iconst (v := 0) X282 C at_101 (by decide) rfl ?_
            exact J102_309 (0 : Int32) (Or.inl (⟨hc94, rfl, by decide⟩))
          ·
            refine g_iconst (v := 1) X282 C at_97 (by decide) rfl ?_
            refine g_goto (pc' := 102) X282 C at_98 (by decide) (by decide) ?_
            exact J102_309 (1 : Int32) (Or.inr (⟨hc94, rfl, by decide⟩))
      refine g_if_eq (a := i241.toInt) X252 C at_73 rfl (by decide) (pT := 80) (by decide) (pF := 76) rfl (fun hc73 => ?_) (fun hc73 => ?_)
      ·
        refine g_iconst (v := 0) X252 C at_80 (by decide) rfl ?_
        exact J81_279 (0 : Int32) (Or.inl (⟨hc73, rfl, by decide⟩))
      ·
        refine g_iconst (v := 1) X252 C at_76 (by decide) rfl ?_
        refine g_goto (pc' := 81) X252 C at_77 (by decide) (by decide) ?_
        exact J81_279 (1 : Int32) (Or.inr (⟨hc73, rfl, by decide⟩))
  refine g_if_eq (a := (p2 &&& (1 : Int32)).toInt) X234 C at_13 rfl (by decide) (pT := 20) (by decide) (pF := 16) rfl (fun hc13 => ?_) (fun hc13 => ?_)
  ·
    refine g_iconst (v := 0) X234 C at_20 (by decide) rfl ?_
    exact J21_238 (0 : Int32) (Or.inl (⟨hc13, rfl, by decide⟩))
  ·
    refine g_iconst (v := 1) X234 C at_16 (by decide) rfl ?_
    refine g_goto (pc' := 21) X234 C at_17 (by decide) (by decide) ?_
    exact J21_238 (1 : Int32) (Or.inr (⟨hc13, rfl, by decide⟩))
set_option maxRecDepth 65536 in
set_option maxHeartbeats 40000000 in
theorem comes_1 {Post : Tables → Env → Array Value → State → Outcome → State → Prop} (hpost : ∀ tb e args s v u, (limb_1_1.after args s (.returned v) u = true ∧ limb_1_2.after args s (.returned v) u = true ∧ True) → FrameEnd s (.returned v) u (Jvm.fieldLocs frame_1_writes args s ++ Jvm.arrayLocs frame_1_arrays args s ++ Jvm.staticLocs frame_1_statics s) 32 320 → Post tb e args s (.returned v) u) :
    ArmFor flags0 classFile x code maxLocals ret World_1 tables_1 room_1 Calls_1 rest_1 Pre_1 Post := by
  intro l hfl _ _ p e ha hc hk s m args below hf hA hF happ hP
  obtain ⟨hcalls, hrest, hpre⟩ := hP
  obtain ⟨-, -, -, hnamed, -, -, -, hat⟩ := (Spec.applies_iff hf).mp happ
  obtain ⟨hg, hn⟩ := and_e (Cond.before_iff.mp (show (Jvm.Cond.and given_1 narrow_1).before args s = true from hpre))
  obtain ⟨h1, h2⟩ := and_e hg
  obtain ⟨w0, w1, rfl⟩ : ∃ w0 w1 : Value, args = #[w0, w1] := by
    have hs : args.size = 2 := by simpa [Cond.value, given_1] using h1
    obtain ⟨L⟩ := args
    match L, hs with
    | [w0, w1], _ => exact ⟨w0, w1, rfl⟩
  have hw := fun d (hd : d ∈ tables_1) => atoms_spec (ws := Jvm.Cond.code x code maxLocals ret :: tables_1) hat d (List.mem_cons_of_mem _ hd)
  obtain ⟨g0, r0⟩ := and_e h2
  obtain ⟨k0, e0⟩ := isL_v g0
  obtain rfl : w0 = (.long k0) := Option.some.inj e0
  obtain ⟨k1, e1⟩ := is_v r0
  obtain rfl : w1 = (.int k1) := Option.some.inj e1
  obtain ⟨n, o, h1, h2, h3, _, L, rfl, ⟨rfl, N⟩, hq⟩ := rm0 l s _ hw k0 k1 s.heap s.heap.size (show Lo s.heap.size s.heap.size from Nat.le_refl _) tables_1 p e ha hc hk s m _ below hf ((Spec.applies_iff_loose hf).mp happ).1 ⟨rfl, State.Warmed39.refl s, rfl⟩ trivial
  refine ⟨n, _, h1, h2, h3, hpost _ _ _ _ _ _ ⟨Cond.after_iff.mpr rfl, Cond.after_iff.mpr (eq_i res_at (Term.int_eval (1)) rfl), trivial⟩ ⟨hq.1, hq.2.1, (hq.2.2.sift fun y hy => Or.inr (N y hy)).mono (by decide) (by decide)⟩⟩
theorem main_1_1 : Claimed_1_1 := comes_1 fun _ _ _ _ _ _ h hF => ⟨h.1, hF⟩
theorem main_1_2 : Claimed_1_2 := comes_1 fun _ _ _ _ _ _ h hF => ⟨h.2.1, hF⟩
end Jvm.Pilot.@@N@@
namespace Jvm.Pilot.@@N@@
open Jvm Jvm.ClassFile Sem Op Lib Jvm.Free Jvm.Stand Jvm.Pilot.@@N@@.Jvm.D
/-! MADE BY PROGRAM (witnessworld.py) out of the Statement's table words and the real class files: 20 classes; the members and pool entries that the words name. The judged class is class 1, her method 1. -/
namespace start1
open Jvm.ClassFile
def u (s : String) : CpInfo := .utf8 (stringToUtf16 s)
/-- a pool by its gaps: so many unusable entries, then the entry; so many at the end -/
def gap : Nat → List CpInfo → List CpInfo
  | 0, r => r
  | n + 1, r => .unusable :: gap n r
def poolList (es : List (Nat × CpInfo)) (last : Nat) : List CpInfo := es.foldr (fun e r => gap e.1 (e.2 :: r)) (gap last [])
def pool (es : List (Nat × CpInfo)) (last : Nat) : Array CpInfo := ⟨poolList es last⟩
def fileOf (pool : Array CpInfo) (this : Nat) (attrs : Array Attribute := #[]) (ms : Array MethodInfo := #[]) (fl : Nat := 33) (sup : Nat := 0) (ifs : Array Nat := #[]) (fds : Array FieldInfo := #[]) : ClassFile where
  minorVersion := 0
  majorVersion := 65
  constantPool := pool
  accessFlags := fl
  thisClass := this
  superClass := sup
  interfaces := ifs
  fields := fds
  methods := ms
  attributes := attrs
def plain (name : String) (sup : Option ClassId) : Class where
  name := name
  kind := .ordinary
  loader := none
  accessFlags := 33
  super := sup
  interfaces := #[]
  cf := none
  fields := #[]
  methods := #[]
  instanceTypes := #[]
  staticTypes := #[]
  resolved := #[]
  callSites := []
  init := .initialized
  statics := none
  mirror := none

def pool0 : Array CpInfo := pool [(5, u "<init>"), (0, u "()V"), (1, .class_ 10), (1, u "java/lang/Object")] 113

def k0c0 : Code := { maxStack := 0, maxLocals := 1, code := object_method_1_code, exceptionTable := #[], attributes := #[] }
def k0m0 : Method := { name := "<init>", desc := "()V", sig := { parameters := [], returnType := none }, accessFlags := 1, code := some k0c0 }
/-- java/lang/Object -/
def k0 : Class := { plain "java/lang/Object" none with
  accessFlags := 33
  interfaces := #[]
  cf := some (fileOf pool0 8 #[] #[{ accessFlags := 1, nameIndex := 5, descriptorIndex := 6, attributes := #[] }] 33 0 #[] #[])
  fields := #[]
  methods := #[k0m0]
  instanceTypes := #[]
  staticTypes := #[]
  resolved := Array.replicate 124 none
  statics := none }

def pool1 : Array CpInfo := pool [(2, .class_ 4), (1, u "java/lang/Object"), (0, u "<init>"), (0, u "()V"), (2, .long 9223372036854775807), (1, .methodref 12 13), (0, .class_ 14), (0, .nameAndType 15 16), (0, u "java/lang/Math"), (0, u "max"), (0, u "(JJ)J"), (0, .class_ 18), (0, u "com/example/ugello/ugello/service/ReplayTally"), (0, .methodref 17 20), (0, .nameAndType 5 21), (0, u "(JZ)V"), (0, .methodref 17 23), (0, .nameAndType 24 25), (0, u "recordReport"), (0, u "(Z)V"), (0, .methodref 17 27), (0, .nameAndType 28 29), (0, u "reportsTaken"), (0, u "()J"), (0, .methodref 17 31), (0, .nameAndType 32 29), (0, u "reportsIgnored"), (0, .methodref 17 34), (0, .nameAndType 35 29), (0, u "offered"), (0, .methodref 17 37), (0, .nameAndType 38 29), (0, u "admitted"), (0, .class_ 40), (0, u "com/example/ugello/ugello/service/ReplayTallyRecordReportPinLaw"), (2, u "law"), (0, u "(JI)Z")] 3

def k1m0 : Method := { name := "<init>", desc := "()V", sig := { parameters := [], returnType := none }, accessFlags := 1, code := none }
def k1c1 : Code := { maxStack := 6, maxLocals := 15, code := code, exceptionTable := #[], attributes := #[] }
def k1m1 : Method := { name := "law", desc := "(JI)Z", sig := { parameters := [.long, .int], returnType := some .boolean }, accessFlags := 9, code := some k1c1 }
/-- com/example/ugello/ugello/service/ReplayTallyRecordReportPinLaw -/
def k1 : Class := { plain "com/example/ugello/ugello/service/ReplayTallyRecordReportPinLaw" (some 0) with
  accessFlags := 49
  interfaces := #[]
  cf := some (fileOf pool1 39 #[] #[{ accessFlags := 1, nameIndex := 5, descriptorIndex := 6, attributes := #[] }, { accessFlags := 9, nameIndex := 43, descriptorIndex := 44, attributes := #[] }] 49 2 #[] #[])
  fields := #[]
  methods := #[k1m0, k1m1]
  instanceTypes := #[]
  staticTypes := #[]
  resolved := Array.replicate 48 none
  statics := none }

def pool2 : Array CpInfo := pool [(1, .class_ 2), (0, u "java/lang/Math"), (1, .class_ 6), (1, u "java/lang/Object"), (0, u "<init>"), (0, u "()V"), (89, .class_ 100), (1, u "java/lang/Math$RandomNumberGeneratorHolder"), (20, u "(JJ)J"), (50, u "negativeZeroFloatBits"), (0, u "J"), (2, u "negativeZeroDoubleBits"), (21, u "max"), (46, u "$assertionsDisabled"), (0, u "Z"), (91, u "twoToTheDoubleScaleDown"), (0, u "D"), (4, u "twoToTheDoubleScaleUp"), (9, u "E"), (3, u "PI"), (2, u "TAU"), (2, u "DEGREES_TO_RADIANS"), (0, u "RADIANS_TO_DEGREES")] 94

def k2m0 : Method := { name := "<init>", desc := "()V", sig := { parameters := [], returnType := none }, accessFlags := 2, code := none }
def k2c1 : Code := { maxStack := 4, maxLocals := 4, code := jdk_29_method_66_code, exceptionTable := #[], attributes := #[] }
def k2m1 : Method := { name := "max", desc := "(JJ)J", sig := { parameters := [.long, .long], returnType := some .long }, accessFlags := 9, code := some k2c1 }
/-- java/lang/Math -/
def k2 : Class := { plain "java/lang/Math" (some 0) with
  accessFlags := 49
  interfaces := #[]
  cf := some (fileOf pool2 1 #[.nestMembers #[98]] #[{ accessFlags := 2, nameIndex := 7, descriptorIndex := 8, attributes := #[] }, { accessFlags := 9, nameIndex := 198, descriptorIndex := 121, attributes := #[] }] 49 4 #[] #[{ accessFlags := 25, nameIndex := 354, descriptorIndex := 339, attributes := #[] }, { accessFlags := 25, nameIndex := 358, descriptorIndex := 339, attributes := #[] }, { accessFlags := 25, nameIndex := 361, descriptorIndex := 339, attributes := #[] }, { accessFlags := 26, nameIndex := 364, descriptorIndex := 339, attributes := #[] }, { accessFlags := 26, nameIndex := 365, descriptorIndex := 339, attributes := #[] }, { accessFlags := 26, nameIndex := 172, descriptorIndex := 173, attributes := #[] }, { accessFlags := 26, nameIndex := 176, descriptorIndex := 173, attributes := #[] }, { accessFlags := 8, nameIndex := 344, descriptorIndex := 339, attributes := #[] }, { accessFlags := 8, nameIndex := 338, descriptorIndex := 339, attributes := #[] }, { accessFlags := 4120, nameIndex := 245, descriptorIndex := 246, attributes := #[] }])
  fields := #[{ name := "E", type := .double, accessFlags := 25, slot := 0, constantValue := 0 }, { name := "PI", type := .double, accessFlags := 25, slot := 1, constantValue := 0 }, { name := "TAU", type := .double, accessFlags := 25, slot := 2, constantValue := 0 }, { name := "DEGREES_TO_RADIANS", type := .double, accessFlags := 26, slot := 3, constantValue := 0 }, { name := "RADIANS_TO_DEGREES", type := .double, accessFlags := 26, slot := 4, constantValue := 0 }, { name := "negativeZeroFloatBits", type := .long, accessFlags := 26, slot := 5, constantValue := 0 }, { name := "negativeZeroDoubleBits", type := .long, accessFlags := 26, slot := 6, constantValue := 0 }, { name := "twoToTheDoubleScaleUp", type := .double, accessFlags := 8, slot := 7, constantValue := 0 }, { name := "twoToTheDoubleScaleDown", type := .double, accessFlags := 8, slot := 8, constantValue := 0 }, { name := "$assertionsDisabled", type := .boolean, accessFlags := 4120, slot := 9, constantValue := 0 }]
  methods := #[k2m0, k2m1]
  instanceTypes := #[]
  staticTypes := #[.double, .double, .double, .double, .double, .long, .long, .double, .double, .boolean]
  resolved := Array.replicate 460 none
  statics := none }

def pool3 : Array CpInfo := pool [(1, .methodref 2 3), (0, .class_ 4), (0, .nameAndType 5 6), (0, u "java/lang/Object"), (0, u "<init>"), (0, u "()V"), (0, .long 18446744073709551615), (1, .fieldref 10 11), (0, .class_ 12), (0, .nameAndType 13 14), (0, u "com/example/ugello/ugello/service/ReplayTally"), (0, u "lastArrival"), (0, u "J"), (0, .fieldref 10 16), (0, .nameAndType 17 18), (0, u "windowIndexes"), (0, u "[J"), (0, .fieldref 10 20), (0, .nameAndType 21 18), (0, u "windowOffered"), (0, .fieldref 10 23), (0, .nameAndType 24 18), (0, u "windowAdmitted"), (0, .class_ 26), (0, u "java/util/TreeMap"), (0, .methodref 25 3), (0, .fieldref 10 29), (0, .nameAndType 30 31), (0, u "byPriority"), (0, u "Ljava/util/Map;"), (0, .class_ 33), (0, u "com/example/ugello/ugello/service/SlidingWindow"), (0, .methodref 32 35), (0, .nameAndType 5 36), (0, u "(J)V"), (0, .fieldref 10 38), (0, .nameAndType 39 40), (0, u "recentAdmissions"), (0, u "Lcom/example/ugello/ugello/service/SlidingWindow;"), (0, .fieldref 10 42), (0, .nameAndType 43 14), (0, u "windowMicros"), (0, .fieldref 10 45), (0, .nameAndType 46 47), (0, u "perWindow"), (0, u "Z"), (9, .fieldref 10 58), (0, .nameAndType 59 14), (0, u "offered"), (16, .class_ 77), (0, u "com/example/ugello/ugello/service/ReplayTally$Counts"), (1, .fieldref 10 80), (0, .nameAndType 81 14), (0, u "admitted"), (7, u "maxAdmittedInWindow"), (3, u "()J"), (9, u "(JZ)V"), (0, .fieldref 10 105), (0, .nameAndType 106 14), (0, u "reportsTaken"), (0, .fieldref 10 108), (0, .nameAndType 109 14), (0, u "reportsIgnored"), (7, u "windowCount"), (0, u "I"), (1, .class_ 122), (1, u "com/example/ugello/ugello/service/ReplayTally$CountsVisitor"), (40, u "INITIAL_CAPACITY"), (9, u "recordReport"), (0, u "(Z)V")] 40

def k3c0 : Code := { maxStack := 5, maxLocals := 4, code := prog_37_method_1_code, exceptionTable := #[], attributes := #[] }
def k3m0 : Method := { name := "<init>", desc := "(JZ)V", sig := { parameters := [.long, .boolean], returnType := none }, accessFlags := 1, code := some k3c0 }
def k3c1 : Code := { maxStack := 5, maxLocals := 2, code := prog_37_method_3_code, exceptionTable := #[], attributes := #[] }
def k3m1 : Method := { name := "recordReport", desc := "(Z)V", sig := { parameters := [.boolean], returnType := none }, accessFlags := 1, code := some k3c1 }
def k3c2 : Code := { maxStack := 2, maxLocals := 1, code := prog_37_method_4_code, exceptionTable := #[], attributes := #[] }
def k3m2 : Method := { name := "offered", desc := "()J", sig := { parameters := [], returnType := some .long }, accessFlags := 1, code := some k3c2 }
def k3c3 : Code := { maxStack := 2, maxLocals := 1, code := prog_37_method_5_code, exceptionTable := #[], attributes := #[] }
def k3m3 : Method := { name := "admitted", desc := "()J", sig := { parameters := [], returnType := some .long }, accessFlags := 1, code := some k3c3 }
def k3c4 : Code := { maxStack := 2, maxLocals := 1, code := prog_37_method_8_code, exceptionTable := #[], attributes := #[] }
def k3m4 : Method := { name := "reportsTaken", desc := "()J", sig := { parameters := [], returnType := some .long }, accessFlags := 1, code := some k3c4 }
def k3c5 : Code := { maxStack := 2, maxLocals := 1, code := prog_37_method_9_code, exceptionTable := #[], attributes := #[] }
def k3m5 : Method := { name := "reportsIgnored", desc := "()J", sig := { parameters := [], returnType := some .long }, accessFlags := 1, code := some k3c5 }
/-- com/example/ugello/ugello/service/ReplayTally -/
def k3 : Class := { plain "com/example/ugello/ugello/service/ReplayTally" (some 0) with
  accessFlags := 49
  interfaces := #[]
  cf := some (fileOf pool3 10 #[.nestMembers #[76, 120]] #[{ accessFlags := 1, nameIndex := 5, descriptorIndex := 103, attributes := #[] }, { accessFlags := 1, nameIndex := 173, descriptorIndex := 174, attributes := #[] }, { accessFlags := 1, nameIndex := 59, descriptorIndex := 93, attributes := #[] }, { accessFlags := 1, nameIndex := 81, descriptorIndex := 93, attributes := #[] }, { accessFlags := 1, nameIndex := 106, descriptorIndex := 93, attributes := #[] }, { accessFlags := 1, nameIndex := 109, descriptorIndex := 93, attributes := #[] }] 49 2 #[] #[{ accessFlags := 26, nameIndex := 163, descriptorIndex := 118, attributes := #[] }, { accessFlags := 18, nameIndex := 43, descriptorIndex := 14, attributes := #[] }, { accessFlags := 18, nameIndex := 46, descriptorIndex := 47, attributes := #[] }, { accessFlags := 2, nameIndex := 59, descriptorIndex := 14, attributes := #[] }, { accessFlags := 2, nameIndex := 81, descriptorIndex := 14, attributes := #[] }, { accessFlags := 2, nameIndex := 13, descriptorIndex := 14, attributes := #[] }, { accessFlags := 2, nameIndex := 106, descriptorIndex := 14, attributes := #[] }, { accessFlags := 2, nameIndex := 109, descriptorIndex := 14, attributes := #[] }, { accessFlags := 18, nameIndex := 39, descriptorIndex := 40, attributes := #[] }, { accessFlags := 2, nameIndex := 89, descriptorIndex := 14, attributes := #[] }, { accessFlags := 2, nameIndex := 17, descriptorIndex := 18, attributes := #[] }, { accessFlags := 2, nameIndex := 21, descriptorIndex := 18, attributes := #[] }, { accessFlags := 2, nameIndex := 24, descriptorIndex := 18, attributes := #[] }, { accessFlags := 2, nameIndex := 117, descriptorIndex := 118, attributes := #[] }, { accessFlags := 18, nameIndex := 30, descriptorIndex := 31, attributes := #[] }])
  fields := #[{ name := "INITIAL_CAPACITY", type := .int, accessFlags := 26, slot := 0, constantValue := 0 }, { name := "windowMicros", type := .long, accessFlags := 18, slot := 0, constantValue := 0 }, { name := "perWindow", type := .boolean, accessFlags := 18, slot := 1, constantValue := 0 }, { name := "offered", type := .long, accessFlags := 2, slot := 2, constantValue := 0 }, { name := "admitted", type := .long, accessFlags := 2, slot := 3, constantValue := 0 }, { name := "lastArrival", type := .long, accessFlags := 2, slot := 4, constantValue := 0 }, { name := "reportsTaken", type := .long, accessFlags := 2, slot := 5, constantValue := 0 }, { name := "reportsIgnored", type := .long, accessFlags := 2, slot := 6, constantValue := 0 }, { name := "recentAdmissions", type := (.object "com/example/ugello/ugello/service/SlidingWindow"), accessFlags := 18, slot := 7, constantValue := 0 }, { name := "maxAdmittedInWindow", type := .long, accessFlags := 2, slot := 8, constantValue := 0 }, { name := "windowIndexes", type := (.array .long), accessFlags := 2, slot := 9, constantValue := 0 }, { name := "windowOffered", type := (.array .long), accessFlags := 2, slot := 10, constantValue := 0 }, { name := "windowAdmitted", type := (.array .long), accessFlags := 2, slot := 11, constantValue := 0 }, { name := "windowCount", type := .int, accessFlags := 2, slot := 12, constantValue := 0 }, { name := "byPriority", type := (.object "java/util/Map"), accessFlags := 18, slot := 13, constantValue := 0 }]
  methods := #[k3m0, k3m1, k3m2, k3m3, k3m4, k3m5]
  instanceTypes := #[.long, .boolean, .long, .long, .long, .long, .long, (.object "com/example/ugello/ugello/service/SlidingWindow"), .long, (.array .long), (.array .long), (.array .long), .int, (.object "java/util/Map")]
  staticTypes := #[.int]
  resolved := Array.replicate 215 none
  statics := none }

def pool4 : Array CpInfo := pool [(2, .class_ 4), (1, u "java/util/Map"), (31, .class_ 37), (0, u "java/util/Map$Entry"), (55, .class_ 94), (0, u "java/lang/Object")] 168

/-- java/util/Map -/
def k4 : Class := { plain "java/util/Map" (some 0) with
  accessFlags := 1537
  interfaces := #[]
  cf := some (fileOf pool4 2 #[.nestMembers #[36]] #[] 1537 93 #[] #[])
  fields := #[]
  methods := #[]
  instanceTypes := #[]
  staticTypes := #[]
  resolved := Array.replicate 263 none
  statics := none }

def pool5 : Array CpInfo := pool [(1, .methodref 2 3), (0, .class_ 4), (0, .nameAndType 5 6), (0, u "java/lang/Object"), (0, u "<init>"), (0, u "()V"), (1, .class_ 10), (1, u "java/util/AbstractMap"), (42, .class_ 54), (0, u "java/util/Map"), (9, u "keySet"), (0, u "Ljava/util/Set;"), (0, .class_ 67), (0, u "java/util/AbstractMap$1"), (5, u "values"), (0, u "Ljava/util/Collection;"), (0, .class_ 76), (0, u "java/util/AbstractMap$2"), (104, .class_ 182), (0, u "java/util/AbstractMap$ViewCollection"), (0, .class_ 184), (0, u "java/util/AbstractMap$SimpleImmutableEntry"), (0, .class_ 186), (0, u "java/util/AbstractMap$SimpleEntry"), (0, .class_ 188), (0, u "java/util/AbstractMap$2$1"), (0, .class_ 190), (0, u "java/util/AbstractMap$1$1")] 5

def k5c0 : Code := { maxStack := 1, maxLocals := 1, code := jdk_71_method_1_code, exceptionTable := #[], attributes := #[] }
def k5m0 : Method := { name := "<init>", desc := "()V", sig := { parameters := [], returnType := none }, accessFlags := 4, code := some k5c0 }
/-- java/util/AbstractMap -/
def k5 : Class := { plain "java/util/AbstractMap" (some 0) with
  accessFlags := 1057
  interfaces := #[4]
  cf := some (fileOf pool5 8 #[.nestMembers #[181, 183, 185, 75, 187, 66, 189]] #[{ accessFlags := 4, nameIndex := 5, descriptorIndex := 6, attributes := #[] }] 1057 2 #[53] #[{ accessFlags := 128, nameIndex := 64, descriptorIndex := 65, attributes := #[] }, { accessFlags := 128, nameIndex := 73, descriptorIndex := 74, attributes := #[] }])
  fields := #[{ name := "keySet", type := (.object "java/util/Set"), accessFlags := 128, slot := 0, constantValue := 0 }, { name := "values", type := (.object "java/util/Collection"), accessFlags := 128, slot := 1, constantValue := 0 }]
  methods := #[k5m0]
  instanceTypes := #[(.object "java/util/Set"), (.object "java/util/Collection")]
  staticTypes := #[]
  resolved := Array.replicate 196 none
  statics := none }

def pool6 : Array CpInfo := pool [(2, .class_ 4), (1, u "java/util/SequencedMap"), (38, .class_ 44), (0, u "java/util/SequencedMap$1SeqKeySet"), (3, .class_ 49), (0, u "java/util/SequencedMap$1SeqValues"), (1, .class_ 52), (0, u "java/util/SequencedMap$1SeqEntrySet"), (1, .class_ 55), (0, u "java/lang/Object"), (0, .class_ 57), (0, u "java/util/Map")] 48

/-- java/util/SequencedMap -/
def k6 : Class := { plain "java/util/SequencedMap" (some 0) with
  accessFlags := 1537
  interfaces := #[4]
  cf := some (fileOf pool6 2 #[.nestMembers #[51, 48, 43]] #[] 1537 54 #[56] #[])
  fields := #[]
  methods := #[]
  instanceTypes := #[]
  staticTypes := #[]
  resolved := Array.replicate 106 none
  statics := none }

def pool7 : Array CpInfo := pool [(14, .class_ 16), (1, u "java/util/SortedMap"), (2, .class_ 20), (0, u "java/lang/Object"), (0, .class_ 22), (0, u "java/util/SequencedMap")] 50

/-- java/util/SortedMap -/
def k7 : Class := { plain "java/util/SortedMap" (some 0) with
  accessFlags := 1537
  interfaces := #[6]
  cf := some (fileOf pool7 14 #[] #[] 1537 19 #[21] #[])
  fields := #[]
  methods := #[]
  instanceTypes := #[]
  staticTypes := #[]
  resolved := Array.replicate 73 none
  statics := none }

def pool8 : Array CpInfo := pool [(2, .class_ 4), (1, u "java/util/NavigableMap"), (5, .class_ 11), (0, u "java/lang/Object"), (0, .class_ 13), (0, u "java/util/SortedMap")] 53

/-- java/util/NavigableMap -/
def k8 : Class := { plain "java/util/NavigableMap" (some 0) with
  accessFlags := 1537
  interfaces := #[7]
  cf := some (fileOf pool8 2 #[] #[] 1537 10 #[12] #[])
  fields := #[]
  methods := #[]
  instanceTypes := #[]
  staticTypes := #[]
  resolved := Array.replicate 67 none
  statics := none }

def pool9 : Array CpInfo := pool [(1, .class_ 2), (0, u "java/lang/Cloneable"), (0, .class_ 4), (0, u "java/lang/Object")] 2

/-- java/lang/Cloneable -/
def k9 : Class := { plain "java/lang/Cloneable" (some 0) with
  accessFlags := 1537
  interfaces := #[]
  cf := some (fileOf pool9 1 #[] #[] 1537 3 #[] #[])
  fields := #[]
  methods := #[]
  instanceTypes := #[]
  staticTypes := #[]
  resolved := Array.replicate 7 none
  statics := none }

def pool10 : Array CpInfo := pool [(1, .class_ 2), (0, u "java/io/Serializable"), (0, .class_ 4), (0, u "java/lang/Object")] 2

/-- java/io/Serializable -/
def k10 : Class := { plain "java/io/Serializable" (some 0) with
  accessFlags := 1537
  interfaces := #[]
  cf := some (fileOf pool10 1 #[] #[] 1537 3 #[] #[])
  fields := #[]
  methods := #[]
  instanceTypes := #[]
  staticTypes := #[]
  resolved := Array.replicate 7 none
  statics := none }

def pool11 : Array CpInfo := pool [(1, .methodref 2 3), (0, .class_ 4), (0, .nameAndType 5 6), (0, u "java/util/AbstractMap"), (0, u "<init>"), (0, u "()V"), (0, .fieldref 8 9), (0, .class_ 10), (0, .nameAndType 11 12), (0, u "java/util/TreeMap"), (0, u "size"), (0, u "I"), (0, .fieldref 8 14), (0, .nameAndType 15 12), (0, u "modCount"), (0, .fieldref 8 17), (0, .nameAndType 18 19), (0, u "comparator"), (0, u "Ljava/util/Comparator;"), (14, u "entrySet"), (24, .class_ 61), (1, u "java/util/TreeMap$Entry"), (1, u "Ljava/lang/Object;"), (39, u "root"), (0, u "Ljava/util/TreeMap$Entry;"), (85, u "Ljava/util/TreeMap$EntrySet;"), (2, u "navigableKeySet"), (0, u "Ljava/util/TreeMap$KeySet;"), (2, u "descendingMap"), (0, u "Ljava/util/NavigableMap;"), (23, .class_ 223), (0, u "java/util/TreeMap$KeySet"), (7, .class_ 232), (0, u "java/util/NavigableMap"), (4, .class_ 238), (0, u "java/util/TreeMap$Values"), (3, .class_ 243), (0, u "java/util/TreeMap$EntrySet"), (1, .class_ 246), (0, u "java/util/TreeMap$DescendingSubMap"), (3, .class_ 251), (0, u "java/util/TreeMap$AscendingSubMap"), (17, .class_ 270), (0, u "java/util/TreeMap$KeyIterator"), (3, .class_ 275), (0, u "java/util/TreeMap$DescendingKeyIterator"), (17, u "Z"), (94, .class_ 389), (0, u "java/util/TreeMap$NavigableSubMap"), (1, .class_ 392), (0, u "java/util/TreeMap$KeySpliterator"), (3, .class_ 397), (0, u "java/util/TreeMap$DescendingKeySpliterator"), (4, u "UNBOUNDED"), (0, .class_ 404), (0, u "java/lang/Cloneable"), (0, .class_ 406), (0, u "java/io/Serializable"), (6, u "RED"), (2, u "BLACK"), (1, u "serialVersionUID"), (0, u "J"), (214, .class_ 635), (0, u "java/util/TreeMap$EntrySpliterator"), (0, .class_ 637), (0, u "java/util/TreeMap$ValueSpliterator"), (0, .class_ 639), (0, u "java/util/TreeMap$TreeMapSpliterator"), (0, .class_ 641), (0, u "java/util/TreeMap$SubMap"), (0, .class_ 643), (0, u "java/util/TreeMap$DescendingSubMap$DescendingEntrySetView"), (0, .class_ 645), (0, u "java/util/TreeMap$AscendingSubMap$AscendingEntrySetView"), (0, .class_ 647), (0, u "java/util/TreeMap$NavigableSubMap$DescendingSubMapKeyIterator"), (0, .class_ 649), (0, u "java/util/TreeMap$NavigableSubMap$SubMapKeyIterator"), (0, .class_ 651), (0, u "java/util/TreeMap$NavigableSubMap$DescendingSubMapEntryIterator"), (0, .class_ 653), (0, u "java/util/TreeMap$NavigableSubMap$SubMapEntryIterator"), (0, .class_ 655), (0, u "java/util/TreeMap$NavigableSubMap$SubMapIterator"), (0, .class_ 657), (0, u "java/util/TreeMap$NavigableSubMap$EntrySetView"), (0, .class_ 659), (0, u "java/util/TreeMap$ValueIterator"), (0, .class_ 661), (0, u "java/util/TreeMap$EntryIterator"), (0, .class_ 663), (0, u "java/util/TreeMap$PrivateEntryIterator")] 28

def k11c0 : Code := { maxStack := 2, maxLocals := 1, code := jdk_2729_method_1_code, exceptionTable := #[], attributes := #[] }
def k11m0 : Method := { name := "<init>", desc := "()V", sig := { parameters := [], returnType := none }, accessFlags := 1, code := some k11c0 }
/-- java/util/TreeMap -/
def k11 : Class := { plain "java/util/TreeMap" (some 5) with
  accessFlags := 33
  interfaces := #[8, 9, 10]
  cf := some (fileOf pool11 8 #[.nestMembers #[634, 636, 396, 391, 638, 59, 640, 245, 642, 250, 644, 388, 646, 648, 650, 652, 654, 656, 274, 269, 658, 660, 662, 222, 242, 237]] #[{ accessFlags := 1, nameIndex := 5, descriptorIndex := 6, attributes := #[] }] 33 2 #[231, 403, 405] #[{ accessFlags := 18, nameIndex := 18, descriptorIndex := 19, attributes := #[] }, { accessFlags := 130, nameIndex := 103, descriptorIndex := 104, attributes := #[] }, { accessFlags := 130, nameIndex := 11, descriptorIndex := 12, attributes := #[] }, { accessFlags := 130, nameIndex := 15, descriptorIndex := 12, attributes := #[] }, { accessFlags := 130, nameIndex := 34, descriptorIndex := 190, attributes := #[] }, { accessFlags := 130, nameIndex := 193, descriptorIndex := 194, attributes := #[] }, { accessFlags := 130, nameIndex := 197, descriptorIndex := 198, attributes := #[] }, { accessFlags := 26, nameIndex := 402, descriptorIndex := 63, attributes := #[] }, { accessFlags := 26, nameIndex := 413, descriptorIndex := 293, attributes := #[] }, { accessFlags := 26, nameIndex := 416, descriptorIndex := 293, attributes := #[] }, { accessFlags := 26, nameIndex := 418, descriptorIndex := 419, attributes := #[] }])
  fields := #[{ name := "comparator", type := (.object "java/util/Comparator"), accessFlags := 18, slot := 2, constantValue := 0 }, { name := "root", type := (.object "java/util/TreeMap$Entry"), accessFlags := 130, slot := 3, constantValue := 0 }, { name := "size", type := .int, accessFlags := 130, slot := 4, constantValue := 0 }, { name := "modCount", type := .int, accessFlags := 130, slot := 5, constantValue := 0 }, { name := "entrySet", type := (.object "java/util/TreeMap$EntrySet"), accessFlags := 130, slot := 6, constantValue := 0 }, { name := "navigableKeySet", type := (.object "java/util/TreeMap$KeySet"), accessFlags := 130, slot := 7, constantValue := 0 }, { name := "descendingMap", type := (.object "java/util/NavigableMap"), accessFlags := 130, slot := 8, constantValue := 0 }, { name := "UNBOUNDED", type := (.object "java/lang/Object"), accessFlags := 26, slot := 0, constantValue := 0 }, { name := "RED", type := .boolean, accessFlags := 26, slot := 1, constantValue := 0 }, { name := "BLACK", type := .boolean, accessFlags := 26, slot := 2, constantValue := 0 }, { name := "serialVersionUID", type := .long, accessFlags := 26, slot := 3, constantValue := 0 }]
  methods := #[k11m0]
  instanceTypes := #[(.object "java/util/Set"), (.object "java/util/Collection"), (.object "java/util/Comparator"), (.object "java/util/TreeMap$Entry"), .int, .int, (.object "java/util/TreeMap$EntrySet"), (.object "java/util/TreeMap$KeySet"), (.object "java/util/NavigableMap")]
  staticTypes := #[(.object "java/lang/Object"), .boolean, .boolean, .long]
  resolved := Array.replicate 692 none
  statics := none }

def pool12 : Array CpInfo := pool [(1, .methodref 2 3), (0, .class_ 4), (0, .nameAndType 5 6), (0, u "java/lang/Object"), (0, u "<init>"), (0, u "()V"), (0, .class_ 8), (0, u "com/example/ugello/ugello/service/KeyCounts"), (0, .methodref 7 3), (0, .fieldref 11 12), (0, .class_ 13), (0, .nameAndType 14 15), (0, u "com/example/ugello/ugello/service/SlidingWindow"), (0, u "byKey"), (0, u "Lcom/example/ugello/ugello/service/KeyCounts;"), (0, .fieldref 11 17), (0, .nameAndType 18 19), (0, u "times"), (0, u "[J"), (0, .fieldref 11 21), (0, .nameAndType 22 19), (0, u "keys"), (0, .fieldref 11 24), (0, .nameAndType 25 19), (0, u "counts"), (0, .long 18446744073709551615), (1, .fieldref 11 29), (0, .nameAndType 30 31), (0, u "lastTime"), (0, u "J"), (9, .fieldref 11 42), (0, .nameAndType 43 31), (0, u "lengthMicros"), (5, u "size"), (0, u "I"), (2, u "start"), (18, u "INITIAL_CAPACITY"), (2, u "(J)V")] 24

def k12c0 : Code := { maxStack := 4, maxLocals := 3, code := prog_41_method_1_code, exceptionTable := #[], attributes := #[] }
def k12m0 : Method := { name := "<init>", desc := "(J)V", sig := { parameters := [.long], returnType := none }, accessFlags := 0, code := some k12c0 }
/-- com/example/ugello/ugello/service/SlidingWindow -/
def k12 : Class := { plain "com/example/ugello/ugello/service/SlidingWindow" (some 0) with
  accessFlags := 48
  interfaces := #[]
  cf := some (fileOf pool12 11 #[] #[{ accessFlags := 0, nameIndex := 5, descriptorIndex := 75, attributes := #[] }] 48 2 #[] #[{ accessFlags := 26, nameIndex := 72, descriptorIndex := 50, attributes := #[] }, { accessFlags := 18, nameIndex := 43, descriptorIndex := 31, attributes := #[] }, { accessFlags := 18, nameIndex := 14, descriptorIndex := 15, attributes := #[] }, { accessFlags := 2, nameIndex := 18, descriptorIndex := 19, attributes := #[] }, { accessFlags := 2, nameIndex := 22, descriptorIndex := 19, attributes := #[] }, { accessFlags := 2, nameIndex := 25, descriptorIndex := 19, attributes := #[] }, { accessFlags := 2, nameIndex := 53, descriptorIndex := 50, attributes := #[] }, { accessFlags := 2, nameIndex := 49, descriptorIndex := 50, attributes := #[] }, { accessFlags := 2, nameIndex := 30, descriptorIndex := 31, attributes := #[] }])
  fields := #[{ name := "INITIAL_CAPACITY", type := .int, accessFlags := 26, slot := 0, constantValue := 0 }, { name := "lengthMicros", type := .long, accessFlags := 18, slot := 0, constantValue := 0 }, { name := "byKey", type := (.object "com/example/ugello/ugello/service/KeyCounts"), accessFlags := 18, slot := 1, constantValue := 0 }, { name := "times", type := (.array .long), accessFlags := 2, slot := 2, constantValue := 0 }, { name := "keys", type := (.array .long), accessFlags := 2, slot := 3, constantValue := 0 }, { name := "counts", type := (.array .long), accessFlags := 2, slot := 4, constantValue := 0 }, { name := "start", type := .int, accessFlags := 2, slot := 5, constantValue := 0 }, { name := "size", type := .int, accessFlags := 2, slot := 6, constantValue := 0 }, { name := "lastTime", type := .long, accessFlags := 2, slot := 7, constantValue := 0 }]
  methods := #[k12m0]
  instanceTypes := #[.long, (.object "com/example/ugello/ugello/service/KeyCounts"), (.array .long), (.array .long), (.array .long), .int, .int, .long]
  staticTypes := #[.int]
  resolved := Array.replicate 100 none
  statics := none }

def pool13 : Array CpInfo := pool [(1, .methodref 2 3), (0, .class_ 4), (0, .nameAndType 5 6), (0, u "java/lang/Object"), (0, u "<init>"), (0, u "()V"), (1, .class_ 10), (1, u "com/example/ugello/ugello/service/KeyCounts"), (0, u "root"), (0, u "Lcom/example/ugello/ugello/service/KeyCounts$Node;"), (9, .class_ 24), (1, u "com/example/ugello/ugello/service/KeyCounts$Node")] 61

def k13c0 : Code := { maxStack := 1, maxLocals := 1, code := prog_23_method_1_code, exceptionTable := #[], attributes := #[] }
def k13m0 : Method := { name := "<init>", desc := "()V", sig := { parameters := [], returnType := none }, accessFlags := 0, code := some k13c0 }
/-- com/example/ugello/ugello/service/KeyCounts -/
def k13 : Class := { plain "com/example/ugello/ugello/service/KeyCounts" (some 0) with
  accessFlags := 48
  interfaces := #[]
  cf := some (fileOf pool13 8 #[.nestMembers #[22]] #[{ accessFlags := 0, nameIndex := 5, descriptorIndex := 6, attributes := #[] }] 48 2 #[] #[{ accessFlags := 2, nameIndex := 11, descriptorIndex := 12, attributes := #[] }])
  fields := #[{ name := "root", type := (.object "com/example/ugello/ugello/service/KeyCounts$Node"), accessFlags := 2, slot := 0, constantValue := 0 }]
  methods := #[k13m0]
  instanceTypes := #[(.object "com/example/ugello/ugello/service/KeyCounts$Node")]
  staticTypes := #[]
  resolved := Array.replicate 86 none
  statics := none }

/-- the primitive byte -/
def k14 : Class := { plain "byte" none with kind := .primitive 'B', accessFlags := 0x411 }
/-- [B -/
def k15 : Class := { plain "[B" (some 0) with kind := .array 14 .byte, interfaces := #[9, 10], accessFlags := 1041 }

/-- the primitive int -/
def k16 : Class := { plain "int" none with kind := .primitive 'I', accessFlags := 0x411 }
/-- [I -/
def k17 : Class := { plain "[I" (some 0) with kind := .array 16 .int, interfaces := #[9, 10], accessFlags := 1041 }

/-- the primitive long -/
def k18 : Class := { plain "long" none with kind := .primitive 'J', accessFlags := 0x411 }
/-- [J -/
def k19 : Class := { plain "[J" (some 0) with kind := .array 18 .long, interfaces := #[9, 10], accessFlags := 1041 }

def heap : Heap := #[]
def classes : Array Class := #[k0, k1, k2, k3, k4, k5, k6, k7, k8, k9, k10, k11, k12, k13, k14, k15, k16, k17, k18, k19]
def interned : List (Array UInt16 × Addr) := []
def slotsUsed : Nat := 0
def theMethod : MethodId := ⟨1, 1⟩
def args0 : Array Value := #[.long 5, .int 7]
def aboutOver (below : List Frame) : State where
  vm := { classes := classes, interned := interned.toArray }
  heap := heap
  slotsUsed := slotsUsed
  threads := #[{ frames := .invoking theMethod args0 :: below }]
def below0 : List Frame := [.native { method := ⟨0, 0⟩, args := #[] }]
def about1 : State := aboutOver below0
def p0 : Program := .bare "" "" ""
def e0 : Env := launch0.env 0 0 0
theorem w_frames : about1.frames = Frame.invoking theMethod args0 :: below0 := rfl
set_option maxRecDepth 65536 in
theorem w_args : argsFit about1.vm theMethod args0 = true := by decide +kernel
set_option maxRecDepth 65536 in
theorem w_heap : heapFits about1 = true := by decide +kernel
set_option maxRecDepth 65536 in
theorem w_runnable : about1.curStatus? = some .runnable := by decide +kernel
set_option maxRecDepth 65536 in
theorem w_alone : about1.alone = true := by decide +kernel
set_option maxRecDepth 65536 in
theorem w_named : about1.methodNamed? x = some theMethod := by decide +kernel
set_option maxRecDepth 65536 in
theorem w_hears : about1.hears theMethod below0 = true := by decide +kernel
set_option maxRecDepth 65536 in
theorem w_ripe : about1.ripe theMethod args0 below0 = true := by decide +kernel
theorem w_running : about1.status = .running := rfl
set_option maxRecDepth 65536 in
theorem w_room : about1.hasRoom e0.platform room_1 = true :=
  launch0.hasRoom_least _ room_1 (by decide +kernel) (by decide +kernel) (by decide +kernel) (by decide +kernel) (by decide +kernel) (by decide +kernel)
theorem allAtoms_all (ts : List Jvm.Cond) (a : Array Jvm.Value) (st : Jvm.State) : (allAtoms ts).before a st = ts.all (fun c => c.before a st) := by
  induction ts with
  | nil => rfl
  | cons c t ih =>
    show (Jvm.Cond.and c (allAtoms t)).before a st = _
    rw [Jvm.Cond.before_and, ih, List.all_cons]
def words1 : List Jvm.Cond := Jvm.Cond.code x code maxLocals ret :: tables_1
/-- a 'code' word, met by the world's own term for the bytes: nothing is compared byte by byte -/
theorem code_word {y : MethodName} {bytes : ByteArray} {mx : Nat} {rt : Option FieldType} {a : Array Value} {s : State} {m : MethodId} {meth : Method} {c : Code} (h1 : s.methodNamed? y = some m) (h2 : s.vm.method? m = some meth) (h3 : meth.code = some c) (h4 : c.code = bytes)
    (h5 : (c.maxLocals == mx && c.exceptionTable.isEmpty && decide (c.maxStack ≤ mostOperands) && decide (meth.sig.returnType = rt) && !meth.locks && decide (parseMethodDescriptor y.desc = some meth.sig)) = true) : (Jvm.Cond.code y bytes mx rt).before a s = true := by
  simp only [Bool.and_eq_true, beq_iff_eq, Bool.not_eq_true', decide_eq_true_eq] at h5
  obtain ⟨⟨⟨⟨⟨g1, g2⟩, g3⟩, g4⟩, g5⟩, g6⟩ := h5
  simp [Cond.before, Cond.holds, Cond.value, h1, h2, h3, h4, g1, g2, g3, g4, g5, g6]
def isCode : Jvm.Cond → Bool
  | .code _ _ _ _ => true
  | _ => false
theorem all_split {L : List Jvm.Cond} {P : Jvm.Cond → Bool} (h1 : L.all (fun c => isCode c || P c) = true) (h2 : ∀ c ∈ L.filter isCode, P c = true) : L.all P = true := by
  refine List.all_eq_true.mpr fun c hc => ?_
  have h := List.all_eq_true.mp h1 c hc
  rcases Bool.eq_false_or_eq_true (isCode c) with hi | hi
  · exact h2 c (List.mem_filter.mpr ⟨hc, hi⟩)
  · simpa [hi] using h
set_option maxRecDepth 65536 in
theorem w_c0 : (Jvm.Cond.code x code maxLocals ret).before args0 about1 = true := code_word (m := ⟨1, 1⟩) (meth := k1m1) (c := k1c1) (by decide +kernel) rfl rfl rfl (by decide +kernel)
set_option maxRecDepth 65536 in
theorem w_c1 : (Jvm.Cond.code ({ cls := "java/lang/Math", name := "max", desc := "(JJ)J" } : Jvm.MethodName) jdk_29_method_66_code (4 : Nat) (Option.some Jvm.ClassFile.FieldType.long)).before args0 about1 = true := code_word (m := ⟨2, 1⟩) (meth := k2m1) (c := k2c1) (by decide +kernel) rfl rfl rfl (by decide +kernel)
set_option maxRecDepth 65536 in
theorem w_c2 : (Jvm.Cond.code ({ cls := "com/example/ugello/ugello/service/ReplayTally", name := "<init>", desc := "(JZ)V" } : Jvm.MethodName) prog_37_method_1_code (4 : Nat) (Option.none : Option Jvm.ClassFile.FieldType)).before args0 about1 = true := code_word (m := ⟨3, 0⟩) (meth := k3m0) (c := k3c0) (by decide +kernel) rfl rfl rfl (by decide +kernel)
set_option maxRecDepth 65536 in
theorem w_c3 : (Jvm.Cond.code ({ cls := "java/lang/Object", name := "<init>", desc := "()V" } : Jvm.MethodName) object_method_1_code (1 : Nat) (Option.none : Option Jvm.ClassFile.FieldType)).before args0 about1 = true := code_word (m := ⟨0, 0⟩) (meth := k0m0) (c := k0c0) (by decide +kernel) rfl rfl rfl (by decide +kernel)
set_option maxRecDepth 65536 in
theorem w_c4 : (Jvm.Cond.code ({ cls := "java/util/TreeMap", name := "<init>", desc := "()V" } : Jvm.MethodName) jdk_2729_method_1_code (1 : Nat) (Option.none : Option Jvm.ClassFile.FieldType)).before args0 about1 = true := code_word (m := ⟨11, 0⟩) (meth := k11m0) (c := k11c0) (by decide +kernel) rfl rfl rfl (by decide +kernel)
set_option maxRecDepth 65536 in
theorem w_c5 : (Jvm.Cond.code ({ cls := "java/util/AbstractMap", name := "<init>", desc := "()V" } : Jvm.MethodName) jdk_71_method_1_code (1 : Nat) (Option.none : Option Jvm.ClassFile.FieldType)).before args0 about1 = true := code_word (m := ⟨5, 0⟩) (meth := k5m0) (c := k5c0) (by decide +kernel) rfl rfl rfl (by decide +kernel)
set_option maxRecDepth 65536 in
theorem w_c6 : (Jvm.Cond.code ({ cls := "com/example/ugello/ugello/service/SlidingWindow", name := "<init>", desc := "(J)V" } : Jvm.MethodName) prog_41_method_1_code (3 : Nat) (Option.none : Option Jvm.ClassFile.FieldType)).before args0 about1 = true := code_word (m := ⟨12, 0⟩) (meth := k12m0) (c := k12c0) (by decide +kernel) rfl rfl rfl (by decide +kernel)
set_option maxRecDepth 65536 in
theorem w_c7 : (Jvm.Cond.code ({ cls := "com/example/ugello/ugello/service/KeyCounts", name := "<init>", desc := "()V" } : Jvm.MethodName) prog_23_method_1_code (1 : Nat) (Option.none : Option Jvm.ClassFile.FieldType)).before args0 about1 = true := code_word (m := ⟨13, 0⟩) (meth := k13m0) (c := k13c0) (by decide +kernel) rfl rfl rfl (by decide +kernel)
set_option maxRecDepth 65536 in
theorem w_c8 : (Jvm.Cond.code ({ cls := "com/example/ugello/ugello/service/ReplayTally", name := "recordReport", desc := "(Z)V" } : Jvm.MethodName) prog_37_method_3_code (2 : Nat) (Option.none : Option Jvm.ClassFile.FieldType)).before args0 about1 = true := code_word (m := ⟨3, 1⟩) (meth := k3m1) (c := k3c1) (by decide +kernel) rfl rfl rfl (by decide +kernel)
set_option maxRecDepth 65536 in
theorem w_c9 : (Jvm.Cond.code ({ cls := "com/example/ugello/ugello/service/ReplayTally", name := "reportsTaken", desc := "()J" } : Jvm.MethodName) prog_37_method_8_code (1 : Nat) (Option.some Jvm.ClassFile.FieldType.long)).before args0 about1 = true := code_word (m := ⟨3, 4⟩) (meth := k3m4) (c := k3c4) (by decide +kernel) rfl rfl rfl (by decide +kernel)
set_option maxRecDepth 65536 in
theorem w_c10 : (Jvm.Cond.code ({ cls := "com/example/ugello/ugello/service/ReplayTally", name := "reportsIgnored", desc := "()J" } : Jvm.MethodName) prog_37_method_9_code (1 : Nat) (Option.some Jvm.ClassFile.FieldType.long)).before args0 about1 = true := code_word (m := ⟨3, 5⟩) (meth := k3m5) (c := k3c5) (by decide +kernel) rfl rfl rfl (by decide +kernel)
set_option maxRecDepth 65536 in
theorem w_c11 : (Jvm.Cond.code ({ cls := "com/example/ugello/ugello/service/ReplayTally", name := "offered", desc := "()J" } : Jvm.MethodName) prog_37_method_4_code (1 : Nat) (Option.some Jvm.ClassFile.FieldType.long)).before args0 about1 = true := code_word (m := ⟨3, 2⟩) (meth := k3m2) (c := k3c2) (by decide +kernel) rfl rfl rfl (by decide +kernel)
set_option maxRecDepth 65536 in
theorem w_c12 : (Jvm.Cond.code ({ cls := "com/example/ugello/ugello/service/ReplayTally", name := "admitted", desc := "()J" } : Jvm.MethodName) prog_37_method_5_code (1 : Nat) (Option.some Jvm.ClassFile.FieldType.long)).before args0 about1 = true := code_word (m := ⟨3, 3⟩) (meth := k3m3) (c := k3c3) (by decide +kernel) rfl rfl rfl (by decide +kernel)
def codes1 : List Jvm.Cond := [Jvm.Cond.code x code maxLocals ret, Jvm.Cond.code ({ cls := "java/lang/Math", name := "max", desc := "(JJ)J" } : Jvm.MethodName) jdk_29_method_66_code (4 : Nat) (Option.some Jvm.ClassFile.FieldType.long), Jvm.Cond.code ({ cls := "com/example/ugello/ugello/service/ReplayTally", name := "<init>", desc := "(JZ)V" } : Jvm.MethodName) prog_37_method_1_code (4 : Nat) (Option.none : Option Jvm.ClassFile.FieldType), Jvm.Cond.code ({ cls := "java/lang/Object", name := "<init>", desc := "()V" } : Jvm.MethodName) object_method_1_code (1 : Nat) (Option.none : Option Jvm.ClassFile.FieldType), Jvm.Cond.code ({ cls := "java/util/TreeMap", name := "<init>", desc := "()V" } : Jvm.MethodName) jdk_2729_method_1_code (1 : Nat) (Option.none : Option Jvm.ClassFile.FieldType), Jvm.Cond.code ({ cls := "java/util/AbstractMap", name := "<init>", desc := "()V" } : Jvm.MethodName) jdk_71_method_1_code (1 : Nat) (Option.none : Option Jvm.ClassFile.FieldType), Jvm.Cond.code ({ cls := "com/example/ugello/ugello/service/SlidingWindow", name := "<init>", desc := "(J)V" } : Jvm.MethodName) prog_41_method_1_code (3 : Nat) (Option.none : Option Jvm.ClassFile.FieldType), Jvm.Cond.code ({ cls := "com/example/ugello/ugello/service/KeyCounts", name := "<init>", desc := "()V" } : Jvm.MethodName) prog_23_method_1_code (1 : Nat) (Option.none : Option Jvm.ClassFile.FieldType), Jvm.Cond.code ({ cls := "com/example/ugello/ugello/service/ReplayTally", name := "recordReport", desc := "(Z)V" } : Jvm.MethodName) prog_37_method_3_code (2 : Nat) (Option.none : Option Jvm.ClassFile.FieldType), Jvm.Cond.code ({ cls := "com/example/ugello/ugello/service/ReplayTally", name := "reportsTaken", desc := "()J" } : Jvm.MethodName) prog_37_method_8_code (1 : Nat) (Option.some Jvm.ClassFile.FieldType.long), Jvm.Cond.code ({ cls := "com/example/ugello/ugello/service/ReplayTally", name := "reportsIgnored", desc := "()J" } : Jvm.MethodName) prog_37_method_9_code (1 : Nat) (Option.some Jvm.ClassFile.FieldType.long), Jvm.Cond.code ({ cls := "com/example/ugello/ugello/service/ReplayTally", name := "offered", desc := "()J" } : Jvm.MethodName) prog_37_method_4_code (1 : Nat) (Option.some Jvm.ClassFile.FieldType.long), Jvm.Cond.code ({ cls := "com/example/ugello/ugello/service/ReplayTally", name := "admitted", desc := "()J" } : Jvm.MethodName) prog_37_method_5_code (1 : Nat) (Option.some Jvm.ClassFile.FieldType.long)]
set_option maxRecDepth 65536 in
theorem codes_eq : words1.filter isCode = codes1 := rfl
theorem w_codes : ∀ c ∈ words1.filter isCode, c.before args0 about1 = true := by
  rw [codes_eq]
  intro c hc
  simp only [codes1, List.mem_cons, List.not_mem_nil, or_false] at hc
  rcases hc with rfl | rfl | rfl | rfl | rfl | rfl | rfl | rfl | rfl | rfl | rfl | rfl | rfl
  · exact w_c0
  · exact w_c1
  · exact w_c2
  · exact w_c3
  · exact w_c4
  · exact w_c5
  · exact w_c6
  · exact w_c7
  · exact w_c8
  · exact w_c9
  · exact w_c10
  · exact w_c11
  · exact w_c12
set_option maxRecDepth 65536 in
theorem w_t1 : (words1.take 24).all (fun c => isCode c || c.before args0 about1) = true := by decide +kernel
set_option maxRecDepth 65536 in
theorem w_t2 : ((words1.drop 24).take 24).all (fun c => isCode c || c.before args0 about1) = true := by decide +kernel
set_option maxRecDepth 65536 in
theorem w_t3 : (((words1.drop 24).drop 24).take 24).all (fun c => isCode c || c.before args0 about1) = true := by decide +kernel
set_option maxRecDepth 65536 in
theorem w_t4 : ((((words1.drop 24).drop 24).drop 24).take 24).all (fun c => isCode c || c.before args0 about1) = true := by decide +kernel
set_option maxRecDepth 65536 in
theorem w_t5 : ((((words1.drop 24).drop 24).drop 24).drop 24).all (fun c => isCode c || c.before args0 about1) = true := by decide +kernel
theorem w_tables : (allAtoms (Jvm.Cond.code x code maxLocals ret :: tables_1)).before args0 about1 = true := by
  rw [allAtoms_all]
  show words1.all (fun c => c.before args0 about1) = true
  refine all_split ?_ w_codes
  rw [← List.take_append_drop 24 words1, List.all_append, w_t1, ← List.take_append_drop 24 (words1.drop 24), List.all_append, w_t2, ← List.take_append_drop 24 ((words1.drop 24).drop 24), List.all_append, w_t3, ← List.take_append_drop 24 (((words1.drop 24).drop 24).drop 24), List.all_append, w_t4, w_t5]
  rfl
set_option maxRecDepth 65536 in
theorem w_case : (Jvm.Cond.and given_1 narrow_1).before args0 about1 = true := by decide +kernel
theorem w_applies : (headSpec (Jvm.Cond.code x code maxLocals ret :: tables_1) room_1).applies x e0.platform about1 = true :=
  (Spec.applies_iff w_frames).mpr ⟨w_running, w_runnable, w_alone, w_named, w_hears, w_ripe, w_room, w_tables⟩
theorem atStart : AtStart classFile x code maxLocals ret World_1 tables_1 room_1 Calls_1 rest_1 Pre_1 launch0 p0 e0 about1 theMethod args0 below0 :=
  ⟨lists_1, trivial, launch0.admits_env _ _ _, launch0.least_env, fairChoices_fair.cas, fairChoices_fair.clock, w_frames, w_args, w_heap, w_applies, trivial, trivial, w_case⟩
end start1
theorem witness_1 : WitnessClaimed_1 := ⟨start1.p0, start1.e0, start1.about1, start1.theMethod, start1.args0, start1.below0, start1.atStart⟩
end Jvm.Pilot.@@N@@
