import JvmDerived
import JvmDerived.Pilot.@@N@@Statement
import JvmDerived.Pilot.@@N@@Code
set_option linter.unusedVariables false
set_option linter.unusedSimpArgs false
namespace Jvm.Own
open Sem ClassFile Op Lib Jvm.Stand Jvm.Free Jvm.LawKit Jvm.RoadKit
section Lay
variable {p : Program} {l : Launch} {e : Env} {R : Room} {s : State} {m : MethodId} {args : Array Value} {below : List Frame} {meth : Method} {c : Code} {T T' : State} {cells slots n0 : Nat} {Z : State} {a0 : Array Value} {h h' : Heap} {Rest : State → Outcome → Prop} {pc pc' : Nat} {L L' : Array Slot} {S : List Value} {f f' : JFrame} {bytes : ByteArray} {maxL : Nat} {ret : Option FieldType} {own nme : String}
/-- the run stands here: a Stand whose written places are all new -/
def St (p : Program) (l : Launch) (e : Env) (R : Room) (s : State) (m : MethodId) (args : Array Value) (below : List Frame) (meth : Method) (c : Code) (n0 : Nat) (T : State) (h : Heap) (cells slots : Nat) : Prop := ∃ locs, Stand p l e R s m args below meth c T locs cells slots ∧ Fr n0 locs ∧ T.heap = h
def Cx (p : Program) (s : State) (m : MethodId) (meth : Method) (c : Code) (Z : State) (bytes : ByteArray) (maxL : Nat) (ret : Option FieldType) (own nme : String) : Prop := p.tables.exec = Jvm.exec ∧ c.code = bytes ∧ c.maxLocals = maxL ∧ meth.sig.returnType = ret ∧ meth.locks = false ∧ s.vm.findClass own = some m.cls ∧ meth.name = nme ∧ Z.Warmed39 s.vm
def Go (p : Program) (e : Env) (below : List Frame) (Rest : State → Outcome → Prop) (T : State) (f : JFrame) : Prop := ∃ t o, Steps p.tables e below (T.setTop f) t ∧ Rest t o
theorem go_by (st : ∀ t, Steps p.tables e below (T'.setTop f') t → Steps p.tables e below (T.setTop f) t) (k : Go p e below Rest T' f') : Go p e below Rest T f := by
  obtain ⟨t, o, h1, h2⟩ := k; exact ⟨t, o, st t h1, h2⟩
theorem go_tr (st : Steps p.tables e below (T.setTop f) (T'.setTop f')) (k : Go p e below Rest T' f') : Go p e below Rest T f := by
  obtain ⟨t, o, h1, h2⟩ := k; exact ⟨t, o, st.trans h1, h2⟩
theorem go_cast (q : f = f') (k : Go p e below Rest T f') : Go p e below Rest T f := q ▸ k
abbrev Rs (s : State) (below : List Frame) (n0 : Nat) (Q : Option Value → Heap → Prop) (k n : Nat) : State → Outcome → Prop := fun t o => t.status = .running ∧ Ended t below o ∧ ∃ v L, o = .returned v ∧ (Q v t.heap ∧ Fr n0 L) ∧ FrameEnd s o t L k n
abbrev Ctr (l : Launch) (y : MethodName) (bytes : ByteArray) (maxL : Nat) (ret : Option FieldType) (rm : Room) (Z : State) (n0 : Nat) (as : Array Value) (h : Heap) (Q : Option Value → Heap → Prop) (ws : List Jvm.Cond) : Prop :=
  MetFree l y (head1 (Jvm.Cond.code y bytes maxL ret :: ws) rm) (fun a U => a = as ∧ Z.Warmed39 U.vm ∧ U.heap = h) (fun _ _ _ _ _ => True) (fun _ U o U' => ∃ v L, o = .returned v ∧ (Q v U'.heap ∧ Fr n0 L) ∧ FrameEnd U o U' L rm.cells rm.slots)
theorem ctr_of {y : MethodName} {rm : Room} {as : Array Value} {Q : Option Value → Heap → Prop} {ws : List Jvm.Cond} (hpn : plainFor y = true)
    (body : ∀ p e s m below meth c s₁, St p l e rm s m as below meth c n0 s₁ h 0 0 → Cx p s m meth c Z bytes maxL ret y.cls y.name → Go p e below (Rs s below n0 Q rm.cells rm.slots) s₁ (entryFrame m as maxL)) :
    Ctr l y bytes maxL ret rm Z n0 as h Q ws := by
  refine MetFree.of_bodySF hpn hisR ?_
  intro p e s m args below meth c s₁ Bd hml0 hP hK
  obtain ⟨rfl, hZ, hh⟩ := hP
  have hown := findClass_of_methodNamed Bd.named
  have hnm := (name_of_methodNamed Bd.named Bd.method).1
  have X0 : Stand p l e rm s m args below meth c s₁ [] 0 0 := Stand.of_body Bd
  have e0 : s₁.heap = h := by rw [← hh, Bd.state]; rfl
  obtain ⟨t, o, h1, h2, h3, h4⟩ := body p e s m below meth c s₁ ⟨[], X0, Fr.nil n0, e0⟩ ⟨Bd.exec, Bd.bytes, hml0, Bd.returns, Bd.notSynchronized, hown, hnm, hZ⟩
  exact ⟨t, o, h1, h2, h3, h4⟩
theorem g_iload (X : St p l e R s m args below meth c n0 T h cells slots) (C : Cx p s m meth c Z bytes maxL ret own nme) {k : Nat} {v : Int32} (hd : decode bytes pc = .ok (.iload k, 2)) (hl : L[k]? = some (.val (.int v))) (hp : pc + 2 = pc') (r : Go p e below Rest T (mkF m pc' L (.int v :: S))) : Go p e below Rest T (mkF m pc L S) := by
  obtain ⟨_, X, -, -⟩ := X; obtain ⟨hx, hby, -⟩ := C; subst hp
  exact go_by (fun t k => XS.iload X.here hx rfl (hb hby hd) hl k) r
theorem g_iloadN (X : St p l e R s m args below meth c n0 T h cells slots) (C : Cx p s m meth c Z bytes maxL ret own nme) {k : Fin 4} {v : Int32} (hd : decode bytes pc = .ok (.iload_n k, 1)) (hl : L[k.val]? = some (.val (.int v))) (hp : pc + 1 = pc') (r : Go p e below Rest T (mkF m pc' L (.int v :: S))) : Go p e below Rest T (mkF m pc L S) := by
  obtain ⟨_, X, -, -⟩ := X; obtain ⟨hx, hby, -⟩ := C; subst hp
  exact go_by (fun t k => XS.iloadN X.here hx rfl (hb hby hd) hl k) r
theorem g_istore (X : St p l e R s m args below meth c n0 T h cells slots) (C : Cx p s m meth c Z bytes maxL ret own nme) {k : Nat} {v v' : Int32} (hd : decode bytes pc = .ok (.istore k, 2)) (hv : v' = v) (hl : storeLocals L k (.int v') = some L') (hp : pc + 2 = pc') (r : Go p e below Rest T (mkF m pc' L' S)) : Go p e below Rest T (mkF m pc L (.int v :: S)) := by
  obtain ⟨_, X, -, -⟩ := X; obtain ⟨hx, hby, -⟩ := C; subst hp
  exact go_by (fun t k => XS.istore X.here hx rfl (hb hby hd) rfl (hv ▸ hl) k) r
theorem g_istoreN (X : St p l e R s m args below meth c n0 T h cells slots) (C : Cx p s m meth c Z bytes maxL ret own nme) {k : Fin 4} {v v' : Int32} (hd : decode bytes pc = .ok (.istore_n k, 1)) (hv : v' = v) (hl : storeLocals L k.val (.int v') = some L') (hp : pc + 1 = pc') (r : Go p e below Rest T (mkF m pc' L' S)) : Go p e below Rest T (mkF m pc L (.int v :: S)) := by
  obtain ⟨_, X, -, -⟩ := X; obtain ⟨hx, hby, -⟩ := C; subst hp
  exact go_by (fun t k => XS.istoreN X.here hx rfl (hb hby hd) rfl (hv ▸ hl) k) r
theorem g_lload (X : St p l e R s m args below meth c n0 T h cells slots) (C : Cx p s m meth c Z bytes maxL ret own nme) {k : Nat} {v : Int64} (hd : decode bytes pc = .ok (.lload k, 2)) (hl : L[k]? = some (.val (.long v))) (hp : pc + 2 = pc') (r : Go p e below Rest T (mkF m pc' L (.long v :: S))) : Go p e below Rest T (mkF m pc L S) := by
  obtain ⟨_, X, -, -⟩ := X; obtain ⟨hx, hby, -⟩ := C; subst hp
  exact go_by (fun t k => XS.lload X.here hx rfl (hb hby hd) hl k) r
theorem g_lloadN (X : St p l e R s m args below meth c n0 T h cells slots) (C : Cx p s m meth c Z bytes maxL ret own nme) {k : Fin 4} {v : Int64} (hd : decode bytes pc = .ok (.lload_n k, 1)) (hl : L[k.val]? = some (.val (.long v))) (hp : pc + 1 = pc') (r : Go p e below Rest T (mkF m pc' L (.long v :: S))) : Go p e below Rest T (mkF m pc L S) := by
  obtain ⟨_, X, -, -⟩ := X; obtain ⟨hx, hby, -⟩ := C; subst hp
  exact go_by (fun t k => XS.lloadN X.here hx rfl (hb hby hd) hl k) r
theorem g_lstore (X : St p l e R s m args below meth c n0 T h cells slots) (C : Cx p s m meth c Z bytes maxL ret own nme) {k : Nat} {v v' : Int64} (hd : decode bytes pc = .ok (.lstore k, 2)) (hv : v' = v) (hl : storeLocals L k (.long v') = some L') (hp : pc + 2 = pc') (r : Go p e below Rest T (mkF m pc' L' S)) : Go p e below Rest T (mkF m pc L (.long v :: S)) := by
  obtain ⟨_, X, -, -⟩ := X; obtain ⟨hx, hby, -⟩ := C; subst hp
  exact go_by (fun t k => XS.lstore X.here hx rfl (hb hby hd) rfl (hv ▸ hl) k) r
theorem g_lstoreN (X : St p l e R s m args below meth c n0 T h cells slots) (C : Cx p s m meth c Z bytes maxL ret own nme) {k : Fin 4} {v v' : Int64} (hd : decode bytes pc = .ok (.lstore_n k, 1)) (hv : v' = v) (hl : storeLocals L k.val (.long v') = some L') (hp : pc + 1 = pc') (r : Go p e below Rest T (mkF m pc' L' S)) : Go p e below Rest T (mkF m pc L (.long v :: S)) := by
  obtain ⟨_, X, -, -⟩ := X; obtain ⟨hx, hby, -⟩ := C; subst hp
  exact go_by (fun t k => XS.lstoreN X.here hx rfl (hb hby hd) rfl (hv ▸ hl) k) r
theorem g_aload (X : St p l e R s m args below meth c n0 T h cells slots) (C : Cx p s m meth c Z bytes maxL ret own nme) {k : Nat} {v : Value} (hd : decode bytes pc = .ok (.aload k, 2)) (hl : L[k]? = some (.val v)) (hv : v.isRef = true) (hp : pc + 2 = pc') (r : Go p e below Rest T (mkF m pc' L (v :: S))) : Go p e below Rest T (mkF m pc L S) := by
  obtain ⟨_, X, -, -⟩ := X; obtain ⟨hx, hby, -⟩ := C; subst hp
  exact go_by (fun t k => XS.aload X.here hx rfl (hb hby hd) hl hv k) r
theorem g_aloadN (X : St p l e R s m args below meth c n0 T h cells slots) (C : Cx p s m meth c Z bytes maxL ret own nme) {k : Fin 4} {v : Value} (hd : decode bytes pc = .ok (.aload_n k, 1)) (hl : L[k.val]? = some (.val v)) (hv : v.isRef = true) (hp : pc + 1 = pc') (r : Go p e below Rest T (mkF m pc' L (v :: S))) : Go p e below Rest T (mkF m pc L S) := by
  obtain ⟨_, X, -, -⟩ := X; obtain ⟨hx, hby, -⟩ := C; subst hp
  exact go_by (fun t k => XS.aloadN X.here hx rfl (hb hby hd) hl hv k) r
theorem g_astore (X : St p l e R s m args below meth c n0 T h cells slots) (C : Cx p s m meth c Z bytes maxL ret own nme) {k : Nat} {v : Value} (hd : decode bytes pc = .ok (.astore k, 2)) (hv : v.isRef = true) (hl : storeLocals L k v = some L') (hp : pc + 2 = pc') (r : Go p e below Rest T (mkF m pc' L' S)) : Go p e below Rest T (mkF m pc L (v :: S)) := by
  obtain ⟨_, X, -, -⟩ := X; obtain ⟨hx, hby, -⟩ := C; subst hp
  exact go_by (fun t k => XS.astore X.here hx rfl (hb hby hd) rfl hv hl k) r
theorem g_astoreN (X : St p l e R s m args below meth c n0 T h cells slots) (C : Cx p s m meth c Z bytes maxL ret own nme) {k : Fin 4} {v : Value} (hd : decode bytes pc = .ok (.astore_n k, 1)) (hv : v.isRef = true) (hl : storeLocals L k.val v = some L') (hp : pc + 1 = pc') (r : Go p e below Rest T (mkF m pc' L' S)) : Go p e below Rest T (mkF m pc L (v :: S)) := by
  obtain ⟨_, X, -, -⟩ := X; obtain ⟨hx, hby, -⟩ := C; subst hp
  exact go_by (fun t k => XS.astoreN X.here hx rfl (hb hby hd) rfl hv hl k) r
theorem g_iconst (X : St p l e R s m args below meth c n0 T h cells slots) (C : Cx p s m meth c Z bytes maxL ret own nme) {i : Int} {v : Int32} (hd : decode bytes pc = .ok (.iconst i, 1)) (hv : Int32.ofInt i = v) (hp : pc + 1 = pc') (r : Go p e below Rest T (mkF m pc' L (.int v :: S))) : Go p e below Rest T (mkF m pc L S) := by
  obtain ⟨_, X, -, -⟩ := X; obtain ⟨hx, hby, -⟩ := C; subst hp hv
  exact go_by (fun t k => XS.iconst X.here hx rfl (hb hby hd) k) r
theorem g_bipush (X : St p l e R s m args below meth c n0 T h cells slots) (C : Cx p s m meth c Z bytes maxL ret own nme) {i : Int} {v : Int32} (hd : decode bytes pc = .ok (.bipush i, 2)) (hv : (Int8.ofInt i).toInt32 = v) (hp : pc + 2 = pc') (r : Go p e below Rest T (mkF m pc' L (.int v :: S))) : Go p e below Rest T (mkF m pc L S) := by
  obtain ⟨_, X, -, -⟩ := X; obtain ⟨hx, hby, -⟩ := C; subst hp hv
  exact go_by (fun t k => XS.bipush X.here hx rfl (hb hby hd) k) r
theorem g_sipush (X : St p l e R s m args below meth c n0 T h cells slots) (C : Cx p s m meth c Z bytes maxL ret own nme) {i : Int} {v : Int32} (hd : decode bytes pc = .ok (.sipush i, 3)) (hv : (Int16.ofInt i).toInt32 = v) (hp : pc + 3 = pc') (r : Go p e below Rest T (mkF m pc' L (.int v :: S))) : Go p e below Rest T (mkF m pc L S) := by
  obtain ⟨_, X, -, -⟩ := X; obtain ⟨hx, hby, -⟩ := C; subst hp hv
  exact go_by (fun t k => XS.sipush X.here hx rfl (hb hby hd) k) r
theorem g_lconst (X : St p l e R s m args below meth c n0 T h cells slots) (C : Cx p s m meth c Z bytes maxL ret own nme) {i : Fin 2} {v : Int64} (hd : decode bytes pc = .ok (.lconst i, 1)) (hv : Int64.ofNat i = v) (hp : pc + 1 = pc') (r : Go p e below Rest T (mkF m pc' L (.long v :: S))) : Go p e below Rest T (mkF m pc L S) := by
  obtain ⟨_, X, -, -⟩ := X; obtain ⟨hx, hby, -⟩ := C; subst hp hv
  exact go_by (fun t k => XS.lconst X.here hx rfl (hb hby hd) k) r
theorem g_aconst (X : St p l e R s m args below meth c n0 T h cells slots) (C : Cx p s m meth c Z bytes maxL ret own nme)  (hd : decode bytes pc = .ok (.aconst_null, 1))  (hp : pc + 1 = pc') (r : Go p e below Rest T (mkF m pc' L (.null :: S))) : Go p e below Rest T (mkF m pc L S) := by
  obtain ⟨_, X, -, -⟩ := X; obtain ⟨hx, hby, -⟩ := C; subst hp
  exact go_by (fun t k => XS.aconstNull X.here hx rfl (hb hby hd)  k) r
theorem g_iadd (X : St p l e R s m args below meth c n0 T h cells slots) (C : Cx p s m meth c Z bytes maxL ret own nme) {x y : Int32} (hd : decode bytes pc = .ok (.iadd, 1))  (hp : pc + 1 = pc') (r : Go p e below Rest T (mkF m pc' L (.int (x + y) :: S))) : Go p e below Rest T (mkF m pc L (.int y :: .int x :: S)) := by
  obtain ⟨_, X, -, -⟩ := X; obtain ⟨hx, hby, -⟩ := C; subst hp
  exact go_by (fun t k => XS.iadd X.here hx rfl (hb hby hd) rfl k) r
theorem g_ladd (X : St p l e R s m args below meth c n0 T h cells slots) (C : Cx p s m meth c Z bytes maxL ret own nme) {x y : Int64} (hd : decode bytes pc = .ok (.ladd, 1))  (hp : pc + 1 = pc') (r : Go p e below Rest T (mkF m pc' L (.long (x + y) :: S))) : Go p e below Rest T (mkF m pc L (.long y :: .long x :: S)) := by
  obtain ⟨_, X, -, -⟩ := X; obtain ⟨hx, hby, -⟩ := C; subst hp
  exact go_by (fun t k => XS.ladd X.here hx rfl (hb hby hd) rfl k) r
theorem g_isub (X : St p l e R s m args below meth c n0 T h cells slots) (C : Cx p s m meth c Z bytes maxL ret own nme) {x y : Int32} (hd : decode bytes pc = .ok (.isub, 1))  (hp : pc + 1 = pc') (r : Go p e below Rest T (mkF m pc' L (.int (x - y) :: S))) : Go p e below Rest T (mkF m pc L (.int y :: .int x :: S)) := by
  obtain ⟨_, X, -, -⟩ := X; obtain ⟨hx, hby, -⟩ := C; subst hp
  exact go_by (fun t k => XS.isub X.here hx rfl (hb hby hd) rfl k) r
theorem g_lsub (X : St p l e R s m args below meth c n0 T h cells slots) (C : Cx p s m meth c Z bytes maxL ret own nme) {x y : Int64} (hd : decode bytes pc = .ok (.lsub, 1))  (hp : pc + 1 = pc') (r : Go p e below Rest T (mkF m pc' L (.long (x - y) :: S))) : Go p e below Rest T (mkF m pc L (.long y :: .long x :: S)) := by
  obtain ⟨_, X, -, -⟩ := X; obtain ⟨hx, hby, -⟩ := C; subst hp
  exact go_by (fun t k => XS.lsub X.here hx rfl (hb hby hd) rfl k) r
theorem g_imul (X : St p l e R s m args below meth c n0 T h cells slots) (C : Cx p s m meth c Z bytes maxL ret own nme) {x y : Int32} (hd : decode bytes pc = .ok (.imul, 1))  (hp : pc + 1 = pc') (r : Go p e below Rest T (mkF m pc' L (.int (x * y) :: S))) : Go p e below Rest T (mkF m pc L (.int y :: .int x :: S)) := by
  obtain ⟨_, X, -, -⟩ := X; obtain ⟨hx, hby, -⟩ := C; subst hp
  exact go_by (fun t k => XS.imul X.here hx rfl (hb hby hd) rfl k) r
theorem g_lmul (X : St p l e R s m args below meth c n0 T h cells slots) (C : Cx p s m meth c Z bytes maxL ret own nme) {x y : Int64} (hd : decode bytes pc = .ok (.lmul, 1))  (hp : pc + 1 = pc') (r : Go p e below Rest T (mkF m pc' L (.long (x * y) :: S))) : Go p e below Rest T (mkF m pc L (.long y :: .long x :: S)) := by
  obtain ⟨_, X, -, -⟩ := X; obtain ⟨hx, hby, -⟩ := C; subst hp
  exact go_by (fun t k => XS.lmul X.here hx rfl (hb hby hd) rfl k) r
theorem g_iand (X : St p l e R s m args below meth c n0 T h cells slots) (C : Cx p s m meth c Z bytes maxL ret own nme) {x y : Int32} (hd : decode bytes pc = .ok (.iand, 1))  (hp : pc + 1 = pc') (r : Go p e below Rest T (mkF m pc' L (.int (x &&& y) :: S))) : Go p e below Rest T (mkF m pc L (.int y :: .int x :: S)) := by
  obtain ⟨_, X, -, -⟩ := X; obtain ⟨hx, hby, -⟩ := C; subst hp
  exact go_by (fun t k => XS.iand X.here hx rfl (hb hby hd) rfl k) r
theorem g_land (X : St p l e R s m args below meth c n0 T h cells slots) (C : Cx p s m meth c Z bytes maxL ret own nme) {x y : Int64} (hd : decode bytes pc = .ok (.land, 1))  (hp : pc + 1 = pc') (r : Go p e below Rest T (mkF m pc' L (.long (x &&& y) :: S))) : Go p e below Rest T (mkF m pc L (.long y :: .long x :: S)) := by
  obtain ⟨_, X, -, -⟩ := X; obtain ⟨hx, hby, -⟩ := C; subst hp
  exact go_by (fun t k => XS.land X.here hx rfl (hb hby hd) rfl k) r
theorem g_ior (X : St p l e R s m args below meth c n0 T h cells slots) (C : Cx p s m meth c Z bytes maxL ret own nme) {x y : Int32} (hd : decode bytes pc = .ok (.ior, 1))  (hp : pc + 1 = pc') (r : Go p e below Rest T (mkF m pc' L (.int (x ||| y) :: S))) : Go p e below Rest T (mkF m pc L (.int y :: .int x :: S)) := by
  obtain ⟨_, X, -, -⟩ := X; obtain ⟨hx, hby, -⟩ := C; subst hp
  exact go_by (fun t k => XS.ior X.here hx rfl (hb hby hd) rfl k) r
theorem g_lor (X : St p l e R s m args below meth c n0 T h cells slots) (C : Cx p s m meth c Z bytes maxL ret own nme) {x y : Int64} (hd : decode bytes pc = .ok (.lor, 1))  (hp : pc + 1 = pc') (r : Go p e below Rest T (mkF m pc' L (.long (x ||| y) :: S))) : Go p e below Rest T (mkF m pc L (.long y :: .long x :: S)) := by
  obtain ⟨_, X, -, -⟩ := X; obtain ⟨hx, hby, -⟩ := C; subst hp
  exact go_by (fun t k => XS.lor X.here hx rfl (hb hby hd) rfl k) r
theorem g_ixor (X : St p l e R s m args below meth c n0 T h cells slots) (C : Cx p s m meth c Z bytes maxL ret own nme) {x y : Int32} (hd : decode bytes pc = .ok (.ixor, 1))  (hp : pc + 1 = pc') (r : Go p e below Rest T (mkF m pc' L (.int (x ^^^ y) :: S))) : Go p e below Rest T (mkF m pc L (.int y :: .int x :: S)) := by
  obtain ⟨_, X, -, -⟩ := X; obtain ⟨hx, hby, -⟩ := C; subst hp
  exact go_by (fun t k => XS.ixor X.here hx rfl (hb hby hd) rfl k) r
theorem g_lxor (X : St p l e R s m args below meth c n0 T h cells slots) (C : Cx p s m meth c Z bytes maxL ret own nme) {x y : Int64} (hd : decode bytes pc = .ok (.lxor, 1))  (hp : pc + 1 = pc') (r : Go p e below Rest T (mkF m pc' L (.long (x ^^^ y) :: S))) : Go p e below Rest T (mkF m pc L (.long y :: .long x :: S)) := by
  obtain ⟨_, X, -, -⟩ := X; obtain ⟨hx, hby, -⟩ := C; subst hp
  exact go_by (fun t k => XS.lxor X.here hx rfl (hb hby hd) rfl k) r
theorem g_ishl (X : St p l e R s m args below meth c n0 T h cells slots) (C : Cx p s m meth c Z bytes maxL ret own nme) {x : Int32} {y : Int32} (hd : decode bytes pc = .ok (.ishl, 1))  (hp : pc + 1 = pc') (r : Go p e below Rest T (mkF m pc' L (.int (x <<< (y &&& 31)) :: S))) : Go p e below Rest T (mkF m pc L (.int y :: .int x :: S)) := by
  obtain ⟨_, X, -, -⟩ := X; obtain ⟨hx, hby, -⟩ := C; subst hp
  exact go_by (fun t k => XS.ishl X.here hx rfl (hb hby hd) rfl k) r
theorem g_ishr (X : St p l e R s m args below meth c n0 T h cells slots) (C : Cx p s m meth c Z bytes maxL ret own nme) {x : Int32} {y : Int32} (hd : decode bytes pc = .ok (.ishr, 1))  (hp : pc + 1 = pc') (r : Go p e below Rest T (mkF m pc' L (.int (x >>> (y &&& 31)) :: S))) : Go p e below Rest T (mkF m pc L (.int y :: .int x :: S)) := by
  obtain ⟨_, X, -, -⟩ := X; obtain ⟨hx, hby, -⟩ := C; subst hp
  exact go_by (fun t k => XS.ishr X.here hx rfl (hb hby hd) rfl k) r
theorem g_iushr (X : St p l e R s m args below meth c n0 T h cells slots) (C : Cx p s m meth c Z bytes maxL ret own nme) {x : Int32} {y : Int32} (hd : decode bytes pc = .ok (.iushr, 1))  (hp : pc + 1 = pc') (r : Go p e below Rest T (mkF m pc' L (.int ((x.toUInt32 >>> (y &&& 31).toUInt32).toInt32) :: S))) : Go p e below Rest T (mkF m pc L (.int y :: .int x :: S)) := by
  obtain ⟨_, X, -, -⟩ := X; obtain ⟨hx, hby, -⟩ := C; subst hp
  exact go_by (fun t k => XS.iushr X.here hx rfl (hb hby hd) rfl k) r
theorem g_lshl (X : St p l e R s m args below meth c n0 T h cells slots) (C : Cx p s m meth c Z bytes maxL ret own nme) {x : Int64} {y : Int32} (hd : decode bytes pc = .ok (.lshl, 1))  (hp : pc + 1 = pc') (r : Go p e below Rest T (mkF m pc' L (.long (x <<< (y &&& 0x3f).toInt64) :: S))) : Go p e below Rest T (mkF m pc L (.int y :: .long x :: S)) := by
  obtain ⟨_, X, -, -⟩ := X; obtain ⟨hx, hby, -⟩ := C; subst hp
  exact go_by (fun t k => XS.lshl X.here hx rfl (hb hby hd) rfl k) r
theorem g_lshr (X : St p l e R s m args below meth c n0 T h cells slots) (C : Cx p s m meth c Z bytes maxL ret own nme) {x : Int64} {y : Int32} (hd : decode bytes pc = .ok (.lshr, 1))  (hp : pc + 1 = pc') (r : Go p e below Rest T (mkF m pc' L (.long (x >>> (y &&& 0x3f).toInt64) :: S))) : Go p e below Rest T (mkF m pc L (.int y :: .long x :: S)) := by
  obtain ⟨_, X, -, -⟩ := X; obtain ⟨hx, hby, -⟩ := C; subst hp
  exact go_by (fun t k => XS.lshr X.here hx rfl (hb hby hd) rfl k) r
theorem g_lushr (X : St p l e R s m args below meth c n0 T h cells slots) (C : Cx p s m meth c Z bytes maxL ret own nme) {x : Int64} {y : Int32} (hd : decode bytes pc = .ok (.lushr, 1))  (hp : pc + 1 = pc') (r : Go p e below Rest T (mkF m pc' L (.long ((x.toUInt64 >>> (y &&& 0x3f).toInt64.toUInt64).toInt64) :: S))) : Go p e below Rest T (mkF m pc L (.int y :: .long x :: S)) := by
  obtain ⟨_, X, -, -⟩ := X; obtain ⟨hx, hby, -⟩ := C; subst hp
  exact go_by (fun t k => XS.lushr X.here hx rfl (hb hby hd) rfl k) r
theorem g_idiv (X : St p l e R s m args below meth c n0 T h cells slots) (C : Cx p s m meth c Z bytes maxL ret own nme) {x y : Int32} (hd : decode bytes pc = .ok (.idiv, 1)) (hy : y ≠ 0) (hp : pc + 1 = pc') (r : Go p e below Rest T (mkF m pc' L (.int (x / y) :: S))) : Go p e below Rest T (mkF m pc L (.int y :: .int x :: S)) := by
  obtain ⟨_, X, -, -⟩ := X; obtain ⟨hx, hby, -⟩ := C; subst hp
  exact go_by (fun t k => XS.idiv X.here hx rfl (hb hby hd) rfl hy k) r
theorem g_ldiv (X : St p l e R s m args below meth c n0 T h cells slots) (C : Cx p s m meth c Z bytes maxL ret own nme) {x y : Int64} (hd : decode bytes pc = .ok (.ldiv, 1)) (hy : y ≠ 0) (hp : pc + 1 = pc') (r : Go p e below Rest T (mkF m pc' L (.long (x / y) :: S))) : Go p e below Rest T (mkF m pc L (.long y :: .long x :: S)) := by
  obtain ⟨_, X, -, -⟩ := X; obtain ⟨hx, hby, -⟩ := C; subst hp
  exact go_by (fun t k => XS.ldiv X.here hx rfl (hb hby hd) rfl hy k) r
theorem g_ineg (X : St p l e R s m args below meth c n0 T h cells slots) (C : Cx p s m meth c Z bytes maxL ret own nme) {x : Int32} (hd : decode bytes pc = .ok (.ineg, 1))  (hp : pc + 1 = pc') (r : Go p e below Rest T (mkF m pc' L (.int ((-x)) :: S))) : Go p e below Rest T (mkF m pc L (.int x :: S)) := by
  obtain ⟨_, X, -, -⟩ := X; obtain ⟨hx, hby, -⟩ := C; subst hp
  exact go_by (fun t k => XS.ineg X.here hx rfl (hb hby hd) rfl k) r
theorem g_lneg (X : St p l e R s m args below meth c n0 T h cells slots) (C : Cx p s m meth c Z bytes maxL ret own nme) {x : Int64} (hd : decode bytes pc = .ok (.lneg, 1))  (hp : pc + 1 = pc') (r : Go p e below Rest T (mkF m pc' L (.long ((-x)) :: S))) : Go p e below Rest T (mkF m pc L (.long x :: S)) := by
  obtain ⟨_, X, -, -⟩ := X; obtain ⟨hx, hby, -⟩ := C; subst hp
  exact go_by (fun t k => XS.lneg X.here hx rfl (hb hby hd) rfl k) r
theorem g_i2l (X : St p l e R s m args below meth c n0 T h cells slots) (C : Cx p s m meth c Z bytes maxL ret own nme) {x : Int32} (hd : decode bytes pc = .ok (.i2l, 1))  (hp : pc + 1 = pc') (r : Go p e below Rest T (mkF m pc' L (.long (x.toInt64) :: S))) : Go p e below Rest T (mkF m pc L (.int x :: S)) := by
  obtain ⟨_, X, -, -⟩ := X; obtain ⟨hx, hby, -⟩ := C; subst hp
  exact go_by (fun t k => XS.i2l X.here hx rfl (hb hby hd) rfl k) r
theorem g_l2i (X : St p l e R s m args below meth c n0 T h cells slots) (C : Cx p s m meth c Z bytes maxL ret own nme) {x : Int64} (hd : decode bytes pc = .ok (.l2i, 1))  (hp : pc + 1 = pc') (r : Go p e below Rest T (mkF m pc' L (.int (x.toInt32) :: S))) : Go p e below Rest T (mkF m pc L (.long x :: S)) := by
  obtain ⟨_, X, -, -⟩ := X; obtain ⟨hx, hby, -⟩ := C; subst hp
  exact go_by (fun t k => XS.l2i X.here hx rfl (hb hby hd) rfl k) r
theorem g_i2b (X : St p l e R s m args below meth c n0 T h cells slots) (C : Cx p s m meth c Z bytes maxL ret own nme) {x : Int32} (hd : decode bytes pc = .ok (.i2b, 1))  (hp : pc + 1 = pc') (r : Go p e below Rest T (mkF m pc' L (.int (x.toInt8.toInt32) :: S))) : Go p e below Rest T (mkF m pc L (.int x :: S)) := by
  obtain ⟨_, X, -, -⟩ := X; obtain ⟨hx, hby, -⟩ := C; subst hp
  exact go_by (fun t k => XS.i2b X.here hx rfl (hb hby hd) rfl k) r
theorem g_i2s (X : St p l e R s m args below meth c n0 T h cells slots) (C : Cx p s m meth c Z bytes maxL ret own nme) {x : Int32} (hd : decode bytes pc = .ok (.i2s, 1))  (hp : pc + 1 = pc') (r : Go p e below Rest T (mkF m pc' L (.int (x.toInt16.toInt32) :: S))) : Go p e below Rest T (mkF m pc L (.int x :: S)) := by
  obtain ⟨_, X, -, -⟩ := X; obtain ⟨hx, hby, -⟩ := C; subst hp
  exact go_by (fun t k => XS.i2s X.here hx rfl (hb hby hd) rfl k) r
theorem g_i2c (X : St p l e R s m args below meth c n0 T h cells slots) (C : Cx p s m meth c Z bytes maxL ret own nme) {x : Int32} (hd : decode bytes pc = .ok (.i2c, 1))  (hp : pc + 1 = pc') (r : Go p e below Rest T (mkF m pc' L (.int (x.toUInt32.toUInt16.toUInt32.toInt32) :: S))) : Go p e below Rest T (mkF m pc L (.int x :: S)) := by
  obtain ⟨_, X, -, -⟩ := X; obtain ⟨hx, hby, -⟩ := C; subst hp
  exact go_by (fun t k => XS.i2c X.here hx rfl (hb hby hd) rfl k) r
theorem g_lcmp (X : St p l e R s m args below meth c n0 T h cells slots) (C : Cx p s m meth c Z bytes maxL ret own nme) {x y : Int64} (hd : decode bytes pc = .ok (.lcmp, 1))  (hp : pc + 1 = pc') (r : Go p e below Rest T (mkF m pc' L (.int (lcmpW x y) :: S))) : Go p e below Rest T (mkF m pc L (.long y :: .long x :: S)) := by
  obtain ⟨_, X, -, -⟩ := X; obtain ⟨hx, hby, -⟩ := C; subst hp
  exact go_by (fun t k => XS.lcmp X.here hx rfl (hb hby hd) rfl k) r
theorem g_dup (X : St p l e R s m args below meth c n0 T h cells slots) (C : Cx p s m meth c Z bytes maxL ret own nme) {x : Value} (hd : decode bytes pc = .ok (.dup, 1)) (hc : x.category = 1) (hp : pc + 1 = pc') (r : Go p e below Rest T (mkF m pc' L (x :: x :: S))) : Go p e below Rest T (mkF m pc L (x :: S)) := by
  obtain ⟨_, X, -, -⟩ := X; obtain ⟨hx, hby, -⟩ := C; subst hp
  exact go_by (fun t k => XS.dup X.here hx rfl (hb hby hd) rfl hc k) r
theorem g_pop (X : St p l e R s m args below meth c n0 T h cells slots) (C : Cx p s m meth c Z bytes maxL ret own nme) {x : Value} (hd : decode bytes pc = .ok (.pop, 1)) (hc : x.category = 1) (hp : pc + 1 = pc') (r : Go p e below Rest T (mkF m pc' L S)) : Go p e below Rest T (mkF m pc L (x :: S)) := by
  obtain ⟨_, X, -, -⟩ := X; obtain ⟨hx, hby, -⟩ := C; subst hp
  exact go_by (fun t k => XS.pop X.here hx rfl (hb hby hd) rfl hc k) r
theorem g_dupx1 (X : St p l e R s m args below meth c n0 T h cells slots) (C : Cx p s m meth c Z bytes maxL ret own nme) {x y : Value} (hd : decode bytes pc = .ok (.dup_x1, 1)) (hc : x.category = 1) (hc' : y.category = 1) (hp : pc + 1 = pc') (r : Go p e below Rest T (mkF m pc' L (x :: y :: x :: S))) : Go p e below Rest T (mkF m pc L (x :: y :: S)) := by
  obtain ⟨_, X, -, -⟩ := X; obtain ⟨hx, hby, -⟩ := C; subst hp
  exact go_by (fun t k => XS.dupX1 X.here hx rfl (hb hby hd) rfl hc hc' k) r
theorem g_dup2 (X : St p l e R s m args below meth c n0 T h cells slots) (C : Cx p s m meth c Z bytes maxL ret own nme) {x y : Value} (hd : decode bytes pc = .ok (.dup2, 1)) (hc : x.category = 1) (hc' : y.category = 1) (hp : pc + 1 = pc') (r : Go p e below Rest T (mkF m pc' L (x :: y :: x :: y :: S))) : Go p e below Rest T (mkF m pc L (x :: y :: S)) := by
  obtain ⟨_, X, -, -⟩ := X; obtain ⟨hx, hby, -⟩ := C; subst hp
  exact go_by (fun t k => XT.dup2 X.here hx rfl (hb hby hd) rfl hc hc' k) r
theorem g_dup2L (X : St p l e R s m args below meth c n0 T h cells slots) (C : Cx p s m meth c Z bytes maxL ret own nme) {x : Int64} (hd : decode bytes pc = .ok (.dup2, 1))  (hp : pc + 1 = pc') (r : Go p e below Rest T (mkF m pc' L (.long x :: .long x :: S))) : Go p e below Rest T (mkF m pc L (.long x :: S)) := by
  obtain ⟨_, X, -, -⟩ := X; obtain ⟨hx, hby, -⟩ := C; subst hp
  exact go_by (fun t k => XT.dup2L X.here hx rfl (hb hby hd) rfl k) r
theorem g_iinc (X : St p l e R s m args below meth c n0 T h cells slots) (C : Cx p s m meth c Z bytes maxL ret own nme) {k : Nat} {i : Int} {v v' : Int32} (hd : decode bytes pc = .ok (.iinc k i, 3)) (hl : L[k]? = some (.val (.int v))) (hv : v' = v + Int32.ofInt i) (hs : storeLocals L k (.int v') = some L') (hp : pc + 3 = pc') (r : Go p e below Rest T (mkF m pc' L' S)) : Go p e below Rest T (mkF m pc L S) := by
  obtain ⟨_, X, -, -⟩ := X; obtain ⟨hx, hby, -⟩ := C; subst hp
  exact go_by (fun t k => XS.iinc X.here hx rfl (hb hby hd) hl (hv ▸ hs) k) r
theorem g_goto (X : St p l e R s m args below meth c n0 T h cells slots) (C : Cx p s m meth c Z bytes maxL ret own nme) {o : Int} (hd : decode bytes pc = .ok (.goto o, 3)) (h0 : 0 ≤ (pc : Int) + o) (hp : ((pc : Int) + o).toNat = pc') (r : Go p e below Rest T (mkF m pc' L S)) : Go p e below Rest T (mkF m pc L S) := by
  obtain ⟨_, X, -, -⟩ := X; obtain ⟨hx, hby, -⟩ := C
  exact go_by (fun t k => XS.goto X.here hx rfl (pc0 := pc) rfl (hb hby hd) h0 hp k) r
theorem g_icmp (X : St p l e R s m args below meth c n0 T h cells slots) (C : Cx p s m meth c Z bytes maxL ret own nme) {cd : ClassFile.Cond} {o : Int} {x y : Int32} {pT pF : Nat} (hd : decode bytes pc = .ok (.if_icmp cd o, 3)) (h0 : 0 ≤ (pc : Int) + o) (hT : ((pc : Int) + o).toNat = pT) (hF : pc + 3 = pF) (r1 : if_icmp.holds cd x y = true → Go p e below Rest T (mkF m pT L S)) (r2 : if_icmp.holds cd x y = false → Go p e below Rest T (mkF m pF L S)) : Go p e below Rest T (mkF m pc L (.int y :: .int x :: S)) := by
  obtain ⟨_, X, -, -⟩ := X; obtain ⟨hx, hby, -⟩ := C
  rcases Bool.eq_false_or_eq_true (if_icmp.holds cd x y) with q | q
  · exact go_by (fun t k => XS.icmpYes X.here hx rfl (pc0 := pc) rfl (hb hby hd) rfl q h0 hT k) (r1 q)
  · subst hF; exact go_by (fun t k => XS.icmpNo X.here hx rfl (hb hby hd) rfl q k) (r2 q)
theorem g_if (X : St p l e R s m args below meth c n0 T h cells slots) (C : Cx p s m meth c Z bytes maxL ret own nme) {cd : ClassFile.Cond} {o : Int} {x : Int32} {pT pF : Nat} (hd : decode bytes pc = .ok (.ifCond cd o, 3)) (h0 : 0 ≤ (pc : Int) + o) (hT : ((pc : Int) + o).toNat = pT) (hF : pc + 3 = pF) (r1 : if_icmp.holds cd x 0 = true → Go p e below Rest T (mkF m pT L S)) (r2 : if_icmp.holds cd x 0 = false → Go p e below Rest T (mkF m pF L S)) : Go p e below Rest T (mkF m pc L (.int x :: S)) := by
  obtain ⟨_, X, -, -⟩ := X; obtain ⟨hx, hby, -⟩ := C
  rcases Bool.eq_false_or_eq_true (if_icmp.holds cd x 0) with q | q
  · exact go_by (fun t k => XS.ifYes X.here hx rfl (pc0 := pc) rfl (hb hby hd) rfl ((if0 _ _).trans q) h0 hT k) (r1 q)
  · subst hF; exact go_by (fun t k => XS.ifNo X.here hx rfl (hb hby hd) rfl ((if0 _ _).trans q) k) (r2 q)
theorem hold_lt {x y : Int32} {a b : Int} (ha : x.toInt = a) (hb' : y.toInt = b) : (if_icmp.holds .lt x y = true → a < b) ∧ (if_icmp.holds .lt x y = false → b ≤ a) := by
  subst ha hb'
  constructor <;> intro q <;> simp [if_icmp.holds, Int32.lt_iff_toInt_lt, Int32.le_iff_toInt_le, ← Int32.toInt_inj] at q <;> omega
theorem g_icmp_lt (X : St p l e R s m args below meth c n0 T h cells slots) (C : Cx p s m meth c Z bytes maxL ret own nme) {o : Int} {x y : Int32} {a b : Int} {pT pF : Nat} (hd : decode bytes pc = .ok (.if_icmp .lt o, 3)) (ha : x.toInt = a) (hb' : y.toInt = b) (h0 : 0 ≤ (pc : Int) + o) (hT : ((pc : Int) + o).toNat = pT) (hF : pc + 3 = pF) (r1 : a < b → Go p e below Rest T (mkF m pT L S)) (r2 : b ≤ a → Go p e below Rest T (mkF m pF L S)) : Go p e below Rest T (mkF m pc L (.int y :: .int x :: S)) :=
  g_icmp X C hd h0 hT hF (fun q => r1 ((hold_lt ha hb').1 q)) (fun q => r2 ((hold_lt ha hb').2 q))
theorem g_if_lt (X : St p l e R s m args below meth c n0 T h cells slots) (C : Cx p s m meth c Z bytes maxL ret own nme) {o : Int} {x : Int32} {a : Int} {pT pF : Nat} (hd : decode bytes pc = .ok (.ifCond .lt o, 3)) (ha : x.toInt = a) (h0 : 0 ≤ (pc : Int) + o) (hT : ((pc : Int) + o).toNat = pT) (hF : pc + 3 = pF) (r1 : a < 0 → Go p e below Rest T (mkF m pT L S)) (r2 : 0 ≤ a → Go p e below Rest T (mkF m pF L S)) : Go p e below Rest T (mkF m pc L (.int x :: S)) :=
  g_if X C hd h0 hT hF (fun q => r1 ((hold_lt ha (by decide)).1 q)) (fun q => r2 ((hold_lt ha (by decide)).2 q))
theorem hlc_lt {x y : Int64} {a b : Int} (ha : x.toInt = a) (hb' : y.toInt = b) : (if_icmp.holds .lt (lcmpW x y) 0 = true → a < b) ∧ (if_icmp.holds .lt (lcmpW x y) 0 = false → b ≤ a) := by
  have h1 := c_lcmp x y; subst ha hb'
  have h3 := hold_lt (x := lcmpW x y) (y := 0) rfl (b := 0) (by decide)
  refine ⟨fun q => ?_, fun q => ?_⟩
  · have := h3.1 q; omega
  · have := h3.2 q; omega
theorem g_lif_lt (X : St p l e R s m args below meth c n0 T h cells slots) (C : Cx p s m meth c Z bytes maxL ret own nme) {o : Int} {x y : Int64} {a b : Int} {pT pF : Nat} (hd : decode bytes pc = .ok (.ifCond .lt o, 3)) (ha : x.toInt = a) (hb' : y.toInt = b) (h0 : 0 ≤ (pc : Int) + o) (hT : ((pc : Int) + o).toNat = pT) (hF : pc + 3 = pF) (r1 : a < b → Go p e below Rest T (mkF m pT L S)) (r2 : b ≤ a → Go p e below Rest T (mkF m pF L S)) : Go p e below Rest T (mkF m pc L (.int (lcmpW x y) :: S)) :=
  g_if X C hd h0 hT hF (fun q => r1 ((hlc_lt ha hb').1 q)) (fun q => r2 ((hlc_lt ha hb').2 q))
theorem hold_ge {x y : Int32} {a b : Int} (ha : x.toInt = a) (hb' : y.toInt = b) : (if_icmp.holds .ge x y = true → b ≤ a) ∧ (if_icmp.holds .ge x y = false → a < b) := by
  subst ha hb'
  constructor <;> intro q <;> simp [if_icmp.holds, Int32.lt_iff_toInt_lt, Int32.le_iff_toInt_le, ← Int32.toInt_inj] at q <;> omega
theorem g_icmp_ge (X : St p l e R s m args below meth c n0 T h cells slots) (C : Cx p s m meth c Z bytes maxL ret own nme) {o : Int} {x y : Int32} {a b : Int} {pT pF : Nat} (hd : decode bytes pc = .ok (.if_icmp .ge o, 3)) (ha : x.toInt = a) (hb' : y.toInt = b) (h0 : 0 ≤ (pc : Int) + o) (hT : ((pc : Int) + o).toNat = pT) (hF : pc + 3 = pF) (r1 : b ≤ a → Go p e below Rest T (mkF m pT L S)) (r2 : a < b → Go p e below Rest T (mkF m pF L S)) : Go p e below Rest T (mkF m pc L (.int y :: .int x :: S)) :=
  g_icmp X C hd h0 hT hF (fun q => r1 ((hold_ge ha hb').1 q)) (fun q => r2 ((hold_ge ha hb').2 q))
theorem g_if_ge (X : St p l e R s m args below meth c n0 T h cells slots) (C : Cx p s m meth c Z bytes maxL ret own nme) {o : Int} {x : Int32} {a : Int} {pT pF : Nat} (hd : decode bytes pc = .ok (.ifCond .ge o, 3)) (ha : x.toInt = a) (h0 : 0 ≤ (pc : Int) + o) (hT : ((pc : Int) + o).toNat = pT) (hF : pc + 3 = pF) (r1 : 0 ≤ a → Go p e below Rest T (mkF m pT L S)) (r2 : a < 0 → Go p e below Rest T (mkF m pF L S)) : Go p e below Rest T (mkF m pc L (.int x :: S)) :=
  g_if X C hd h0 hT hF (fun q => r1 ((hold_ge ha (by decide)).1 q)) (fun q => r2 ((hold_ge ha (by decide)).2 q))
theorem hlc_ge {x y : Int64} {a b : Int} (ha : x.toInt = a) (hb' : y.toInt = b) : (if_icmp.holds .ge (lcmpW x y) 0 = true → b ≤ a) ∧ (if_icmp.holds .ge (lcmpW x y) 0 = false → a < b) := by
  have h1 := c_lcmp x y; subst ha hb'
  have h3 := hold_ge (x := lcmpW x y) (y := 0) rfl (b := 0) (by decide)
  refine ⟨fun q => ?_, fun q => ?_⟩
  · have := h3.1 q; omega
  · have := h3.2 q; omega
theorem g_lif_ge (X : St p l e R s m args below meth c n0 T h cells slots) (C : Cx p s m meth c Z bytes maxL ret own nme) {o : Int} {x y : Int64} {a b : Int} {pT pF : Nat} (hd : decode bytes pc = .ok (.ifCond .ge o, 3)) (ha : x.toInt = a) (hb' : y.toInt = b) (h0 : 0 ≤ (pc : Int) + o) (hT : ((pc : Int) + o).toNat = pT) (hF : pc + 3 = pF) (r1 : b ≤ a → Go p e below Rest T (mkF m pT L S)) (r2 : a < b → Go p e below Rest T (mkF m pF L S)) : Go p e below Rest T (mkF m pc L (.int (lcmpW x y) :: S)) :=
  g_if X C hd h0 hT hF (fun q => r1 ((hlc_ge ha hb').1 q)) (fun q => r2 ((hlc_ge ha hb').2 q))
theorem hold_gt {x y : Int32} {a b : Int} (ha : x.toInt = a) (hb' : y.toInt = b) : (if_icmp.holds .gt x y = true → b < a) ∧ (if_icmp.holds .gt x y = false → a ≤ b) := by
  subst ha hb'
  constructor <;> intro q <;> simp [if_icmp.holds, Int32.lt_iff_toInt_lt, Int32.le_iff_toInt_le, ← Int32.toInt_inj] at q <;> omega
theorem g_icmp_gt (X : St p l e R s m args below meth c n0 T h cells slots) (C : Cx p s m meth c Z bytes maxL ret own nme) {o : Int} {x y : Int32} {a b : Int} {pT pF : Nat} (hd : decode bytes pc = .ok (.if_icmp .gt o, 3)) (ha : x.toInt = a) (hb' : y.toInt = b) (h0 : 0 ≤ (pc : Int) + o) (hT : ((pc : Int) + o).toNat = pT) (hF : pc + 3 = pF) (r1 : b < a → Go p e below Rest T (mkF m pT L S)) (r2 : a ≤ b → Go p e below Rest T (mkF m pF L S)) : Go p e below Rest T (mkF m pc L (.int y :: .int x :: S)) :=
  g_icmp X C hd h0 hT hF (fun q => r1 ((hold_gt ha hb').1 q)) (fun q => r2 ((hold_gt ha hb').2 q))
theorem g_if_gt (X : St p l e R s m args below meth c n0 T h cells slots) (C : Cx p s m meth c Z bytes maxL ret own nme) {o : Int} {x : Int32} {a : Int} {pT pF : Nat} (hd : decode bytes pc = .ok (.ifCond .gt o, 3)) (ha : x.toInt = a) (h0 : 0 ≤ (pc : Int) + o) (hT : ((pc : Int) + o).toNat = pT) (hF : pc + 3 = pF) (r1 : 0 < a → Go p e below Rest T (mkF m pT L S)) (r2 : a ≤ 0 → Go p e below Rest T (mkF m pF L S)) : Go p e below Rest T (mkF m pc L (.int x :: S)) :=
  g_if X C hd h0 hT hF (fun q => r1 ((hold_gt ha (by decide)).1 q)) (fun q => r2 ((hold_gt ha (by decide)).2 q))
theorem hlc_gt {x y : Int64} {a b : Int} (ha : x.toInt = a) (hb' : y.toInt = b) : (if_icmp.holds .gt (lcmpW x y) 0 = true → b < a) ∧ (if_icmp.holds .gt (lcmpW x y) 0 = false → a ≤ b) := by
  have h1 := c_lcmp x y; subst ha hb'
  have h3 := hold_gt (x := lcmpW x y) (y := 0) rfl (b := 0) (by decide)
  refine ⟨fun q => ?_, fun q => ?_⟩
  · have := h3.1 q; omega
  · have := h3.2 q; omega
theorem g_lif_gt (X : St p l e R s m args below meth c n0 T h cells slots) (C : Cx p s m meth c Z bytes maxL ret own nme) {o : Int} {x y : Int64} {a b : Int} {pT pF : Nat} (hd : decode bytes pc = .ok (.ifCond .gt o, 3)) (ha : x.toInt = a) (hb' : y.toInt = b) (h0 : 0 ≤ (pc : Int) + o) (hT : ((pc : Int) + o).toNat = pT) (hF : pc + 3 = pF) (r1 : b < a → Go p e below Rest T (mkF m pT L S)) (r2 : a ≤ b → Go p e below Rest T (mkF m pF L S)) : Go p e below Rest T (mkF m pc L (.int (lcmpW x y) :: S)) :=
  g_if X C hd h0 hT hF (fun q => r1 ((hlc_gt ha hb').1 q)) (fun q => r2 ((hlc_gt ha hb').2 q))
theorem hold_le {x y : Int32} {a b : Int} (ha : x.toInt = a) (hb' : y.toInt = b) : (if_icmp.holds .le x y = true → a ≤ b) ∧ (if_icmp.holds .le x y = false → b < a) := by
  subst ha hb'
  constructor <;> intro q <;> simp [if_icmp.holds, Int32.lt_iff_toInt_lt, Int32.le_iff_toInt_le, ← Int32.toInt_inj] at q <;> omega
theorem g_icmp_le (X : St p l e R s m args below meth c n0 T h cells slots) (C : Cx p s m meth c Z bytes maxL ret own nme) {o : Int} {x y : Int32} {a b : Int} {pT pF : Nat} (hd : decode bytes pc = .ok (.if_icmp .le o, 3)) (ha : x.toInt = a) (hb' : y.toInt = b) (h0 : 0 ≤ (pc : Int) + o) (hT : ((pc : Int) + o).toNat = pT) (hF : pc + 3 = pF) (r1 : a ≤ b → Go p e below Rest T (mkF m pT L S)) (r2 : b < a → Go p e below Rest T (mkF m pF L S)) : Go p e below Rest T (mkF m pc L (.int y :: .int x :: S)) :=
  g_icmp X C hd h0 hT hF (fun q => r1 ((hold_le ha hb').1 q)) (fun q => r2 ((hold_le ha hb').2 q))
theorem g_if_le (X : St p l e R s m args below meth c n0 T h cells slots) (C : Cx p s m meth c Z bytes maxL ret own nme) {o : Int} {x : Int32} {a : Int} {pT pF : Nat} (hd : decode bytes pc = .ok (.ifCond .le o, 3)) (ha : x.toInt = a) (h0 : 0 ≤ (pc : Int) + o) (hT : ((pc : Int) + o).toNat = pT) (hF : pc + 3 = pF) (r1 : a ≤ 0 → Go p e below Rest T (mkF m pT L S)) (r2 : 0 < a → Go p e below Rest T (mkF m pF L S)) : Go p e below Rest T (mkF m pc L (.int x :: S)) :=
  g_if X C hd h0 hT hF (fun q => r1 ((hold_le ha (by decide)).1 q)) (fun q => r2 ((hold_le ha (by decide)).2 q))
theorem hlc_le {x y : Int64} {a b : Int} (ha : x.toInt = a) (hb' : y.toInt = b) : (if_icmp.holds .le (lcmpW x y) 0 = true → a ≤ b) ∧ (if_icmp.holds .le (lcmpW x y) 0 = false → b < a) := by
  have h1 := c_lcmp x y; subst ha hb'
  have h3 := hold_le (x := lcmpW x y) (y := 0) rfl (b := 0) (by decide)
  refine ⟨fun q => ?_, fun q => ?_⟩
  · have := h3.1 q; omega
  · have := h3.2 q; omega
theorem g_lif_le (X : St p l e R s m args below meth c n0 T h cells slots) (C : Cx p s m meth c Z bytes maxL ret own nme) {o : Int} {x y : Int64} {a b : Int} {pT pF : Nat} (hd : decode bytes pc = .ok (.ifCond .le o, 3)) (ha : x.toInt = a) (hb' : y.toInt = b) (h0 : 0 ≤ (pc : Int) + o) (hT : ((pc : Int) + o).toNat = pT) (hF : pc + 3 = pF) (r1 : a ≤ b → Go p e below Rest T (mkF m pT L S)) (r2 : b < a → Go p e below Rest T (mkF m pF L S)) : Go p e below Rest T (mkF m pc L (.int (lcmpW x y) :: S)) :=
  g_if X C hd h0 hT hF (fun q => r1 ((hlc_le ha hb').1 q)) (fun q => r2 ((hlc_le ha hb').2 q))
theorem hold_eq {x y : Int32} {a b : Int} (ha : x.toInt = a) (hb' : y.toInt = b) : (if_icmp.holds .eq x y = true → a = b) ∧ (if_icmp.holds .eq x y = false → a ≠ b) := by
  subst ha hb'
  constructor <;> intro q <;> simp [if_icmp.holds, Int32.lt_iff_toInt_lt, Int32.le_iff_toInt_le, ← Int32.toInt_inj] at q <;> omega
theorem g_icmp_eq (X : St p l e R s m args below meth c n0 T h cells slots) (C : Cx p s m meth c Z bytes maxL ret own nme) {o : Int} {x y : Int32} {a b : Int} {pT pF : Nat} (hd : decode bytes pc = .ok (.if_icmp .eq o, 3)) (ha : x.toInt = a) (hb' : y.toInt = b) (h0 : 0 ≤ (pc : Int) + o) (hT : ((pc : Int) + o).toNat = pT) (hF : pc + 3 = pF) (r1 : a = b → Go p e below Rest T (mkF m pT L S)) (r2 : a ≠ b → Go p e below Rest T (mkF m pF L S)) : Go p e below Rest T (mkF m pc L (.int y :: .int x :: S)) :=
  g_icmp X C hd h0 hT hF (fun q => r1 ((hold_eq ha hb').1 q)) (fun q => r2 ((hold_eq ha hb').2 q))
theorem g_if_eq (X : St p l e R s m args below meth c n0 T h cells slots) (C : Cx p s m meth c Z bytes maxL ret own nme) {o : Int} {x : Int32} {a : Int} {pT pF : Nat} (hd : decode bytes pc = .ok (.ifCond .eq o, 3)) (ha : x.toInt = a) (h0 : 0 ≤ (pc : Int) + o) (hT : ((pc : Int) + o).toNat = pT) (hF : pc + 3 = pF) (r1 : a = 0 → Go p e below Rest T (mkF m pT L S)) (r2 : a ≠ 0 → Go p e below Rest T (mkF m pF L S)) : Go p e below Rest T (mkF m pc L (.int x :: S)) :=
  g_if X C hd h0 hT hF (fun q => r1 ((hold_eq ha (by decide)).1 q)) (fun q => r2 ((hold_eq ha (by decide)).2 q))
theorem hlc_eq {x y : Int64} {a b : Int} (ha : x.toInt = a) (hb' : y.toInt = b) : (if_icmp.holds .eq (lcmpW x y) 0 = true → a = b) ∧ (if_icmp.holds .eq (lcmpW x y) 0 = false → a ≠ b) := by
  have h1 := c_lcmp x y; subst ha hb'
  have h3 := hold_eq (x := lcmpW x y) (y := 0) rfl (b := 0) (by decide)
  refine ⟨fun q => ?_, fun q => ?_⟩
  · have := h3.1 q; omega
  · have := h3.2 q; omega
theorem g_lif_eq (X : St p l e R s m args below meth c n0 T h cells slots) (C : Cx p s m meth c Z bytes maxL ret own nme) {o : Int} {x y : Int64} {a b : Int} {pT pF : Nat} (hd : decode bytes pc = .ok (.ifCond .eq o, 3)) (ha : x.toInt = a) (hb' : y.toInt = b) (h0 : 0 ≤ (pc : Int) + o) (hT : ((pc : Int) + o).toNat = pT) (hF : pc + 3 = pF) (r1 : a = b → Go p e below Rest T (mkF m pT L S)) (r2 : a ≠ b → Go p e below Rest T (mkF m pF L S)) : Go p e below Rest T (mkF m pc L (.int (lcmpW x y) :: S)) :=
  g_if X C hd h0 hT hF (fun q => r1 ((hlc_eq ha hb').1 q)) (fun q => r2 ((hlc_eq ha hb').2 q))
theorem hold_ne {x y : Int32} {a b : Int} (ha : x.toInt = a) (hb' : y.toInt = b) : (if_icmp.holds .ne x y = true → a ≠ b) ∧ (if_icmp.holds .ne x y = false → a = b) := by
  subst ha hb'
  constructor <;> intro q <;> simp [if_icmp.holds, Int32.lt_iff_toInt_lt, Int32.le_iff_toInt_le, ← Int32.toInt_inj] at q <;> omega
theorem g_icmp_ne (X : St p l e R s m args below meth c n0 T h cells slots) (C : Cx p s m meth c Z bytes maxL ret own nme) {o : Int} {x y : Int32} {a b : Int} {pT pF : Nat} (hd : decode bytes pc = .ok (.if_icmp .ne o, 3)) (ha : x.toInt = a) (hb' : y.toInt = b) (h0 : 0 ≤ (pc : Int) + o) (hT : ((pc : Int) + o).toNat = pT) (hF : pc + 3 = pF) (r1 : a ≠ b → Go p e below Rest T (mkF m pT L S)) (r2 : a = b → Go p e below Rest T (mkF m pF L S)) : Go p e below Rest T (mkF m pc L (.int y :: .int x :: S)) :=
  g_icmp X C hd h0 hT hF (fun q => r1 ((hold_ne ha hb').1 q)) (fun q => r2 ((hold_ne ha hb').2 q))
theorem g_if_ne (X : St p l e R s m args below meth c n0 T h cells slots) (C : Cx p s m meth c Z bytes maxL ret own nme) {o : Int} {x : Int32} {a : Int} {pT pF : Nat} (hd : decode bytes pc = .ok (.ifCond .ne o, 3)) (ha : x.toInt = a) (h0 : 0 ≤ (pc : Int) + o) (hT : ((pc : Int) + o).toNat = pT) (hF : pc + 3 = pF) (r1 : a ≠ 0 → Go p e below Rest T (mkF m pT L S)) (r2 : a = 0 → Go p e below Rest T (mkF m pF L S)) : Go p e below Rest T (mkF m pc L (.int x :: S)) :=
  g_if X C hd h0 hT hF (fun q => r1 ((hold_ne ha (by decide)).1 q)) (fun q => r2 ((hold_ne ha (by decide)).2 q))
theorem hlc_ne {x y : Int64} {a b : Int} (ha : x.toInt = a) (hb' : y.toInt = b) : (if_icmp.holds .ne (lcmpW x y) 0 = true → a ≠ b) ∧ (if_icmp.holds .ne (lcmpW x y) 0 = false → a = b) := by
  have h1 := c_lcmp x y; subst ha hb'
  have h3 := hold_ne (x := lcmpW x y) (y := 0) rfl (b := 0) (by decide)
  refine ⟨fun q => ?_, fun q => ?_⟩
  · have := h3.1 q; omega
  · have := h3.2 q; omega
theorem g_lif_ne (X : St p l e R s m args below meth c n0 T h cells slots) (C : Cx p s m meth c Z bytes maxL ret own nme) {o : Int} {x y : Int64} {a b : Int} {pT pF : Nat} (hd : decode bytes pc = .ok (.ifCond .ne o, 3)) (ha : x.toInt = a) (hb' : y.toInt = b) (h0 : 0 ≤ (pc : Int) + o) (hT : ((pc : Int) + o).toNat = pT) (hF : pc + 3 = pF) (r1 : a ≠ b → Go p e below Rest T (mkF m pT L S)) (r2 : a = b → Go p e below Rest T (mkF m pF L S)) : Go p e below Rest T (mkF m pc L (.int (lcmpW x y) :: S)) :=
  g_if X C hd h0 hT hF (fun q => r1 ((hlc_ne ha hb').1 q)) (fun q => r2 ((hlc_ne ha hb').2 q))
theorem g_nullY (X : St p l e R s m args below meth c n0 T h cells slots) (C : Cx p s m meth c Z bytes maxL ret own nme) {o : Int} {pT : Nat} (hd : decode bytes pc = .ok (.ifnull o, 3)) (h0 : 0 ≤ (pc : Int) + o) (hT : ((pc : Int) + o).toNat = pT) (r : Go p e below Rest T (mkF m pT L S)) : Go p e below Rest T (mkF m pc L (.null :: S)) := by
  obtain ⟨_, X, -, -⟩ := X; obtain ⟨hx, hby, -⟩ := C
  exact go_by (fun t k => XS.ifnullYes X.here hx rfl (pc0 := pc) rfl (hb hby hd) rfl h0 hT k) r
theorem g_nullN (X : St p l e R s m args below meth c n0 T h cells slots) (C : Cx p s m meth c Z bytes maxL ret own nme) {o : Int} {b : Addr} {pF : Nat} (hd : decode bytes pc = .ok (.ifnull o, 3)) (hF : pc + 3 = pF) (r : Go p e below Rest T (mkF m pF L S)) : Go p e below Rest T (mkF m pc L (.ref b :: S)) := by
  obtain ⟨_, X, -, -⟩ := X; obtain ⟨hx, hby, -⟩ := C; subst hF
  exact go_by (fun t k => XS.ifnullNo X.here hx rfl (hb hby hd) rfl k) r
theorem g_nonnullY (X : St p l e R s m args below meth c n0 T h cells slots) (C : Cx p s m meth c Z bytes maxL ret own nme) {o : Int} {b : Addr} {pT : Nat} (hd : decode bytes pc = .ok (.ifnonnull o, 3)) (h0 : 0 ≤ (pc : Int) + o) (hT : ((pc : Int) + o).toNat = pT) (r : Go p e below Rest T (mkF m pT L S)) : Go p e below Rest T (mkF m pc L (.ref b :: S)) := by
  obtain ⟨_, X, -, -⟩ := X; obtain ⟨hx, hby, -⟩ := C
  exact go_by (fun t k => XS.ifnonnullYes X.here hx rfl (pc0 := pc) rfl (hb hby hd) rfl h0 hT k) r
theorem g_nonnullN (X : St p l e R s m args below meth c n0 T h cells slots) (C : Cx p s m meth c Z bytes maxL ret own nme) {o : Int} {pF : Nat} (hd : decode bytes pc = .ok (.ifnonnull o, 3)) (hF : pc + 3 = pF) (r : Go p e below Rest T (mkF m pF L S)) : Go p e below Rest T (mkF m pc L (.null :: S)) := by
  obtain ⟨_, X, -, -⟩ := X; obtain ⟨hx, hby, -⟩ := C; subst hF
  exact go_by (fun t k => XS.ifnonnullNo X.here hx rfl (hb hby hd) rfl k) r
theorem g_irem (X : St p l e R s m args below meth c n0 T h cells slots) (C : Cx p s m meth c Z bytes maxL ret own nme) {x y : Int32} (hd : decode bytes pc = .ok (.irem, 1)) (hy : y ≠ 0) (hp : pc + 1 = pc') (r : Go p e below Rest T (mkF m pc' L (.int (x % y) :: S))) : Go p e below Rest T (mkF m pc L (.int y :: .int x :: S)) := by
  obtain ⟨_, X, -, -⟩ := X; obtain ⟨hx, hby, -⟩ := C; subst hp
  exact go_by (fun t k => iremM X hx rfl (hb hby hd) rfl hy k) r
theorem g_lrem (X : St p l e R s m args below meth c n0 T h cells slots) (C : Cx p s m meth c Z bytes maxL ret own nme) {x y : Int64} (hd : decode bytes pc = .ok (.lrem, 1)) (hy : y ≠ 0) (hp : pc + 1 = pc') (r : Go p e below Rest T (mkF m pc' L (.long (x % y) :: S))) : Go p e below Rest T (mkF m pc L (.long y :: .long x :: S)) := by
  obtain ⟨_, X, -, -⟩ := X; obtain ⟨hx, hby, -⟩ := C; subst hp
  rw [← lrem_mod] at r
  exact go_by (fun t k => XS.lrem X.here hx rfl (hb hby hd) rfl hy k) r
theorem g_ldcI (X : St p l e R s m args below meth c n0 T h cells slots) (C : Cx p s m meth c Z bytes maxL ret own nme) {index : Nat} {v : Int32} (w : (Jvm.Cond.constant own index v).before a0 Z = true) (hd : decode bytes pc = .ok (.ldc index, 2)) (hp : pc + 2 = pc') (r : Go p e below Rest T (mkF m pc' L (.int v :: S))) : Go p e below Rest T (mkF m pc L S) := by
  obtain ⟨_, X, -, -⟩ := X; obtain ⟨hx, hby, -, -, -, hown, -, hZ⟩ := C; subst hp
  exact go_by (X.ldcInt hx hown (mvT hZ w) (g := mkF m pc L S) rfl (hb hby hd)) r
theorem g_ldcJ (X : St p l e R s m args below meth c n0 T h cells slots) (C : Cx p s m meth c Z bytes maxL ret own nme) {index : Nat} {v : Int64} (w : (Jvm.Cond.constantLong own index v).before a0 Z = true) (hd : decode bytes pc = .ok (.ldc2_w index, 3)) (hp : pc + 3 = pc') (r : Go p e below Rest T (mkF m pc' L (.long v :: S))) : Go p e below Rest T (mkF m pc L S) := by
  obtain ⟨_, X, -, -⟩ := X; obtain ⟨hx, hby, -, -, -, hown, -, hZ⟩ := C; subst hp
  exact go_by (X.ldc2Long hx hown (mvT hZ w) (g := mkF m pc L S) rfl (hb hby hd)) r
/-- an array: its kind, its length, what each place holds -/
def Ar (Z : State) (h : Heap) (a : Addr) (ty : FieldType) (n : Nat) (fn : Nat → Value) : Prop := ∃ cl : Cell, Arr Z h a cl ty ∧ cl.slots.size = n ∧ ∀ j, j < n → cl.slots[j]? = some (fn j)
theorem Ar.lt {a : Addr} {ty : FieldType} {n : Nat} {fn : Nat → Value} (A : Ar Z h a ty n fn) : a < h.size := by obtain ⟨_, A, -⟩ := A; exact A.lt
theorem Ar.keep {a : Addr} {ty : FieldType} {n : Nat} {fn : Nat → Value} {ws : List Addr} (A : Ar Z h a ty n fn) (K : Keep h h' ws) (q : a ∉ ws) : Ar Z h' a ty n fn := by
  obtain ⟨cl, A, r⟩ := A; exact ⟨cl, ⟨K.2.1 a cl A.1 q, A.2⟩, r⟩
theorem Ar.congr {a : Addr} {ty : FieldType} {n : Nat} {fn gn : Nat → Value} (A : Ar Z h a ty n fn) (q : ∀ j, j < n → fn j = gn j) : Ar Z h a ty n gn := by
  obtain ⟨cl, A, r1, r2⟩ := A; exact ⟨cl, A, r1, fun j hj => by rw [r2 j hj, q j hj]⟩
theorem Ar.set {a : Addr} {ty : FieldType} {n i : Nat} {fn : Nat → Value} {v : Value} (A : Ar Z h a ty n fn) (hi : i < n) (W : Wr h h' a i v) : Ar Z h' a ty n (fun k => if k = i then v else fn k) := by
  obtain ⟨cl, A, r1, r2⟩ := A
  refine ⟨_, A.same W, by rw [sz_set]; exact r1, fun j hj => ?_⟩
  by_cases q : j = i
  · subst q; simp [Cell.setSlot, Array.getElem?_setIfInBounds, r1, hi]
  · have := r2 j hj; simp [Cell.setSlot, Array.getElem?_setIfInBounds, q, Ne.symm q, this]
theorem keepE (E : Ext h h') : Keep h h' [] := (Keep.refl _ _).ext E
theorem keepE' {ws : List Addr} (E : Ext h h') : Keep h h' ws := (Keep.refl _ _).ext E
theorem nneg {z : Int32} {n : Nat} (hz : z.toInt = n) : ¬ z < 0 := by
  rw [Int32.lt_iff_toInt_lt, hz]; have : (0 : Int32).toInt = 0 := by decide
  omega
theorem addn {x y : Int32} {i k : Nat} (hx : x.toInt = i) (hy : y.toInt = k) (hb : i + k < 2147483648) : (x + y).toInt = (i + k : Nat) := by
  have g1 := c_iadd x y; have g2 := rng32 (x + y); omega
theorem clamp_of {j : Int32} {i : Nat} (hi : j.toInt = i) : j.toNatClampNeg = i := by
  rw [Int32.toNatClampNeg, hi]; simp
theorem inb {j : Int32} {i n : Nat} {cl : Cell} (hi : j.toInt = i) (hlt : i < n) (hs : cl.slots.size = n) : ¬ (j < 0 ∨ cl.slots.size ≤ j.toNatClampNeg) := by
  rw [clamp_of hi, hs]
  rintro (q | q)
  · rw [Int32.lt_iff_toInt_lt, hi] at q; have : (0 : Int32).toInt = 0 := by decide
    omega
  · omega
def Ob (Z : State) (h : Heap) (a : Addr) (K : String) (NS : List (String × String)) (vs : List Value) : Prop := Exa Z h a K ∧ ∀ (i : Nat) (n d : String) (v : Value), NS[i]? = some (n, d) → vs[i]? = some v → Fld Z h a K n d v
def CF (Z : State) (a0 : Array Value) (K : String) (NS : List (String × String)) (k : Nat) : Prop := (NS.map (·.1)).Nodup ∧ (∀ x ∈ NS, Laid Z a0 K K x.1 x.2 ∧ (parseFieldDescriptor x.2).isSome = true) ∧ (Jvm.Cond.instantiable K k).before a0 Z = true
theorem Ob.lt {a : Addr} {K : String} {NS : List (String × String)} {vs : List Value} (O : Ob Z h a K NS vs) : a < h.size := O.1.lt
theorem Ob.keep {a : Addr} {K : String} {NS : List (String × String)} {vs : List Value} {ws : List Addr} (O : Ob Z h a K NS vs) (K' : Keep h h' ws) (q : a ∉ ws) : Ob Z h' a K NS vs := ⟨O.1.keep K', fun i n d v h1 h2 => (O.2 i n d v h1 h2).keep K' q⟩
theorem Ob.put {a : Addr} {K : String} {NS : List (String × String)} {vs vs' : List Value} {k i : Nat} {n d : String} {v old : Value} (O : Ob Z h a K NS vs) (F : CF Z a0 K NS k) (hN : NS[i]? = some (n, d)) (ho : vs[i]? = some old) (hvs : vs.set i v = vs') (W : Wr h h' a (Jvm.RoadKit.slotOf Z K n d) v) : Ob Z h' a K NS vs' := by
  subst hvs
  refine ⟨O.1.wr W, fun j n' d' w h1 h2 => ?_⟩
  by_cases q : j = i
  · subst q
    rw [hN] at h1; obtain ⟨rfl, rfl⟩ := Prod.mk.inj (Option.some.inj h1)
    rw [List.getElem?_set_self (by exact (List.getElem?_eq_some_iff.mp ho).1)] at h2
    obtain rfl := Option.some.inj h2
    exact (O.2 _ _ _ _ hN ho).same W
  · rw [List.getElem?_set_ne (Ne.symm q)] at h2
    have hne : n' ≠ n := by
      intro e
      have h3 : (NS.map (·.1))[j]? = some n' := by rw [List.getElem?_map, h1]; rfl
      have h4 : (NS.map (·.1))[i]? = some n := by rw [List.getElem?_map, hN]; rfl
      obtain ⟨l1, e1⟩ := List.getElem?_eq_some_iff.mp h3
      obtain ⟨l2, e2⟩ := List.getElem?_eq_some_iff.mp h4
      rcases Nat.lt_or_gt_of_ne q with u | u
      · exact (List.pairwise_iff_getElem.mp F.1) j i l1 l2 u (by rw [e1, e2, e])
      · exact (List.pairwise_iff_getElem.mp F.1) i j l2 l1 u (by rw [e1, e2, e])
    obtain ⟨p1, p2⟩ := F.2.1 _ (List.mem_of_getElem? h1)
    obtain ⟨p3, p4⟩ := F.2.1 _ (List.mem_of_getElem? hN)
    obtain ⟨t1, q1⟩ := Option.isSome_iff_exists.mp p2
    obtain ⟨t2, q2⟩ := Option.isSome_iff_exists.mp p4
    exact (O.2 _ _ _ _ h1 h2).other W (Or.inr (slot_ne p1 p3 hne q1 q2))
theorem g_getO (X : St p l e R s m args below meth c n0 T h cells slots) (C : Cx p s m meth c Z bytes maxL ret own nme) {a : Addr} {K n d host : String} {NS : List (String × String)} {vs : List Value} {i index : Nat} {v : Value} (O : Ob Z h a K NS vs) (hN : NS[i]? = some (n, d)) (hv : vs[i]? = some v) (w : (Jvm.Cond.fieldLink own index K n d).before a0 Z = true ∨ (Jvm.Cond.fieldLinkNest own index K n d host).before a0 Z = true) (hd : decode bytes pc = .ok (.getfield index, 3)) (hp : pc + 3 = pc') (r : ∀ T', St p l e R s m args below meth c n0 T' h cells slots → Go p e below Rest T' (mkF m pc' L (v :: S))) : Go p e below Rest T (mkF m pc L (.ref a :: S)) := by
  obtain ⟨locs, X, N, eT⟩ := X; obtain ⟨hx, hby, -, -, -, hown, -, hZ⟩ := C; subst hp
  obtain ⟨T', X', e', st⟩ := getF X hx hZ hown w Via.refl eT (O.2 _ _ _ _ hN hv) (g := mkF m pc L (.ref a :: S)) rfl rfl (hb hby hd)
  exact go_by st (r T' ⟨locs, X', N, e'⟩)
theorem g_putO (X : St p l e R s m args below meth c n0 T h cells slots) (C : Cx p s m meth c Z bytes maxL ret own nme) {a : Addr} {K n d host : String} {NS : List (String × String)} {vs vs' : List Value} {i k index : Nat} {v old : Value} {ty : FieldType} (O : Ob Z h a K NS vs) (F : CF Z a0 K NS k) (hN : NS[i]? = some (n, d)) (ho : vs[i]? = some old) (hvs : vs.set i v = vs') (ga : n0 ≤ a) (w : (Jvm.Cond.fieldLink own index K n d).before a0 Z = true ∨ (Jvm.Cond.fieldLinkNest own index K n d host).before a0 Z = true) (Ly : (Jvm.Cond.lays K K n d).before a0 Z = true ∨ ((Jvm.Cond.laysFinal K K n d).before a0 Z = true ∧ own = K ∧ nme = "<init>")) (hty : parseFieldDescriptor d = some ty) (hn : narrow ty v = v) (hf : fits ty v = true) (hd : decode bytes pc = .ok (.putfield index, 3)) (hp : pc + 3 = pc') (r : ∀ T' h', St p l e R s m args below meth c n0 T' h' cells slots → Ob Z h' a K NS vs' → Keep h h' [a] → Go p e below Rest T' (mkF m pc' L S)) : Go p e below Rest T (mkF m pc L (v :: .ref a :: S)) := by
  obtain ⟨locs, X, N, eT⟩ := X; obtain ⟨hx, hby, -, -, -, hown, hnm, hZ⟩ := C; subst hp
  obtain ⟨T', h', X', e', W, st⟩ := putF X hx hZ hown w Via.refl eT (O.2 _ _ _ _ hN ho) O.1 (Ly.imp id fun q => ⟨q.1, q.2.1, by rw [hnm]; exact q.2.2⟩) F.2.2 hty hn hf (g := mkF m pc L (v :: .ref a :: S)) rfl rfl (hb hby hd)
  exact go_by st (r T' h' ⟨_, X', Fr.snoc X' N ga, e'⟩ (O.put F hN ho hvs W) (Keep.of_wr W))
theorem g_putN (X : St p l e R s m args below meth c n0 T h cells slots) (C : Cx p s m meth c Z bytes maxL ret own nme) {a : Addr} {K n d : String} {NS : List (String × String)} {vs vs' : List Value} {i k index : Nat} {v v' old : Value} {ty : FieldType} (O : Ob Z h a K NS vs) (F : CF Z a0 K NS k) (hN : NS[i]? = some (n, d)) (ho : vs[i]? = some old) (hvs : vs.set i v' = vs') (ga : n0 ≤ a) (w : (Jvm.Cond.fieldLink own index K n d).before a0 Z = true) (Ly : (Jvm.Cond.lays K K n d).before a0 Z = true ∨ ((Jvm.Cond.laysFinal K K n d).before a0 Z = true ∧ own = K ∧ nme = "<init>")) (hty : parseFieldDescriptor d = some ty) (hn : narrow ty v = v') (hf : fits ty v' = true) (hd : decode bytes pc = .ok (.putfield index, 3)) (hp : pc + 3 = pc') (r : ∀ T' h', St p l e R s m args below meth c n0 T' h' cells slots → Ob Z h' a K NS vs' → Keep h h' [a] → Go p e below Rest T' (mkF m pc' L S)) : Go p e below Rest T (mkF m pc L (v :: .ref a :: S)) := by
  obtain ⟨locs, X, N, eT⟩ := X; obtain ⟨hx, hby, -, -, -, hown, hnm, hZ⟩ := C; subst hp
  obtain ⟨T', h', X', e', W, st⟩ := putFN X hx hZ hown w Via.refl eT (O.2 _ _ _ _ hN ho) O.1 (Ly.imp id fun q => ⟨q.1, q.2.1, by rw [hnm]; exact q.2.2⟩) F.2.2 hty hn hf (g := mkF m pc L (v :: .ref a :: S)) rfl rfl (hb hby hd)
  exact go_by st (r T' h' ⟨_, X', Fr.snoc X' N ga, e'⟩ (O.put F hN ho hvs W) (Keep.of_wr W))
def NE (a b : Addr) : Prop := a ≠ b
def Lo (n a : Nat) : Prop := n ≤ a
def Sz (b : Addr) (h : Heap) : Prop := b = h.size
theorem NE.symm {a b : Addr} (q : NE a b) : NE b a := Ne.symm q
theorem Sz.ne {a b : Addr} (q : Sz b h) (r : a < h.size) : NE a b := Nat.ne_of_lt (by rw [show b = h.size from q]; exact r)
theorem Sz.lo {b : Addr} {n : Nat} (q : Sz b h) (r : Lo n h.size) : Lo n b := by rw [show b = h.size from q]; exact r
theorem Lo.keep {n : Nat} {ws : List Addr} (q : Lo n h.size) (K : Keep h h' ws) : Lo n h'.size := Nat.le_trans q K.1
theorem Lo.ne {a b : Addr} (q : Lo h.size b) (r : a < h.size) : NE a b := Nat.ne_of_lt (Nat.lt_of_lt_of_le r q)
theorem lone {a b : Addr} (r : a < h.size) (q : Lo h.size b) : NE a b := Nat.ne_of_lt (Nat.lt_of_lt_of_le r q)
theorem Lo.tr {a b c : Nat} (p : Lo a b) (q : Lo b c) : Lo a c := Nat.le_trans p q
theorem Lo.kt {a : Addr} {h0 : Heap} {ws : List Addr} (K : Keep h0 h ws) (q : Lo h.size a) : Lo h0.size a := Nat.le_trans K.1 q
theorem ninN {x y : Addr} {L : List Addr} (q : NE x y) (r : x ∉ L) : x ∉ y :: L := ninS q r
def dflt (d : String) : Value := match parseFieldDescriptor d with | some ty => defaultValue ty | none => .null
theorem g_newO (X : St p l e R s m args below meth c n0 T h cells slots) (C : Cx p s m meth c Z bytes maxL ret own nme) {K : String} {NS : List (String × String)} {vs : List Value} {index k : Nat} (w : (Jvm.Cond.classLink own index K).before a0 Z = true) (F : CF Z a0 K NS k) (wz : (Jvm.Cond.initialized K).before a0 Z = true) (hvs : NS.map (fun x => dflt x.2) = vs) (hc : cells + 1 ≤ R.cells) (hl : slots + k ≤ R.slots) (hd : decode bytes pc = .ok (.new index, 3)) (hp : pc + 3 = pc') (r : ∀ T' h' b, Sz b h → St p l e R s m args below meth c n0 T' h' (cells + 1) (slots + k) → Ob Z h' b K NS vs → Keep h h' [] → Go p e below Rest T' (mkF m pc' L (.ref b :: S))) : Go p e below Rest T (mkF m pc L S) := by
  obtain ⟨locs, X, N, eT⟩ := X; obtain ⟨hx, hby, -, -, -, hown, hnm, hZ⟩ := C; subst hp hvs
  obtain ⟨T', h', X', e', E, A, D, -, st⟩ := newO X hx hZ hown w F.2.2 wz eT (g := mkF m pc L S) rfl (hb hby hd) hc hl
  refine go_by st (r T' h' _ rfl ⟨_, X', N, e'⟩ ⟨A, fun i n d v h1 h2 => ?_⟩ (keepE E))
  obtain ⟨p1, p2⟩ := F.2.1 _ (List.mem_of_getElem? h1)
  obtain ⟨t1, q1⟩ := Option.isSome_iff_exists.mp p2
  rw [List.getElem?_map, h1] at h2
  obtain rfl := Option.some.inj h2
  have := D p1 q1
  simp only [dflt, q1]
  exact this
theorem g_newarr (X : St p l e R s m args below meth c n0 T h cells slots) (C : Cx p s m meth c Z bytes maxL ret own nme) {aty : ArrayType} {z : Int32} {n cap : Nat} (w : (Jvm.Cond.arrayClass (newarray.typeOf aty)).before a0 Z = true) (hz : z.toInt = n) (hcap : n ≤ cap) (hcb : cap * 8 ≤ 536870912) (hc : cells + 1 ≤ R.cells) (hl : slots + cap ≤ R.slots) (hd : decode bytes pc = .ok (.newarray aty, 2)) (hp : pc + 2 = pc') (r : ∀ T' h' b, Sz b h → St p l e R s m args below meth c n0 T' h' (cells + 1) (slots + cap) → Ar Z h' b (newarray.typeOf aty) n (fun _ => defaultValue (newarray.typeOf aty)) → Keep h h' [] → Go p e below Rest T' (mkF m pc' L (.ref b :: S))) : Go p e below Rest T (mkF m pc L (.int z :: S)) := by
  obtain ⟨locs, X, N, eT⟩ := X; obtain ⟨hx, hby, -, -, -, hown, hnm, hZ⟩ := C; subst hp
  have hneg : ¬ z < 0 := nneg hz
  obtain ⟨T', h', cA, X', e', E, A, st⟩ := newP X hx hZ w eT (g := mkF m pc L (.int z :: S)) rfl (hb hby hd) rfl hneg (cap := cap) (by rw [clamp_of hz]; exact hcap) hcb hc hl
  refine go_by st (r T' h' _ rfl ⟨_, X', N, e'⟩ ⟨_, A, by rw [sz_new, clamp_of hz], fun j hj => ?_⟩ (keepE E))
  simp [newA, clamp_of hz, hj]
def ArR (Z : State) (h : Heap) (a : Addr) (K : String) (n : Nat) (fn : Nat → Value) : Prop := ∃ cl : Cell, Arr Z h a cl (.object K) ∧ Ovr Z cl.cls K ∧ cl.slots.size = n ∧ ∀ j, j < n → cl.slots[j]? = some (fn j)
theorem ArR.lt {a : Addr} {K : String} {n : Nat} {fn : Nat → Value} (A : ArR Z h a K n fn) : a < h.size := by obtain ⟨_, A, -⟩ := A; exact A.lt
theorem ArR.keep {a : Addr} {K : String} {n : Nat} {fn : Nat → Value} {ws : List Addr} (A : ArR Z h a K n fn) (K' : Keep h h' ws) (q : a ∉ ws) : ArR Z h' a K n fn := by
  obtain ⟨cl, A, r⟩ := A; exact ⟨cl, ⟨K'.2.1 a cl A.1 q, A.2⟩, r⟩
theorem g_newR (X : St p l e R s m args below meth c n0 T h cells slots) (C : Cx p s m meth c Z bytes maxL ret own nme) {K : String} {index : Nat} {z : Int32} {n cap : Nat} (w1 : (Jvm.Cond.classLink own index K).before a0 Z = true) (w2 : (Jvm.Cond.arrayOver (.object K)).before a0 Z = true) (hz : z.toInt = n) (hcap : n ≤ cap) (hcb : cap * 8 ≤ 536870912) (hc : cells + 1 ≤ R.cells) (hl : slots + cap ≤ R.slots) (hd : decode bytes pc = .ok (.anewarray index, 3)) (hp : pc + 3 = pc') (r : ∀ T' h' b, Sz b h → St p l e R s m args below meth c n0 T' h' (cells + 1) (slots + cap) → ArR Z h' b K n (fun _ => .null) → Keep h h' [] → Go p e below Rest T' (mkF m pc' L (.ref b :: S))) : Go p e below Rest T (mkF m pc L (.int z :: S)) := by
  obtain ⟨locs, X, N, eT⟩ := X; obtain ⟨hx, hby, -, -, -, hown, hnm, hZ⟩ := C; subst hp
  have hneg : ¬ z < 0 := nneg hz
  obtain ⟨T', h', cA, X', e', E, A, Ov, st⟩ := newR X hx hZ hown w1 w2 eT (g := mkF m pc L (.int z :: S)) rfl (hb hby hd) rfl hneg (cap := cap) (by rw [clamp_of hz]; exact hcap) hcb hc hl
  refine go_by st (r T' h' _ rfl ⟨_, X', N, e'⟩ ⟨_, A, Ov, by rw [sz_new, clamp_of hz], fun j hj => ?_⟩ (keepE E))
  simp [newA, clamp_of hz, hj, defaultValue]
theorem g_arrlen (X : St p l e R s m args below meth c n0 T h cells slots) (C : Cx p s m meth c Z bytes maxL ret own nme) {a : Addr} {ty : FieldType} {n : Nat} {fn : Nat → Value} {z : Int32} (A : Ar Z h a ty n fn) (hz : n.toInt32 = z) (hd : decode bytes pc = .ok (.arraylength, 1)) (hp : pc + 1 = pc') (r : Go p e below Rest T (mkF m pc' L (.int z :: S))) : Go p e below Rest T (mkF m pc L (.ref a :: S)) := by
  obtain ⟨locs, X, N, eT⟩ := X; obtain ⟨hx, hby, -, -, -, hown, hnm, hZ⟩ := C; subst hp hz
  obtain ⟨cl, A, r1, r2⟩ := A; subst r1
  exact go_by (fun t k => X.arraylength hx (by rw [eT]; exact A.1) (State.isArrayOf_alike hZ.alike A.2.1) (g := mkF m pc L (.ref a :: S)) rfl rfl (hb hby hd) t k) r
theorem g_iaload (X : St p l e R s m args below meth c n0 T h cells slots) (C : Cx p s m meth c Z bytes maxL ret own nme) {a : Addr} {n i : Nat} {fn : Nat → Value} {j : Int32} {v : Value} (A : Ar Z h a .int n fn) (hi : j.toInt = i) (hlt : i < n) (hv : fn i = v) (hd : decode bytes pc = .ok (.iaload, 1)) (hp : pc + 1 = pc') (r : Go p e below Rest T (mkF m pc' L (v :: S))) : Go p e below Rest T (mkF m pc L (.int j :: .ref a :: S)) := by
  obtain ⟨locs, X, N, eT⟩ := X; obtain ⟨hx, hby, -, -, -, hown, hnm, hZ⟩ := C; subst hp hv
  obtain ⟨cl, A, r1, r2⟩ := A
  exact go_by (fun t k => X.iaload hx (j := j) (by rw [eT]; exact A.1) (State.isArrayOf_alike hZ.alike A.2.1) A.2.2 (inb hi hlt r1) (by rw [clamp_of hi]; exact r2 i hlt) (g := mkF m pc L (.int j :: .ref a :: S)) rfl rfl (hb hby hd) t k) r
theorem g_laload (X : St p l e R s m args below meth c n0 T h cells slots) (C : Cx p s m meth c Z bytes maxL ret own nme) {a : Addr} {n i : Nat} {fn : Nat → Value} {j : Int32} {v : Value} (A : Ar Z h a .long n fn) (hi : j.toInt = i) (hlt : i < n) (hv : fn i = v) (hd : decode bytes pc = .ok (.laload, 1)) (hp : pc + 1 = pc') (r : Go p e below Rest T (mkF m pc' L (v :: S))) : Go p e below Rest T (mkF m pc L (.int j :: .ref a :: S)) := by
  obtain ⟨locs, X, N, eT⟩ := X; obtain ⟨hx, hby, -, -, -, hown, hnm, hZ⟩ := C; subst hp hv
  obtain ⟨cl, A, r1, r2⟩ := A
  exact go_by (fun t k => X.laload hx (j := j) (by rw [eT]; exact A.1) (State.isArrayOf_alike hZ.alike A.2.1) A.2.2 (inb hi hlt r1) (by rw [clamp_of hi]; exact r2 i hlt) (g := mkF m pc L (.int j :: .ref a :: S)) rfl rfl (hb hby hd) t k) r
theorem g_baloadB (X : St p l e R s m args below meth c n0 T h cells slots) (C : Cx p s m meth c Z bytes maxL ret own nme) {a : Addr} {n i : Nat} {fn : Nat → Value} {j : Int32} {v : Value} (A : Ar Z h a .byte n fn) (hi : j.toInt = i) (hlt : i < n) (hv : fn i = v) (hd : decode bytes pc = .ok (.baload, 1)) (hp : pc + 1 = pc') (r : Go p e below Rest T (mkF m pc' L (v :: S))) : Go p e below Rest T (mkF m pc L (.int j :: .ref a :: S)) := by
  obtain ⟨locs, X, N, eT⟩ := X; obtain ⟨hx, hby, -, -, -, hown, hnm, hZ⟩ := C; subst hp hv
  obtain ⟨cl, A, r1, r2⟩ := A
  exact go_by (fun t k => X.baloadBytes hx (j := j) (by rw [eT]; exact A.1) (State.isArrayOf_alike hZ.alike A.2.1) A.2.2 (inb hi hlt r1) (by rw [clamp_of hi]; exact r2 i hlt) (g := mkF m pc L (.int j :: .ref a :: S)) rfl rfl (hb hby hd) t k) r
theorem g_baloadZ (X : St p l e R s m args below meth c n0 T h cells slots) (C : Cx p s m meth c Z bytes maxL ret own nme) {a : Addr} {n i : Nat} {fn : Nat → Value} {j : Int32} {v : Value} (A : Ar Z h a .boolean n fn) (hi : j.toInt = i) (hlt : i < n) (hv : fn i = v) (hd : decode bytes pc = .ok (.baload, 1)) (hp : pc + 1 = pc') (r : Go p e below Rest T (mkF m pc' L (v :: S))) : Go p e below Rest T (mkF m pc L (.int j :: .ref a :: S)) := by
  obtain ⟨locs, X, N, eT⟩ := X; obtain ⟨hx, hby, -, -, -, hown, hnm, hZ⟩ := C; subst hp hv
  obtain ⟨cl, A, r1, r2⟩ := A
  exact go_by (fun t k => X.baloadBooleans hx (j := j) (by rw [eT]; exact A.1) (State.isArrayOf_alike hZ.alike A.2.1) A.2.2 (inb hi hlt r1) (by rw [clamp_of hi]; exact r2 i hlt) (g := mkF m pc L (.int j :: .ref a :: S)) rfl rfl (hb hby hd) t k) r
theorem g_aaload (X : St p l e R s m args below meth c n0 T h cells slots) (C : Cx p s m meth c Z bytes maxL ret own nme) {a : Addr} {n i : Nat} {K : String} {fn : Nat → Value} {j : Int32} {v : Value} (A : ArR Z h a K n fn) (hi : j.toInt = i) (hlt : i < n) (hv : fn i = v) (hd : decode bytes pc = .ok (.aaload, 1)) (hp : pc + 1 = pc') (r : Go p e below Rest T (mkF m pc' L (v :: S))) : Go p e below Rest T (mkF m pc L (.int j :: .ref a :: S)) := by
  obtain ⟨locs, X, N, eT⟩ := X; obtain ⟨hx, hby, -, -, -, hown, hnm, hZ⟩ := C; subst hp hv
  obtain ⟨cl, A, -, r1, r2⟩ := A
  exact go_by (fun t k => X.aaload hx (j := j) (by rw [eT]; exact A.1) (State.isArrayOf_alike hZ.alike A.2.1) rfl A.2.2 (inb hi hlt r1) (by rw [clamp_of hi]; exact r2 i hlt) (g := mkF m pc L (.int j :: .ref a :: S)) rfl rfl (hb hby hd) t k) r
theorem g_iastore (X : St p l e R s m args below meth c n0 T h cells slots) (C : Cx p s m meth c Z bytes maxL ret own nme) {a : Addr} {n i : Nat} {fn : Nat → Int32} {j : Int32} {x : Int32} (A : Ar Z h a .int n (fun k => .int (fn k))) (hi : j.toInt = i) (hlt : i < n) (ga : n0 ≤ a) (hd : decode bytes pc = .ok (.iastore, 1)) (hp : pc + 1 = pc') (r : ∀ T' h', St p l e R s m args below meth c n0 T' h' cells slots → Ar Z h' a .int n (fun k => .int (if k = i then x else fn k)) → Keep h h' [a] → Go p e below Rest T' (mkF m pc' L S)) : Go p e below Rest T (mkF m pc L (.int x :: .int j :: .ref a :: S)) := by
  obtain ⟨locs, X, N, eT⟩ := X; obtain ⟨hx, hby, -, -, -, hown, hnm, hZ⟩ := C; subst hp
  have A0 := A
  obtain ⟨cl, A, r1, r2⟩ := A
  obtain ⟨T', h', X', e', W, st⟩ := stI X hx hZ eT A (j := j) (inb hi hlt r1) (g := mkF m pc L (.int x :: .int j :: .ref a :: S)) rfl rfl (hb hby hd)
  rw [clamp_of hi] at W
  exact go_by st (r T' h' ⟨_, X', Fr.snoc X' N ga, e'⟩ ((A0.set hlt W).congr (fun k hk => by (try dsimp only); split <;> rfl)) (Keep.of_wr W))
theorem g_lastore (X : St p l e R s m args below meth c n0 T h cells slots) (C : Cx p s m meth c Z bytes maxL ret own nme) {a : Addr} {n i : Nat} {fn : Nat → Int64} {j : Int32} {x : Int64} (A : Ar Z h a .long n (fun k => .long (fn k))) (hi : j.toInt = i) (hlt : i < n) (ga : n0 ≤ a) (hd : decode bytes pc = .ok (.lastore, 1)) (hp : pc + 1 = pc') (r : ∀ T' h', St p l e R s m args below meth c n0 T' h' cells slots → Ar Z h' a .long n (fun k => .long (if k = i then x else fn k)) → Keep h h' [a] → Go p e below Rest T' (mkF m pc' L S)) : Go p e below Rest T (mkF m pc L (.long x :: .int j :: .ref a :: S)) := by
  obtain ⟨locs, X, N, eT⟩ := X; obtain ⟨hx, hby, -, -, -, hown, hnm, hZ⟩ := C; subst hp
  have A0 := A
  obtain ⟨cl, A, r1, r2⟩ := A
  obtain ⟨T', h', X', e', W, st⟩ := stJ X hx hZ eT A (j := j) (inb hi hlt r1) (g := mkF m pc L (.long x :: .int j :: .ref a :: S)) rfl rfl (hb hby hd)
  rw [clamp_of hi] at W
  exact go_by st (r T' h' ⟨_, X', Fr.snoc X' N ga, e'⟩ ((A0.set hlt W).congr (fun k hk => by (try dsimp only); split <;> rfl)) (Keep.of_wr W))
theorem g_bastoreB (X : St p l e R s m args below meth c n0 T h cells slots) (C : Cx p s m meth c Z bytes maxL ret own nme) {a : Addr} {n i : Nat} {fn : Nat → Int32} {j : Int32} {x : Int32} (A : Ar Z h a .byte n (fun k => .int (fn k))) (hi : j.toInt = i) (hlt : i < n) (ga : n0 ≤ a) (hd : decode bytes pc = .ok (.bastore, 1)) (hp : pc + 1 = pc') (r : ∀ T' h', St p l e R s m args below meth c n0 T' h' cells slots → Ar Z h' a .byte n (fun k => .int (if k = i then (nar .byte x) else fn k)) → Keep h h' [a] → Go p e below Rest T' (mkF m pc' L S)) : Go p e below Rest T (mkF m pc L (.int x :: .int j :: .ref a :: S)) := by
  obtain ⟨locs, X, N, eT⟩ := X; obtain ⟨hx, hby, -, -, -, hown, hnm, hZ⟩ := C; subst hp
  have A0 := A
  obtain ⟨cl, A, r1, r2⟩ := A
  obtain ⟨T', h', X', e', W, st⟩ := stB X hx hZ eT A (j := j) (inb hi hlt r1) (g := mkF m pc L (.int x :: .int j :: .ref a :: S)) rfl rfl (hb hby hd)
  rw [clamp_of hi] at W
  exact go_by st (r T' h' ⟨_, X', Fr.snoc X' N ga, e'⟩ ((A0.set hlt W).congr (fun k hk => by (try dsimp only); split <;> rfl)) (Keep.of_wr W))
theorem g_bastoreZ (X : St p l e R s m args below meth c n0 T h cells slots) (C : Cx p s m meth c Z bytes maxL ret own nme) {a : Addr} {n i : Nat} {fn : Nat → Int32} {j : Int32} {x : Int32} (A : Ar Z h a .boolean n (fun k => .int (fn k))) (hi : j.toInt = i) (hlt : i < n) (ga : n0 ≤ a) (hd : decode bytes pc = .ok (.bastore, 1)) (hp : pc + 1 = pc') (r : ∀ T' h', St p l e R s m args below meth c n0 T' h' cells slots → Ar Z h' a .boolean n (fun k => .int (if k = i then (nar .boolean x) else fn k)) → Keep h h' [a] → Go p e below Rest T' (mkF m pc' L S)) : Go p e below Rest T (mkF m pc L (.int x :: .int j :: .ref a :: S)) := by
  obtain ⟨locs, X, N, eT⟩ := X; obtain ⟨hx, hby, -, -, -, hown, hnm, hZ⟩ := C; subst hp
  have A0 := A
  obtain ⟨cl, A, r1, r2⟩ := A
  obtain ⟨T', h', X', e', W, st⟩ := stZ X hx hZ eT A (j := j) (inb hi hlt r1) (g := mkF m pc L (.int x :: .int j :: .ref a :: S)) rfl rfl (hb hby hd)
  rw [clamp_of hi] at W
  exact go_by st (r T' h' ⟨_, X', Fr.snoc X' N ga, e'⟩ ((A0.set hlt W).congr (fun k hk => by (try dsimp only); split <;> rfl)) (Keep.of_wr W))
theorem g_initO (X : St p l e R s m args below meth c n0 T h cells slots) (C : Cx p s m meth c Z bytes maxL ret own nme) {index : Nat} {a : Addr} {W : Nat} (w1 : (Jvm.Cond.methodLink own index Lib.objectInit).before a0 Z = true) (w2 : (Jvm.Cond.instanceMethod Lib.objectInit).before a0 Z = true) (w3 : (Jvm.Cond.code Lib.objectInit ⟨#[0xb1]⟩ 1 none).before a0 Z = true) (hsz : L.size = maxL) (hW : (S.map fun v => v.category).sum = W) (hf : 1 ≤ R.frames) (hl : W + 12 ≤ R.locals) (hd : decode bytes pc = .ok (.invokespecial index, 3)) (hp : pc + 3 = pc') (r : ∀ T', St p l e R s m args below meth c n0 T' h cells slots → Go p e below Rest T' (mkF m pc' L S)) : Go p e below Rest T (mkF m pc L (.ref a :: S)) := by
  obtain ⟨locs, X, N, eT⟩ := X; obtain ⟨hx, hby, hml, -, -, hown, hnm, hZ⟩ := C; subst hp
  obtain ⟨T', X', e', st⟩ := initO X hx hZ hown w1 w2 w3 eT (g := mkF m pc L (.ref a :: S)) rfl (by rw [hml]; exact hsz) rfl (hb hby hd) hf (W := W) (by show 2 * 0 + _ ≤ _; omega) hl
  exact go_by st (r T' ⟨locs, X', N, e'⟩)
theorem g_static (X : St p l e R s m args below meth c n0 T h cells slots) (C : Cx p s m meth c Z bytes maxL ret own nme) {y : MethodName} {bytes' : ByteArray} {maxL' : Nat} {ret' : Option FieldType} {rm : Room} {as : Array Value} {Q : Option Value → Heap → Prop} {index : Nat} {W : Nat} {argsL rest : List Value} {ps : List FieldType} {rt : Option FieldType} (hM : Ctr l y bytes' maxL' ret' rm Z n0 as h Q []) (w1 : (Jvm.Cond.methodLink own index y).before a0 Z = true) (w2 : (Jvm.Cond.static y).before a0 Z = true) (w3 : (Jvm.Cond.initialized y.cls).before a0 Z = true) (w4 : (Jvm.Cond.code y bytes' maxL' ret').before a0 Z = true) (hy : y.cls ≠ "java/lang/invoke/MethodHandle" ∧ y.cls ≠ "java/lang/invoke/VarHandle") (pd : parseMethodDescriptor y.desc = some ⟨ps, rt⟩) (hal : argsL.length = ps.length) (has : argsL.toArray = as) (hs : S = argsL.reverse ++ rest) (hsz : L.size = maxL) (hW : (rest.map fun v => v.category).sum = W) (hf : rm.frames + 1 ≤ R.frames) (hl : W + (maxL' + 11) + rm.locals ≤ R.locals) (hc : cells + rm.cells ≤ R.cells) (hsl : slots + rm.slots ≤ R.slots) (hd : decode bytes pc = .ok (.invokestatic index, 3)) (hp : pc + 3 = pc') (r : ∀ v T' h', Q v h' → St p l e R s m args below meth c n0 T' h' (cells + rm.cells) (slots + rm.slots) → Go p e below Rest T' (mkF m pc' L (v.toList ++ rest))) : Go p e below Rest T (mkF m pc L S) := by
  obtain ⟨locs, X, N, eT⟩ := X; obtain ⟨hx, hby, hml, -, -, hown, hnm, hZ⟩ := C; subst hp
  obtain ⟨v, _, ⟨T', L1, k1, n1⟩, -, X', ⟨Lc, ⟨hQ, hN⟩, l1, y1, z1⟩, st⟩ := Jvm.LawKit.callS X hx (y := y) hown (mvT hZ w1) (mvT hZ w2) (mvT hZ w3) (mvT hZ w4) hy (backOf (W := W) (Q := fun v h L => Q v h ∧ Fr n0 L) hM hZ w4 w3 hf hl) (g := mkF m pc L S) rfl (by rw [hml]; exact hsz) (argsL := argsL) (rest := rest) (lenOf pd hal) hs (by show 2 * 0 + _ ≤ _; omega) (hb hby hd) (fun _ _ => ⟨has, eT, hc, hsl⟩)
  dsimp only [Pt.U, Pt.locs, Pt.cells, Pt.slots] at X' l1 y1 z1 st hQ
  subst l1 y1 z1
  exact go_by st (r v T' _ hQ ⟨_, X', Fr.app N hN, rfl⟩)
theorem g_special (X : St p l e R s m args below meth c n0 T h cells slots) (C : Cx p s m meth c Z bytes maxL ret own nme) {y : MethodName} {bytes' : ByteArray} {maxL' : Nat} {ret' : Option FieldType} {rm : Room} {as : Array Value} {Q : Option Value → Heap → Prop} {index : Nat} {W : Nat} {argsL rest : List Value} {ps : List FieldType} {rt : Option FieldType} (hM : Ctr l y bytes' maxL' ret' rm Z n0 as h Q []) {a : Addr} (hy1 : y.name = "<init>") (hret : ret' = none) (w1 : (Jvm.Cond.methodLink own index y).before a0 Z = true) (w2 : (Jvm.Cond.instanceMethod y).before a0 Z = true) (w3 : (Jvm.Cond.initialized y.cls).before a0 Z = true) (w4 : (Jvm.Cond.code y bytes' maxL' ret').before a0 Z = true) (hy : y.cls ≠ "java/lang/invoke/MethodHandle" ∧ y.cls ≠ "java/lang/invoke/VarHandle") (pd : parseMethodDescriptor y.desc = some ⟨ps, rt⟩) (hal : argsL.length = ps.length) (has : (.ref a :: argsL).toArray = as) (hs : S = argsL.reverse ++ .ref a :: rest) (hsz : L.size = maxL) (hW : (rest.map fun v => v.category).sum = W) (hf : rm.frames + 1 ≤ R.frames) (hl : W + (maxL' + 11) + rm.locals ≤ R.locals) (hc : cells + rm.cells ≤ R.cells) (hsl : slots + rm.slots ≤ R.slots) (hd : decode bytes pc = .ok (.invokespecial index, 3)) (hp : pc + 3 = pc') (r : ∀ v T' h', Q v h' → St p l e R s m args below meth c n0 T' h' (cells + rm.cells) (slots + rm.slots) → Go p e below Rest T' (mkF m pc' L (v.toList ++ rest))) : Go p e below Rest T (mkF m pc L S) := by
  obtain ⟨locs, X, N, eT⟩ := X; obtain ⟨hx, hby, hml, -, -, hown, hnm, hZ⟩ := C; subst hp hret
  obtain ⟨v, _, ⟨T', L1, k1, n1⟩, -, X', ⟨Lc, ⟨hQ, hN⟩, l1, y1, z1⟩, st⟩ := X.specialBack hx (y := y) hy1 hown (mvT hZ w1) (mvT hZ w2) (mvT hZ w4) hy (backOf (W := W) (Q := fun v h L => Q v h ∧ Fr n0 L) hM hZ w4 w3 hf hl) (g := mkF m pc L S) rfl (by rw [hml]; exact hsz) (Steps.refl _) (a := a) (argsL := argsL) (rest := rest) (lenOf pd hal) hs (by show 2 * 0 + _ ≤ _; omega) (hb hby hd) (fun _ _ => ⟨has, eT, hc, hsl⟩)
  dsimp only [Pt.U, Pt.locs, Pt.cells, Pt.slots] at X' l1 y1 z1 st hQ
  subst l1 y1 z1
  exact go_tr st (r v T' _ hQ ⟨_, X', Fr.app N hN, rfl⟩)
theorem g_virtual (X : St p l e R s m args below meth c n0 T h cells slots) (C : Cx p s m meth c Z bytes maxL ret own nme) {y : MethodName} {bytes' : ByteArray} {maxL' : Nat} {ret' : Option FieldType} {rm : Room} {as : Array Value} {Q : Option Value → Heap → Prop} {index : Nat} {W : Nat} {argsL rest : List Value} {ps : List FieldType} {rt : Option FieldType} (hM : Ctr l y bytes' maxL' ret' rm Z n0 as h Q []) {a : Addr} (Ex : Exa Z h a y.cls) (w1 : (Jvm.Cond.methodLink own index y).before a0 Z = true) (w2 : (Jvm.Cond.declares y).before a0 Z = true) (ws : (Jvm.Cond.selects y.cls y y).before a0 Z = true) (wi : (Jvm.Cond.instanceMethod y).before a0 Z = true) (w3 : (Jvm.Cond.initialized y.cls).before a0 Z = true) (w4 : (Jvm.Cond.code y bytes' maxL' ret').before a0 Z = true) (hy : y.cls ≠ "java/lang/invoke/MethodHandle" ∧ y.cls ≠ "java/lang/invoke/VarHandle") (pd : parseMethodDescriptor y.desc = some ⟨ps, rt⟩) (hal : argsL.length = ps.length) (has : (.ref a :: argsL).toArray = as) (hs : S = argsL.reverse ++ .ref a :: rest) (hsz : L.size = maxL) (hW : (rest.map fun v => v.category).sum = W) (hf : rm.frames + 1 ≤ R.frames) (hl : W + (maxL' + 11) + rm.locals ≤ R.locals) (hc : cells + rm.cells ≤ R.cells) (hsl : slots + rm.slots ≤ R.slots) (hd : decode bytes pc = .ok (.invokevirtual index, 3)) (hp : pc + 3 = pc') (r : ∀ v T' h', Q v h' → St p l e R s m args below meth c n0 T' h' (cells + rm.cells) (slots + rm.slots) → Go p e below Rest T' (mkF m pc' L (v.toList ++ rest))) : Go p e below Rest T (mkF m pc L S) := by
  obtain ⟨locs, X, N, eT⟩ := X; obtain ⟨hx, hby, hml, -, -, hown, hnm, hZ⟩ := C; subst hp
  obtain ⟨cq, kq, qa, qb, qc⟩ := isOf hZ eT Ex
  obtain ⟨v, _, ⟨T', L1, k1, n1⟩, -, X', ⟨Lc, ⟨hQ, hN⟩, l1, y1, z1⟩, st⟩ := X.virtualBack hx (y := y) (z := y) hown (mvT hZ w1) (mvT hZ w2) (notFace_of_selects (args := #[]) (mvT hZ ws)) (mvT hZ ws) (mvT hZ wi) hy (backOf (W := W) (Q := fun v h L => Q v h ∧ Fr n0 L) hM hZ w4 w3 hf hl) qa qc (g := mkF m pc L S) rfl (by rw [hml]; exact hsz) (Steps.refl _) (argsL := argsL) (rest := rest) (lenOf pd hal) hs (by show 2 * 0 + _ ≤ _; omega) (hb hby hd) (fun _ _ => ⟨has, eT, hc, hsl⟩)
  dsimp only [Pt.U, Pt.locs, Pt.cells, Pt.slots] at X' l1 y1 z1 st hQ
  subst l1 y1 z1
  exact go_tr st (r v T' _ hQ ⟨_, X', Fr.app N hN, rfl⟩)
theorem g_retI {z : Int32} (X : St p l e R s m args below meth c n0 T h cells slots) (C : Cx p s m meth c Z bytes maxL (some .int) own nme) {Q : Option Value → Heap → Prop} {k n : Nat} (hd : decode bytes pc = .ok (.ireturn, 1)) (hQ : Q (some (.int z)) h) (hk : cells ≤ k) (hn : slots ≤ n) : Go p e below (Rs s below n0 Q k n) T (mkF m pc L (.int z :: S)) := by
  obtain ⟨locs, X, N, eT⟩ := X; obtain ⟨hx, hby, -, hret, hlk, -⟩ := C
  obtain ⟨fs, hr, hrun, hended, hW, hsame⟩ := X.leave (v := (some (.int z))) (fun q => by first | rfl | (rw [hret] at q; cases q)) hlk
  refine ⟨_, _, ?_, hrun, hended, _, _, rfl, ⟨?_, N⟩, ⟨_, rfl⟩, hW, hsame.mono hk hn⟩
  · exact retOut X hx hret rfl (Or.inl ⟨rfl, Or.inl rfl, z, rfl⟩) (hb hby hd) hr
  · show Q _ T.heap; rw [eT]; exact hQ
theorem g_retJ {z : Int64} (X : St p l e R s m args below meth c n0 T h cells slots) (C : Cx p s m meth c Z bytes maxL (some .long) own nme) {Q : Option Value → Heap → Prop} {k n : Nat} (hd : decode bytes pc = .ok (.lreturn, 1)) (hQ : Q (some (.long z)) h) (hk : cells ≤ k) (hn : slots ≤ n) : Go p e below (Rs s below n0 Q k n) T (mkF m pc L (.long z :: S)) := by
  obtain ⟨locs, X, N, eT⟩ := X; obtain ⟨hx, hby, -, hret, hlk, -⟩ := C
  obtain ⟨fs, hr, hrun, hended, hW, hsame⟩ := X.leave (v := (some (.long z))) (fun q => by first | rfl | (rw [hret] at q; cases q)) hlk
  refine ⟨_, _, ?_, hrun, hended, _, _, rfl, ⟨?_, N⟩, ⟨_, rfl⟩, hW, hsame.mono hk hn⟩
  · exact retOut X hx hret rfl (Or.inr (Or.inl ⟨rfl, rfl, z, rfl⟩)) (hb hby hd) hr
  · show Q _ T.heap; rw [eT]; exact hQ
theorem g_retZ {z : Int32} (X : St p l e R s m args below meth c n0 T h cells slots) (C : Cx p s m meth c Z bytes maxL (some .boolean) own nme) {Q : Option Value → Heap → Prop} {k n : Nat} (hd : decode bytes pc = .ok (.ireturn, 1)) (hQ : Q (some (.int (nar .boolean z))) h) (hk : cells ≤ k) (hn : slots ≤ n) : Go p e below (Rs s below n0 Q k n) T (mkF m pc L (.int z :: S)) := by
  obtain ⟨locs, X, N, eT⟩ := X; obtain ⟨hx, hby, -, hret, hlk, -⟩ := C
  obtain ⟨fs, hr, hrun, hended, hW, hsame⟩ := X.leave (v := (some (.int (nar .boolean z)))) (fun q => by first | rfl | (rw [hret] at q; cases q)) hlk
  refine ⟨_, _, ?_, hrun, hended, _, _, rfl, ⟨?_, N⟩, ⟨_, rfl⟩, hW, hsame.mono hk hn⟩
  · exact retN X hx (t := .boolean) hret (by simp) (hb hby hd) hr
  · show Q _ T.heap; rw [eT]; exact hQ
theorem g_retB {z : Int32} (X : St p l e R s m args below meth c n0 T h cells slots) (C : Cx p s m meth c Z bytes maxL (some .byte) own nme) {Q : Option Value → Heap → Prop} {k n : Nat} (hd : decode bytes pc = .ok (.ireturn, 1)) (hQ : Q (some (.int (nar .byte z))) h) (hk : cells ≤ k) (hn : slots ≤ n) : Go p e below (Rs s below n0 Q k n) T (mkF m pc L (.int z :: S)) := by
  obtain ⟨locs, X, N, eT⟩ := X; obtain ⟨hx, hby, -, hret, hlk, -⟩ := C
  obtain ⟨fs, hr, hrun, hended, hW, hsame⟩ := X.leave (v := (some (.int (nar .byte z)))) (fun q => by first | rfl | (rw [hret] at q; cases q)) hlk
  refine ⟨_, _, ?_, hrun, hended, _, _, rfl, ⟨?_, N⟩, ⟨_, rfl⟩, hW, hsame.mono hk hn⟩
  · exact retN X hx (t := .byte) hret (by simp) (hb hby hd) hr
  · show Q _ T.heap; rw [eT]; exact hQ
theorem g_retV  (X : St p l e R s m args below meth c n0 T h cells slots) (C : Cx p s m meth c Z bytes maxL none own nme) {Q : Option Value → Heap → Prop} {k n : Nat} (hd : decode bytes pc = .ok (.return_, 1)) (hQ : Q none h) (hk : cells ≤ k) (hn : slots ≤ n) : Go p e below (Rs s below n0 Q k n) T (mkF m pc L []) := by
  obtain ⟨locs, X, N, eT⟩ := X; obtain ⟨hx, hby, -, hret, hlk, -⟩ := C
  obtain ⟨fs, hr, hrun, hended, hW, hsame⟩ := X.leave (v := none) (fun q => by first | rfl | (rw [hret] at q; cases q)) hlk
  refine ⟨_, _, ?_, hrun, hended, _, _, rfl, ⟨?_, N⟩, ⟨_, rfl⟩, hW, hsame.mono hk hn⟩
  · exact X.returnOut hx hret (hb hby hd) hr
  · show Q _ T.heap; rw [eT]; exact hQ
theorem g_retA {v : Value} {ty : FieldType} (X : St p l e R s m args below meth c n0 T h cells slots) (C : Cx p s m meth c Z bytes maxL (some ty) own nme) {Q : Option Value → Heap → Prop} {k n : Nat} (hd : decode bytes pc = .ok (.areturn, 1)) (ht : ty.isReference = true) (hv : v.isRef = true) (hQ : Q (some v) h) (hk : cells ≤ k) (hn : slots ≤ n) : Go p e below (Rs s below n0 Q k n) T (mkF m pc L (v :: S)) := by
  obtain ⟨locs, X, N, eT⟩ := X; obtain ⟨hx, hby, -, hret, hlk, -⟩ := C
  obtain ⟨fs, hr, hrun, hended, hW, hsame⟩ := X.leave (v := (some v)) (fun q => by first | rfl | (rw [hret] at q; cases q)) hlk
  refine ⟨_, _, ?_, hrun, hended, _, _, rfl, ⟨?_, N⟩, ⟨_, rfl⟩, hW, hsame.mono hk hn⟩
  · exact retOut X hx hret (by cases ty <;> cases v <;> simp_all [narrow, FieldType.isReference, Value.isRef]) (Or.inr (Or.inr (Or.inr (Or.inr ⟨rfl, ht, hv⟩)))) (hb hby hd) hr
  · show Q _ T.heap; rw [eT]; exact hQ
end Lay
end Jvm.Own
namespace Jvm.Pilot.@@N@@
open Jvm Jvm.ClassFile Sem Op Lib Jvm.Free Jvm.Stand Jvm.LawKit Jvm.RoadKit Jvm.Own Bundle Jvm.Pilot.@@N@@.Jvm.D
def own_v (b : Bool) : Int32 := if b = true then 1 else 0
theorem own_nar_or (a b : Bool) : nar .boolean (own_v a ||| own_v b) = own_v (a || b) := by cases a <;> cases b <;> decide
theorem own_v01 (b : Bool) : (b = true ∧ (own_v b).toInt = 1) ∨ (b = false ∧ (own_v b).toInt = 0) := by cases b <;> decide
theorem own_inc {x y : Int32} {i : Nat} (h : y = x + 1) (hx : x.toInt = i) (hi : i < 1000000) : y.toInt = (i + 1 : Nat) := by
  have g1 := c_iadd x 1; have g2 := rng32 y; have g3 : (1 : Int32).toInt = 1 := by decide
  rw [← h] at g1; omega
theorem own_incc {x y : Int32} {i : Nat} (h : y = (x + 1).toUInt32.toUInt16.toUInt32.toInt32) (hx : x.toInt = i) (hi : i < 60000) : y.toInt = (i + 1 : Nat) := by
  have g0 := c_i2c (x + 1); have g1 := c_iadd x 1; have g2 := rng32 (x + 1); have g3 : (1 : Int32).toInt = 1 := by decide
  rw [← h] at g0; omega
def own_add (o1 o2 : Int32) : Int32 := if o1.toInt = 1 then o1 else if o2.toInt = 0 then o1 else if o2.toInt = 1 then 1 else 2
def own_neg (o : Int32) : Int32 := if o.toInt = 2 then 2 else if o.toInt = 1 then 0 else 1

def NS_CC : List (String × String) := [("ascii", "[Z"), ("others", "I")]
theorem CF_CC {Z : State} {a0 : Array Value} (hw : ∀ d ∈ tables_1, d.before a0 Z = true) : CF Z a0 "com/example/feuillet/feuillet/rules/XsdPattern$CharClass" NS_CC 2 := by
  refine ⟨by decide, fun x hx => ?_, (hw _ (List.mem_of_getElem? (i := 6) rfl))⟩
  simp only [NS_CC, List.mem_cons, List.not_mem_nil, or_false] at hx
  rcases hx with rfl | rfl
  · exact ⟨Or.inr (hw _ (List.mem_of_getElem? (i := 15) rfl)), by decide⟩
  · exact ⟨Or.inl (hw _ (List.mem_of_getElem? (i := 24) rfl)), by decide⟩
theorem os_3_2 {s0 s1 s2 : Slot} {v : Int32} (h : One s2) : storeLocals #[s0, s1, s2] 2 (.int v) = some #[s0, s1, .val (.int v)] := by
  rcases h with rfl | ⟨w, rfl, hw⟩
  · rfl
  · cases w <;> first | rfl | (simp [Value.category] at hw)
theorem d1_0 : decode prog_136_method_4_code 0 = .ok (.new 10, 3) := by decide +kernel
theorem d1_3 : decode prog_136_method_4_code 3 = .ok (.dup, 1) := by decide +kernel
theorem d1_4 : decode prog_136_method_4_code 4 = .ok (.invokespecial 19, 3) := by decide +kernel
theorem d1_7 : decode prog_136_method_4_code 7 = .ok (.astore_n 2, 1) := by decide +kernel
theorem d1_8 : decode prog_136_method_4_code 8 = .ok (.iload_n 0, 1) := by decide +kernel
theorem d1_9 : decode prog_136_method_4_code 9 = .ok (.istore_n 3, 1) := by decide +kernel
theorem d1_10 : decode prog_136_method_4_code 10 = .ok (.iload_n 3, 1) := by decide +kernel
theorem d1_11 : decode prog_136_method_4_code 11 = .ok (.iload_n 1, 1) := by decide +kernel
theorem d1_12 : decode prog_136_method_4_code 12 = .ok (.if_icmp .gt 18, 3) := by decide +kernel
theorem d1_15 : decode prog_136_method_4_code 15 = .ok (.aload_n 2, 1) := by decide +kernel
theorem d1_16 : decode prog_136_method_4_code 16 = .ok (.getfield 9, 3) := by decide +kernel
theorem d1_19 : decode prog_136_method_4_code 19 = .ok (.iload_n 3, 1) := by decide +kernel
theorem d1_20 : decode prog_136_method_4_code 20 = .ok (.iconst 1, 1) := by decide +kernel
theorem d1_21 : decode prog_136_method_4_code 21 = .ok (.bastore, 1) := by decide +kernel
theorem d1_22 : decode prog_136_method_4_code 22 = .ok (.iload_n 3, 1) := by decide +kernel
theorem d1_23 : decode prog_136_method_4_code 23 = .ok (.iconst 1, 1) := by decide +kernel
theorem d1_24 : decode prog_136_method_4_code 24 = .ok (.iadd, 1) := by decide +kernel
theorem d1_25 : decode prog_136_method_4_code 25 = .ok (.i2c, 1) := by decide +kernel
theorem d1_26 : decode prog_136_method_4_code 26 = .ok (.istore_n 3, 1) := by decide +kernel
theorem d1_27 : decode prog_136_method_4_code 27 = .ok (.goto (-17), 3) := by decide +kernel
theorem d1_30 : decode prog_136_method_4_code 30 = .ok (.aload_n 2, 1) := by decide +kernel
theorem d1_31 : decode prog_136_method_4_code 31 = .ok (.areturn, 1) := by decide +kernel
theorem d2_0 : decode prog_136_method_1_code 0 = .ok (.aload_n 0, 1) := by decide +kernel
theorem d2_1 : decode prog_136_method_1_code 1 = .ok (.invokespecial 3, 3) := by decide +kernel
theorem d2_4 : decode prog_136_method_1_code 4 = .ok (.aload_n 0, 1) := by decide +kernel
theorem d2_5 : decode prog_136_method_1_code 5 = .ok (.sipush 128, 3) := by decide +kernel
theorem d2_8 : decode prog_136_method_1_code 8 = .ok (.newarray .boolean, 2) := by decide +kernel
theorem d2_10 : decode prog_136_method_1_code 10 = .ok (.putfield 9, 3) := by decide +kernel
theorem d2_13 : decode prog_136_method_1_code 13 = .ok (.return_, 1) := by decide +kernel
theorem d4_0 : decode prog_136_method_5_code 0 = .ok (.iconst 0, 1) := by decide +kernel
theorem d4_1 : decode prog_136_method_5_code 1 = .ok (.istore_n 2, 1) := by decide +kernel
theorem d4_2 : decode prog_136_method_5_code 2 = .ok (.iload_n 2, 1) := by decide +kernel
theorem d4_3 : decode prog_136_method_5_code 3 = .ok (.sipush 128, 3) := by decide +kernel
theorem d4_6 : decode prog_136_method_5_code 6 = .ok (.if_icmp .ge 24, 3) := by decide +kernel
theorem d4_9 : decode prog_136_method_5_code 9 = .ok (.aload_n 0, 1) := by decide +kernel
theorem d4_10 : decode prog_136_method_5_code 10 = .ok (.getfield 9, 3) := by decide +kernel
theorem d4_13 : decode prog_136_method_5_code 13 = .ok (.iload_n 2, 1) := by decide +kernel
theorem d4_14 : decode prog_136_method_5_code 14 = .ok (.dup2, 1) := by decide +kernel
theorem d4_15 : decode prog_136_method_5_code 15 = .ok (.baload, 1) := by decide +kernel
theorem d4_16 : decode prog_136_method_5_code 16 = .ok (.aload_n 1, 1) := by decide +kernel
theorem d4_17 : decode prog_136_method_5_code 17 = .ok (.getfield 9, 3) := by decide +kernel
theorem d4_20 : decode prog_136_method_5_code 20 = .ok (.iload_n 2, 1) := by decide +kernel
theorem d4_21 : decode prog_136_method_5_code 21 = .ok (.baload, 1) := by decide +kernel
theorem d4_22 : decode prog_136_method_5_code 22 = .ok (.ior, 1) := by decide +kernel
theorem d4_23 : decode prog_136_method_5_code 23 = .ok (.bastore, 1) := by decide +kernel
theorem d4_24 : decode prog_136_method_5_code 24 = .ok (.iinc 2 1, 3) := by decide +kernel
theorem d4_27 : decode prog_136_method_5_code 27 = .ok (.goto (-25), 3) := by decide +kernel
theorem d4_30 : decode prog_136_method_5_code 30 = .ok (.aload_n 0, 1) := by decide +kernel
theorem d4_31 : decode prog_136_method_5_code 31 = .ok (.getfield 15, 3) := by decide +kernel
theorem d4_34 : decode prog_136_method_5_code 34 = .ok (.iconst 1, 1) := by decide +kernel
theorem d4_35 : decode prog_136_method_5_code 35 = .ok (.if_icmp .eq 34, 3) := by decide +kernel
theorem d4_38 : decode prog_136_method_5_code 38 = .ok (.aload_n 0, 1) := by decide +kernel
theorem d4_39 : decode prog_136_method_5_code 39 = .ok (.aload_n 1, 1) := by decide +kernel
theorem d4_40 : decode prog_136_method_5_code 40 = .ok (.getfield 15, 3) := by decide +kernel
theorem d4_43 : decode prog_136_method_5_code 43 = .ok (.ifCond .ne 10, 3) := by decide +kernel
theorem d4_46 : decode prog_136_method_5_code 46 = .ok (.aload_n 0, 1) := by decide +kernel
theorem d4_47 : decode prog_136_method_5_code 47 = .ok (.getfield 15, 3) := by decide +kernel
theorem d4_50 : decode prog_136_method_5_code 50 = .ok (.goto 16, 3) := by decide +kernel
theorem d4_53 : decode prog_136_method_5_code 53 = .ok (.aload_n 1, 1) := by decide +kernel
theorem d4_54 : decode prog_136_method_5_code 54 = .ok (.getfield 15, 3) := by decide +kernel
theorem d4_57 : decode prog_136_method_5_code 57 = .ok (.iconst 1, 1) := by decide +kernel
theorem d4_58 : decode prog_136_method_5_code 58 = .ok (.if_icmp .ne 7, 3) := by decide +kernel
theorem d4_61 : decode prog_136_method_5_code 61 = .ok (.iconst 1, 1) := by decide +kernel
theorem d4_62 : decode prog_136_method_5_code 62 = .ok (.goto 4, 3) := by decide +kernel
theorem d4_65 : decode prog_136_method_5_code 65 = .ok (.iconst 2, 1) := by decide +kernel
theorem d4_66 : decode prog_136_method_5_code 66 = .ok (.putfield 15, 3) := by decide +kernel
theorem d4_69 : decode prog_136_method_5_code 69 = .ok (.return_, 1) := by decide +kernel
theorem d6_0 : decode prog_136_method_2_code 0 = .ok (.iload_n 1, 1) := by decide +kernel
theorem d6_1 : decode prog_136_method_2_code 1 = .ok (.sipush 128, 3) := by decide +kernel
theorem d6_4 : decode prog_136_method_2_code 4 = .ok (.if_icmp .ne 8, 3) := by decide +kernel
theorem d6_7 : decode prog_136_method_2_code 7 = .ok (.aload_n 0, 1) := by decide +kernel
theorem d6_8 : decode prog_136_method_2_code 8 = .ok (.getfield 15, 3) := by decide +kernel
theorem d6_11 : decode prog_136_method_2_code 11 = .ok (.ireturn, 1) := by decide +kernel
theorem d6_12 : decode prog_136_method_2_code 12 = .ok (.aload_n 0, 1) := by decide +kernel
theorem d6_13 : decode prog_136_method_2_code 13 = .ok (.getfield 9, 3) := by decide +kernel
theorem d6_16 : decode prog_136_method_2_code 16 = .ok (.iload_n 1, 1) := by decide +kernel
theorem d6_17 : decode prog_136_method_2_code 17 = .ok (.baload, 1) := by decide +kernel
theorem d6_18 : decode prog_136_method_2_code 18 = .ok (.ifCond .eq 7, 3) := by decide +kernel
theorem d6_21 : decode prog_136_method_2_code 21 = .ok (.iconst 1, 1) := by decide +kernel
theorem d6_22 : decode prog_136_method_2_code 22 = .ok (.goto 4, 3) := by decide +kernel
theorem d6_25 : decode prog_136_method_2_code 25 = .ok (.iconst 0, 1) := by decide +kernel
theorem d6_26 : decode prog_136_method_2_code 26 = .ok (.ireturn, 1) := by decide +kernel
theorem d7_0 : decode prog_136_method_6_code 0 = .ok (.new 10, 3) := by decide +kernel
theorem d7_3 : decode prog_136_method_6_code 3 = .ok (.dup, 1) := by decide +kernel
theorem d7_4 : decode prog_136_method_6_code 4 = .ok (.invokespecial 19, 3) := by decide +kernel
theorem d7_7 : decode prog_136_method_6_code 7 = .ok (.astore_n 1, 1) := by decide +kernel
theorem d7_8 : decode prog_136_method_6_code 8 = .ok (.iconst 0, 1) := by decide +kernel
theorem d7_9 : decode prog_136_method_6_code 9 = .ok (.istore_n 2, 1) := by decide +kernel
theorem d7_10 : decode prog_136_method_6_code 10 = .ok (.iload_n 2, 1) := by decide +kernel
theorem d7_11 : decode prog_136_method_6_code 11 = .ok (.sipush 128, 3) := by decide +kernel
theorem d7_14 : decode prog_136_method_6_code 14 = .ok (.if_icmp .ge 29, 3) := by decide +kernel
theorem d7_17 : decode prog_136_method_6_code 17 = .ok (.aload_n 1, 1) := by decide +kernel
theorem d7_18 : decode prog_136_method_6_code 18 = .ok (.getfield 9, 3) := by decide +kernel
theorem d7_21 : decode prog_136_method_6_code 21 = .ok (.iload_n 2, 1) := by decide +kernel
theorem d7_22 : decode prog_136_method_6_code 22 = .ok (.aload_n 0, 1) := by decide +kernel
theorem d7_23 : decode prog_136_method_6_code 23 = .ok (.getfield 9, 3) := by decide +kernel
theorem d7_26 : decode prog_136_method_6_code 26 = .ok (.iload_n 2, 1) := by decide +kernel
theorem d7_27 : decode prog_136_method_6_code 27 = .ok (.baload, 1) := by decide +kernel
theorem d7_28 : decode prog_136_method_6_code 28 = .ok (.ifCond .ne 7, 3) := by decide +kernel
theorem d7_31 : decode prog_136_method_6_code 31 = .ok (.iconst 1, 1) := by decide +kernel
theorem d7_32 : decode prog_136_method_6_code 32 = .ok (.goto 4, 3) := by decide +kernel
theorem d7_35 : decode prog_136_method_6_code 35 = .ok (.iconst 0, 1) := by decide +kernel
theorem d7_36 : decode prog_136_method_6_code 36 = .ok (.bastore, 1) := by decide +kernel
theorem d7_37 : decode prog_136_method_6_code 37 = .ok (.iinc 2 1, 3) := by decide +kernel
theorem d7_40 : decode prog_136_method_6_code 40 = .ok (.goto (-30), 3) := by decide +kernel
theorem d7_43 : decode prog_136_method_6_code 43 = .ok (.aload_n 1, 1) := by decide +kernel
theorem d7_44 : decode prog_136_method_6_code 44 = .ok (.aload_n 0, 1) := by decide +kernel
theorem d7_45 : decode prog_136_method_6_code 45 = .ok (.getfield 15, 3) := by decide +kernel
theorem d7_48 : decode prog_136_method_6_code 48 = .ok (.iconst 2, 1) := by decide +kernel
theorem d7_49 : decode prog_136_method_6_code 49 = .ok (.if_icmp .ne 7, 3) := by decide +kernel
theorem d7_52 : decode prog_136_method_6_code 52 = .ok (.iconst 2, 1) := by decide +kernel
theorem d7_53 : decode prog_136_method_6_code 53 = .ok (.goto 16, 3) := by decide +kernel
theorem d7_56 : decode prog_136_method_6_code 56 = .ok (.aload_n 0, 1) := by decide +kernel
theorem d7_57 : decode prog_136_method_6_code 57 = .ok (.getfield 15, 3) := by decide +kernel
theorem d7_60 : decode prog_136_method_6_code 60 = .ok (.iconst 1, 1) := by decide +kernel
theorem d7_61 : decode prog_136_method_6_code 61 = .ok (.if_icmp .ne 7, 3) := by decide +kernel
theorem d7_64 : decode prog_136_method_6_code 64 = .ok (.iconst 0, 1) := by decide +kernel
theorem d7_65 : decode prog_136_method_6_code 65 = .ok (.goto 4, 3) := by decide +kernel
theorem d7_68 : decode prog_136_method_6_code 68 = .ok (.iconst 1, 1) := by decide +kernel
theorem d7_69 : decode prog_136_method_6_code 69 = .ok (.putfield 15, 3) := by decide +kernel
theorem d7_72 : decode prog_136_method_6_code 72 = .ok (.aload_n 1, 1) := by decide +kernel
theorem d7_73 : decode prog_136_method_6_code 73 = .ok (.areturn, 1) := by decide +kernel
theorem d5_0 : decode method_3_code 0 = .ok (.iload_n 3, 1) := by decide +kernel
theorem d5_1 : decode method_3_code 1 = .ok (.sipush 128, 3) := by decide +kernel
theorem d5_4 : decode method_3_code 4 = .ok (.if_icmp .ne 5, 3) := by decide +kernel
theorem d5_7 : decode method_3_code 7 = .ok (.iload_n 2, 1) := by decide +kernel
theorem d5_8 : decode method_3_code 8 = .ok (.ireturn, 1) := by decide +kernel
theorem d5_9 : decode method_3_code 9 = .ok (.iload_n 0, 1) := by decide +kernel
theorem d5_10 : decode method_3_code 10 = .ok (.iload_n 3, 1) := by decide +kernel
theorem d5_11 : decode method_3_code 11 = .ok (.if_icmp .gt 12, 3) := by decide +kernel
theorem d5_14 : decode method_3_code 14 = .ok (.iload_n 3, 1) := by decide +kernel
theorem d5_15 : decode method_3_code 15 = .ok (.iload_n 1, 1) := by decide +kernel
theorem d5_16 : decode method_3_code 16 = .ok (.if_icmp .gt 7, 3) := by decide +kernel
theorem d5_19 : decode method_3_code 19 = .ok (.iconst 1, 1) := by decide +kernel
theorem d5_20 : decode method_3_code 20 = .ok (.goto 4, 3) := by decide +kernel
theorem d5_23 : decode method_3_code 23 = .ok (.iconst 0, 1) := by decide +kernel
theorem d5_24 : decode method_3_code 24 = .ok (.istore 4, 2) := by decide +kernel
theorem d5_26 : decode method_3_code 26 = .ok (.iload 4, 2) := by decide +kernel
theorem d5_28 : decode method_3_code 28 = .ok (.iload_n 2, 1) := by decide +kernel
theorem d5_29 : decode method_3_code 29 = .ok (.if_icmp .eq 7, 3) := by decide +kernel
theorem d5_32 : decode method_3_code 32 = .ok (.iconst 1, 1) := by decide +kernel
theorem d5_33 : decode method_3_code 33 = .ok (.goto 4, 3) := by decide +kernel
theorem d5_36 : decode method_3_code 36 = .ok (.iconst 0, 1) := by decide +kernel
theorem d5_37 : decode method_3_code 37 = .ok (.ireturn, 1) := by decide +kernel
theorem own_nb {x : Int32} (h : x.toInt = 0 ∨ x.toInt = 1) : nar .boolean x = x := by
  rcases h with h | h
  · have : x = 0 := Int32.toInt_inj.mp (by rw [h]; decide)
    subst this; rfl
  · have : x = 1 := Int32.toInt_inj.mp (by rw [h]; decide)
    subst this; rfl
theorem pn_0 : plainName "com/example/feuillet/feuillet/rules/XsdPattern$CharClass" = true := by first | (simp [plainName, overriddenIn]; done) | decide +kernel
theorem pn_1 : plainName "com/example/feuillet/feuillet/rules/CharClassAddPinLaw" = true := by first | (simp [plainName, overriddenIn]; done) | decide +kernel
theorem pd_0 : parseMethodDescriptor "()V" = some ⟨[], none⟩ := by decide +kernel
theorem pd_1 : parseMethodDescriptor "(CC)Lcom/example/feuillet/feuillet/rules/XsdPattern$CharClass;" = some ⟨[.char, .char], some (.object "com/example/feuillet/feuillet/rules/XsdPattern$CharClass")⟩ := by decide +kernel
theorem pd_2 : parseMethodDescriptor "(Lcom/example/feuillet/feuillet/rules/XsdPattern$CharClass;)V" = some ⟨[(.object "com/example/feuillet/feuillet/rules/XsdPattern$CharClass")], none⟩ := by decide +kernel
theorem pd_3 : parseMethodDescriptor "(IIZI)Z" = some ⟨[.int, .int, .boolean, .int], some .boolean⟩ := by decide +kernel
theorem pd_4 : parseMethodDescriptor "(I)I" = some ⟨[.int], some .int⟩ := by decide +kernel
theorem pd_5 : parseMethodDescriptor "()Lcom/example/feuillet/feuillet/rules/XsdPattern$CharClass;" = some ⟨[], some (.object "com/example/feuillet/feuillet/rules/XsdPattern$CharClass")⟩ := by decide +kernel
theorem ef_rmI (m : MethodId) (a1 : Addr) : entryFrame m #[(.ref a1)] 1 = mkF m 0 #[.val (.ref a1)] [] := by first | (simp [entryFrame, mkF, argsToLocals, Value.category]; done) | rfl
set_option maxRecDepth 65536 in
set_option maxHeartbeats 40000000 in
theorem rmI (l : Launch) (Z : State) (a0 : Array Value) (hw : ∀ d ∈ tables_1, d.before a0 Z = true) (a1 : Addr) (h0 : Heap) (n0 : Nat) (hz0 : Lo n0 h0.size) (ga_a1 : Lo n0 a1) (O_a1 : Ob Z h0 a1 "com/example/feuillet/feuillet/rules/XsdPattern$CharClass" NS_CC [.null, (.int (0 : Int32))]) (ws : List Jvm.Cond) :
    Ctr l (⟨"com/example/feuillet/feuillet/rules/XsdPattern$CharClass", "<init>", "()V"⟩ : MethodName) prog_136_method_1_code 1 none ({ frames := 1, cells := 1, slots := 128, locals := 12 } : Room) Z n0 #[(.ref a1)] h0 (fun v h => v = none ∧ Keep h0 h [a1] ∧ ∃ b, Lo h0.size b ∧ Ob Z h a1 "com/example/feuillet/feuillet/rules/XsdPattern$CharClass" NS_CC [(.ref b), (.int (0 : Int32))] ∧ Ar Z h b .boolean 128 (fun _ => .int 0)) ws := by
  refine ctr_of (plainFor_of_name pn_0) ?_
  intro p e s m below meth c T0 X0 C
  refine go_cast (ef_rmI m a1) ?_
  obtain ⟨RS, hRS⟩ : ∃ RS, RS = Rs s below n0 (fun v h => v = none ∧ Keep h0 h [a1] ∧ ∃ b, Lo h0.size b ∧ Ob Z h a1 "com/example/feuillet/feuillet/rules/XsdPattern$CharClass" NS_CC [(.ref b), (.int (0 : Int32))] ∧ Ar Z h b .boolean 128 (fun _ => .int 0)) ({ frames := 1, cells := 1, slots := 128, locals := 12 } : Room).cells ({ frames := 1, cells := 1, slots := 128, locals := 12 } : Room).slots := ⟨_, rfl⟩
  suffices HG : Go p e below RS T0 (mkF m 0 #[.val (.ref a1)] []) by rw [hRS] at HG; exact HG
  show Go p e below RS T0 (mkF m 0 #[.val (.ref a1)] [])
  refine g_aloadN X0 C d2_0 rfl rfl rfl ?_
  refine g_initO (W := 0) X0 C (hw _ (List.mem_of_getElem? (i := 10) rfl)) (hw _ (List.mem_of_getElem? (i := 11) rfl)) (hw _ (List.mem_of_getElem? (i := 12) rfl)) rfl rfl (by decide) (by decide) d2_1 rfl (fun T1 X2 => ?_)
  refine g_aloadN X2 C d2_4 rfl rfl rfl ?_
  refine g_sipush (v := 128) X2 C d2_5 (by decide) rfl ?_
  refine g_newarr (n := 128) (cap := 128) X2 C (hw _ (List.mem_of_getElem? (i := 13) rfl)) (by decide) (by decide) (by decide) (by decide) (by decide) d2_8 rfl (fun T3 h5 b7 hb8 X4 A_b7 K6 => ?_)
  have A_b7 : Ar Z h5 b7 .boolean 128 (fun _ => .int 0) := A_b7
  have ne_a1_b7 : NE a1 b7 := hb8.ne O_a1.lt
  have ga_b7 : Lo n0 b7 := Sz.lo hb8 hz0
  have sz_b7 : Lo h0.size b7 := Sz.lo hb8 ((Keep.refl h0 [a1]).1)
  have O_a1 := O_a1.keep K6 nin0
  have hz9 : Lo n0 h5.size := Lo.keep hz0 K6
  have KK10 := (Keep.refl h0 [a1]).trans K6 (fun x hx => nomatch hx)
  refine g_putO (i := 0) (vs' := [(.ref b7), (.int (0 : Int32))]) X4 C O_a1 (CF_CC hw) rfl rfl rfl ga_a1 (host := "") (Or.inl (hw _ (List.mem_of_getElem? (i := 14) rfl))) (Or.inr ⟨(hw _ (List.mem_of_getElem? (i := 15) rfl)), rfl, rfl⟩) (ty := (.array .boolean)) (by decide) rfl rfl d2_10 rfl (fun T11 h13 X12 O_a1 K14 => ?_)
  have A_b7 := A_b7.keep K14 (ninN (NE.symm ne_a1_b7) nin0)
  have hz15 : Lo n0 h13.size := Lo.keep hz9 K14
  have KK16 := KK10.trans K14 (allS (Or.inl (List.mem_of_getElem? (i := 0) rfl)) all0)
  rw [hRS]
  refine g_retV X12 C d2_13 ?_ (by decide) (by decide)
  exact ⟨rfl, KK16, b7, sz_b7, O_a1, A_b7⟩
theorem ef_rmR (m : MethodId) (p1 : Int32) (p2 : Int32) : entryFrame m #[(.int p1), (.int p2)] 4 = mkF m 0 #[.val (.int p1), .val (.int p2), .unset, .unset] [] := by first | (simp [entryFrame, mkF, argsToLocals, Value.category]; done) | rfl
set_option maxRecDepth 65536 in
set_option maxHeartbeats 40000000 in
theorem rmR (l : Launch) (Z : State) (a0 : Array Value) (hw : ∀ d ∈ tables_1, d.before a0 Z = true) (p1 p2 : Int32) (lo hi : Nat) (h0 : Heap) (n0 : Nat) (hz0 : Lo n0 h0.size) (hlo : p1.toInt = lo) (hhi : p2.toInt = hi) (hl127 : lo ≤ 127) (hh127 : hi ≤ 127) (ws : List Jvm.Cond) :
    Ctr l (⟨"com/example/feuillet/feuillet/rules/XsdPattern$CharClass", "range", "(CC)Lcom/example/feuillet/feuillet/rules/XsdPattern$CharClass;"⟩ : MethodName) prog_136_method_4_code 4 (some (.object "com/example/feuillet/feuillet/rules/XsdPattern$CharClass")) ({ frames := 2, cells := 2, slots := 130, locals := 32 } : Room) Z n0 #[(.int p1), (.int p2)] h0 (fun v h => ∃ a b, v = some (.ref a) ∧ Lo h0.size a ∧ Lo h0.size b ∧ NE a b ∧ Ob Z h a "com/example/feuillet/feuillet/rules/XsdPattern$CharClass" NS_CC [(.ref b), (.int (0 : Int32))] ∧ Ar Z h b .boolean 128 (fun k => .int (own_v (decide (lo ≤ k ∧ k ≤ hi)))) ∧ Keep h0 h []) ws := by
  refine ctr_of (plainFor_of_name pn_0) ?_
  intro p e s m below meth c T0 X0 C
  refine go_cast (ef_rmR m p1 p2) ?_
  obtain ⟨RS, hRS⟩ : ∃ RS, RS = Rs s below n0 (fun v h => ∃ a b, v = some (.ref a) ∧ Lo h0.size a ∧ Lo h0.size b ∧ NE a b ∧ Ob Z h a "com/example/feuillet/feuillet/rules/XsdPattern$CharClass" NS_CC [(.ref b), (.int (0 : Int32))] ∧ Ar Z h b .boolean 128 (fun k => .int (own_v (decide (lo ≤ k ∧ k ≤ hi)))) ∧ Keep h0 h []) ({ frames := 2, cells := 2, slots := 130, locals := 32 } : Room).cells ({ frames := 2, cells := 2, slots := 130, locals := 32 } : Room).slots := ⟨_, rfl⟩
  suffices HG : Go p e below RS T0 (mkF m 0 #[.val (.int p1), .val (.int p2), .unset, .unset] []) by rw [hRS] at HG; exact HG
  show Go p e below RS T0 (mkF m 0 #[.val (.int p1), .val (.int p2), .unset, .unset] [])
  refine g_newO (vs := [.null, (.int (0 : Int32))]) X0 C (hw _ (List.mem_of_getElem? (i := 5) rfl)) (CF_CC hw) (hw _ (List.mem_of_getElem? (i := 3) rfl)) (by decide) (by decide) (by decide) d1_0 rfl (fun T17 h19 b21 hb22 X18 O_b21 K20 => ?_)
  have ga_b21 : Lo n0 b21 := Sz.lo hb22 hz0
  have sz_b21 : Lo h0.size b21 := Sz.lo hb22 ((Keep.refl h0 []).1)
  have hz23 : Lo n0 h19.size := Lo.keep hz0 K20
  have KK24 := (Keep.refl h0 []).trans K20 (fun x hx => nomatch hx)
  refine g_dup X18 C d1_3 rfl rfl ?_
  have O0_b21 := O_b21
  refine g_special (argsL := []) (rest := [(.ref b21)]) (W := 1) (a := b21) X18 C (rmI l Z a0 hw b21 h19 n0 hz23 ga_b21 O_b21 []) rfl rfl (hw _ (List.mem_of_getElem? (i := 7) rfl)) (hw _ (List.mem_of_getElem? (i := 8) rfl)) (hw _ (List.mem_of_getElem? (i := 3) rfl)) (hw _ (List.mem_of_getElem? (i := 9) rfl)) (by decide) pd_0 rfl rfl rfl rfl rfl (by decide) (by decide) (by decide) (by decide) d1_4 rfl (fun r28 T25 h27 hQ29 X26 => ?_)
  obtain ⟨rfl, KI, b30, sz0_b30, O_b21, A_b30⟩ := hQ29
  have ne_b21_b30 : NE b21 b30 := lone O0_b21.lt sz0_b30
  have sz_b30 : Lo h0.size b30 := Lo.kt KK24 sz0_b30
  have ga_b30 : Lo n0 b30 := Lo.tr hz23 sz0_b30
  have hz31 : Lo n0 h27.size := Lo.keep hz23 KI
  have KK32 := KK24.trans KI (allS (Or.inr sz_b21) all0)
  show Go p e below RS T25 (mkF m 7 #[.val (.int p1), .val (.int p2), .unset, .unset] [(.ref b21)])
  refine g_astoreN (L' := #[.val (.int p1), .val (.int p2), .val (.ref b21), .unset]) X26 C d1_7 rfl rfl rfl ?_
  refine g_iloadN X26 C d1_8 rfl rfl ?_
  refine g_istoreN (L' := #[.val (.int p1), .val (.int p2), .val (.ref b21), .val (.int p1)]) X26 C d1_9 rfl rfl rfl ?_
  have LP : ∀ (d i : Nat) (x : Int32) (T : State) (h : Heap), x.toInt = i → lo ≤ i → (i + d = hi + 1 ∨ (d = 0 ∧ i = lo ∧ hi < lo)) → St p l e ({ frames := 2, cells := 2, slots := 130, locals := 32 } : Room) s m #[(.int p1), (.int p2)] below meth c n0 T h 2 130 → Ob Z h b21 "com/example/feuillet/feuillet/rules/XsdPattern$CharClass" NS_CC [(.ref b30), (.int (0 : Int32))] → Ar Z h b30 .boolean 128 (fun k => .int (own_v (decide (lo ≤ k ∧ k < i)))) → Keep h0 h [] → Go p e below RS T (mkF m 10 #[.val (.int p1), .val (.int p2), .val (.ref b21), .val (.int x)] []) := by
    intro d
    induction d with
    | zero =>
      intro i x T h hx hlo hd X O_c A_c KK
      refine g_iloadN X C d1_10 rfl rfl ?_
      refine g_iloadN X C d1_11 rfl rfl ?_
      refine g_icmp_gt (a := x.toInt) (b := p2.toInt) X C d1_12 rfl rfl (by decide) (pT := 30) (by decide) (pF := 15) rfl (fun hc12 => ?_) (fun hc12 => absurd hc12 (by omega))
      refine g_aloadN X C d1_30 rfl rfl rfl ?_
      rw [hRS]
      refine g_retA X C d1_31 rfl rfl ?_ (by decide) (by decide)
      refine ⟨_, _, rfl, sz_b21, sz_b30, ne_b21_b30, O_c, A_c.congr (fun j hj => ?_), KK⟩
      rw [show decide (lo ≤ j ∧ j < i) = decide (lo ≤ j ∧ j ≤ hi) from decide_eq_decide.mpr (by omega)]
    | succ d ih =>
      intro i x T h hx hlo hd X O_c A_c KK
      refine g_iloadN X C d1_10 rfl rfl ?_
      refine g_iloadN X C d1_11 rfl rfl ?_
      refine g_icmp_gt (a := x.toInt) (b := p2.toInt) X C d1_12 rfl rfl (by decide) (pT := 30) (by decide) (pF := 15) rfl (fun hc12 => absurd hc12 (by omega)) (fun hc12 => ?_)
      refine g_aloadN X C d1_15 rfl rfl rfl ?_
      refine g_getO (i := 0) X C O_c rfl rfl (host := "") (Or.inl (hw _ (List.mem_of_getElem? (i := 14) rfl))) d1_16 rfl (fun T33 X34 => ?_)
      refine g_iloadN X34 C d1_19 rfl rfl ?_
      refine g_iconst (v := 1) X34 C d1_20 (by decide) rfl ?_
      refine g_bastoreZ (i := i) X34 C A_c hx (by omega) ga_b30 d1_21 rfl (fun T35 h37 X36 A_c K38 => ?_)
      have O_c := O_c.keep K38 (ninN ne_b21_b30 nin0)
      have hz39 : Lo n0 h37.size := Lo.keep (Lo.keep hz0 KK) K38
      have KK40 := KK.trans K38 (allS (Or.inr sz_b30) all0)
      refine g_iloadN X36 C d1_22 rfl rfl ?_
      refine g_iconst (v := 1) X36 C d1_23 (by decide) rfl ?_
      refine g_iadd X36 C d1_24 rfl ?_
      refine g_i2c X36 C d1_25 rfl ?_
      obtain ⟨i41, h_i41⟩ : ∃ z, z = (x + (1 : Int32)).toUInt32.toUInt16.toUInt32.toInt32 := ⟨_, rfl⟩
      have hi_i41 := own_incc h_i41 hx (by omega)
      refine g_istoreN (L' := #[.val (.int p1), .val (.int p2), .val (.ref b21), .val (.int i41)]) X36 C d1_26 h_i41 rfl rfl ?_
      refine g_goto (pc' := 10) X36 C d1_27 (by decide) (by decide) ?_
      refine ih (i + 1) _ _ _ hi_i41 (by omega) (by omega) X36 O_c (A_c.congr (fun j hj => ?_)) KK40
      by_cases q : j = i
      · rw [if_pos q, show decide (lo ≤ j ∧ j < i + 1) = true from decide_eq_true (by omega)]; rfl
      · rw [if_neg q, show decide (lo ≤ j ∧ j < i + 1) = decide (lo ≤ j ∧ j < i) from decide_eq_decide.mpr (by omega)]
  refine LP (hi + 1 - lo) lo _ _ _ hlo (Nat.le_refl _) (by omega) X26 O_b21 (A_b30.congr (fun j hj => ?_)) KK32
  rw [show decide (lo ≤ j ∧ j < lo) = false from decide_eq_false (by omega)]; rfl
theorem ef_rmA (m : MethodId) (a1 : Addr) (a2 : Addr) : entryFrame m #[(.ref a1), (.ref a2)] 3 = mkF m 0 #[.val (.ref a1), .val (.ref a2), .unset] [] := by first | (simp [entryFrame, mkF, argsToLocals, Value.category]; done) | rfl
set_option maxRecDepth 65536 in
set_option maxHeartbeats 40000000 in
theorem rmA (l : Launch) (Z : State) (a0 : Array Value) (hw : ∀ d ∈ tables_1, d.before a0 Z = true) (a1 a2 b1 b2 : Addr) (o1 o2 : Int32) (f1 f2 : Nat → Bool) (h0 : Heap) (n0 : Nat) (hz0 : Lo n0 h0.size) (ga_a1 : Lo n0 a1) (ga_b1 : Lo n0 b1) (ne_a1_b1 : NE a1 b1) (ne_a2_b1 : NE a2 b1) (ne_b2_b1 : NE b2 b1) (ne_a2_a1 : NE a2 a1) (ne_b2_a1 : NE b2 a1) (O_a1 : Ob Z h0 a1 "com/example/feuillet/feuillet/rules/XsdPattern$CharClass" NS_CC [(.ref b1), (.int o1)]) (O_a2 : Ob Z h0 a2 "com/example/feuillet/feuillet/rules/XsdPattern$CharClass" NS_CC [(.ref b2), (.int o2)]) (A_b1 : Ar Z h0 b1 .boolean 128 (fun k => .int (own_v (f1 k)))) (A_b2 : Ar Z h0 b2 .boolean 128 (fun k => .int (own_v (f2 k)))) (ws : List Jvm.Cond) :
    Ctr l (⟨"com/example/feuillet/feuillet/rules/XsdPattern$CharClass", "add", "(Lcom/example/feuillet/feuillet/rules/XsdPattern$CharClass;)V"⟩ : MethodName) prog_136_method_5_code 3 none ({ frames := 0, cells := 0, slots := 0, locals := 0 } : Room) Z n0 #[(.ref a1), (.ref a2)] h0 (fun v h => v = none ∧ Keep h0 h [a1, b1] ∧ Ob Z h a1 "com/example/feuillet/feuillet/rules/XsdPattern$CharClass" NS_CC [(.ref b1), (.int (own_add o1 o2))] ∧ Ob Z h a2 "com/example/feuillet/feuillet/rules/XsdPattern$CharClass" NS_CC [(.ref b2), (.int o2)] ∧ Ar Z h b1 .boolean 128 (fun k => .int (own_v (f1 k || f2 k))) ∧ Ar Z h b2 .boolean 128 (fun k => .int (own_v (f2 k)))) ws := by
  refine ctr_of (plainFor_of_name pn_0) ?_
  intro p e s m below meth c T0 X0 C
  refine go_cast (ef_rmA m a1 a2) ?_
  obtain ⟨RS, hRS⟩ : ∃ RS, RS = Rs s below n0 (fun v h => v = none ∧ Keep h0 h [a1, b1] ∧ Ob Z h a1 "com/example/feuillet/feuillet/rules/XsdPattern$CharClass" NS_CC [(.ref b1), (.int (own_add o1 o2))] ∧ Ob Z h a2 "com/example/feuillet/feuillet/rules/XsdPattern$CharClass" NS_CC [(.ref b2), (.int o2)] ∧ Ar Z h b1 .boolean 128 (fun k => .int (own_v (f1 k || f2 k))) ∧ Ar Z h b2 .boolean 128 (fun k => .int (own_v (f2 k)))) ({ frames := 0, cells := 0, slots := 0, locals := 0 } : Room).cells ({ frames := 0, cells := 0, slots := 0, locals := 0 } : Room).slots := ⟨_, rfl⟩
  suffices HG : Go p e below RS T0 (mkF m 0 #[.val (.ref a1), .val (.ref a2), .unset] []) by rw [hRS] at HG; exact HG
  show Go p e below RS T0 (mkF m 0 #[.val (.ref a1), .val (.ref a2), .unset] [])
  refine g_iconst (v := 0) X0 C d4_0 (by decide) rfl ?_
  refine g_istoreN (L' := #[.val (.ref a1), .val (.ref a2), .val (.int (0 : Int32))]) X0 C d4_1 rfl rfl rfl ?_
  have LP : ∀ (d i : Nat) (x : Int32) (T : State) (h : Heap), x.toInt = i → i + d = 128 → St p l e ({ frames := 0, cells := 0, slots := 0, locals := 0 } : Room) s m #[(.ref a1), (.ref a2)] below meth c n0 T h 0 0 → Ob Z h a1 "com/example/feuillet/feuillet/rules/XsdPattern$CharClass" NS_CC [(.ref b1), (.int o1)] → Ob Z h a2 "com/example/feuillet/feuillet/rules/XsdPattern$CharClass" NS_CC [(.ref b2), (.int o2)] → Ar Z h b1 .boolean 128 (fun k => .int (own_v (if k < i then (f1 k || f2 k) else f1 k))) → Ar Z h b2 .boolean 128 (fun k => .int (own_v (f2 k))) → Keep h0 h [a1, b1] → Go p e below RS T (mkF m 2 #[.val (.ref a1), .val (.ref a2), .val (.int x)] []) := by
    intro d
    induction d with
    | zero =>
      intro i x T h hx hd X O_a1 O_a2 A_b1 A_b2 KK
      refine g_iloadN X C d4_2 rfl rfl ?_
      refine g_sipush (v := 128) X C d4_3 (by decide) rfl ?_
      refine g_icmp_ge (a := x.toInt) (b := 128) X C d4_6 rfl (by decide) (by decide) (pT := 30) (by decide) (pF := 9) rfl (fun hc6 => ?_) (fun hc6 => absurd hc6 (by omega))
      refine g_aloadN X C d4_30 rfl rfl rfl ?_
      refine g_getO (i := 1) X C O_a1 rfl rfl (host := "") (Or.inl (hw _ (List.mem_of_getElem? (i := 23) rfl))) d4_31 rfl (fun T42 X43 => ?_)
      refine g_iconst (v := 1) X43 C d4_34 (by decide) rfl ?_
      refine g_icmp_eq (a := o1.toInt) (b := 1) X43 C d4_35 rfl (by decide) (by decide) (pT := 69) (by decide) (pF := 38) rfl (fun hc35 => ?_) (fun hc35 => ?_)
      ·
        rw [hRS]
        refine g_retV X43 C d4_69 ?_ (by decide) (by decide)
        refine ⟨rfl, KK, ?_, O_a2, A_b1.congr (fun j hj => by rw [if_pos (by omega)]), A_b2⟩
        rw [show own_add o1 o2 = o1 by unfold own_add; rw [if_pos (by omega)]]; exact O_a1
      ·
        refine g_aloadN X43 C d4_38 rfl rfl rfl ?_
        refine g_aloadN X43 C d4_39 rfl rfl rfl ?_
        refine g_getO (i := 1) X43 C O_a2 rfl rfl (host := "") (Or.inl (hw _ (List.mem_of_getElem? (i := 23) rfl))) d4_40 rfl (fun T44 X45 => ?_)
        refine g_if_ne (a := o2.toInt) X45 C d4_43 rfl (by decide) (pT := 53) (by decide) (pF := 46) rfl (fun hc43 => ?_) (fun hc43 => ?_)
        ·
          refine g_aloadN X45 C d4_53 rfl rfl rfl ?_
          refine g_getO (i := 1) X45 C O_a2 rfl rfl (host := "") (Or.inl (hw _ (List.mem_of_getElem? (i := 23) rfl))) d4_54 rfl (fun T46 X47 => ?_)
          refine g_iconst (v := 1) X47 C d4_57 (by decide) rfl ?_
          refine g_icmp_ne (a := o2.toInt) (b := 1) X47 C d4_58 rfl (by decide) (by decide) (pT := 65) (by decide) (pF := 61) rfl (fun hc58 => ?_) (fun hc58 => ?_)
          ·
            refine g_iconst (v := 2) X47 C d4_65 (by decide) rfl ?_
            refine g_putO (i := 1) (vs' := [(.ref b1), (.int (2 : Int32))]) X47 C O_a1 (CF_CC hw) rfl rfl rfl ga_a1 (host := "") (Or.inl (hw _ (List.mem_of_getElem? (i := 23) rfl))) (Or.inl (hw _ (List.mem_of_getElem? (i := 24) rfl))) (ty := .int) (by decide) rfl rfl d4_66 rfl (fun T48 h50 X49 O_a1 K51 => ?_)
            have O_a2 := O_a2.keep K51 (ninN ne_a2_a1 nin0)
            have A_b1 := A_b1.keep K51 (ninN (NE.symm ne_a1_b1) nin0)
            have A_b2 := A_b2.keep K51 (ninN ne_b2_a1 nin0)
            have hz52 : Lo n0 h50.size := Lo.keep (Lo.keep hz0 KK) K51
            have KK53 := KK.trans K51 (allS (Or.inl (List.mem_of_getElem? (i := 0) rfl)) all0)
            rw [hRS]
            refine g_retV X49 C d4_69 ?_ (by decide) (by decide)
            refine ⟨rfl, KK53, ?_, O_a2, A_b1.congr (fun j hj => by rw [if_pos (by omega)]), A_b2⟩
            rw [show own_add o1 o2 = (2 : Int32) by unfold own_add; rw [if_neg (by omega)]; rw [if_neg (by omega)]; rw [if_neg (by omega)]]; exact O_a1
          ·
            refine g_iconst (v := 1) X47 C d4_61 (by decide) rfl ?_
            refine g_goto (pc' := 66) X47 C d4_62 (by decide) (by decide) ?_
            refine g_putO (i := 1) (vs' := [(.ref b1), (.int (1 : Int32))]) X47 C O_a1 (CF_CC hw) rfl rfl rfl ga_a1 (host := "") (Or.inl (hw _ (List.mem_of_getElem? (i := 23) rfl))) (Or.inl (hw _ (List.mem_of_getElem? (i := 24) rfl))) (ty := .int) (by decide) rfl rfl d4_66 rfl (fun T54 h56 X55 O_a1 K57 => ?_)
            have O_a2 := O_a2.keep K57 (ninN ne_a2_a1 nin0)
            have A_b1 := A_b1.keep K57 (ninN (NE.symm ne_a1_b1) nin0)
            have A_b2 := A_b2.keep K57 (ninN ne_b2_a1 nin0)
            have hz58 : Lo n0 h56.size := Lo.keep (Lo.keep hz0 KK) K57
            have KK59 := KK.trans K57 (allS (Or.inl (List.mem_of_getElem? (i := 0) rfl)) all0)
            rw [hRS]
            refine g_retV X55 C d4_69 ?_ (by decide) (by decide)
            refine ⟨rfl, KK59, ?_, O_a2, A_b1.congr (fun j hj => by rw [if_pos (by omega)]), A_b2⟩
            rw [show own_add o1 o2 = (1 : Int32) by unfold own_add; rw [if_neg (by omega)]; rw [if_neg (by omega)]; rw [if_pos (by omega)]]; exact O_a1
        ·
          refine g_aloadN X45 C d4_46 rfl rfl rfl ?_
          refine g_getO (i := 1) X45 C O_a1 rfl rfl (host := "") (Or.inl (hw _ (List.mem_of_getElem? (i := 23) rfl))) d4_47 rfl (fun T60 X61 => ?_)
          refine g_goto (pc' := 66) X61 C d4_50 (by decide) (by decide) ?_
          refine g_putO (i := 1) (vs' := [(.ref b1), (.int o1)]) X61 C O_a1 (CF_CC hw) rfl rfl rfl ga_a1 (host := "") (Or.inl (hw _ (List.mem_of_getElem? (i := 23) rfl))) (Or.inl (hw _ (List.mem_of_getElem? (i := 24) rfl))) (ty := .int) (by decide) rfl rfl d4_66 rfl (fun T62 h64 X63 O_a1 K65 => ?_)
          have O_a2 := O_a2.keep K65 (ninN ne_a2_a1 nin0)
          have A_b1 := A_b1.keep K65 (ninN (NE.symm ne_a1_b1) nin0)
          have A_b2 := A_b2.keep K65 (ninN ne_b2_a1 nin0)
          have hz66 : Lo n0 h64.size := Lo.keep (Lo.keep hz0 KK) K65
          have KK67 := KK.trans K65 (allS (Or.inl (List.mem_of_getElem? (i := 0) rfl)) all0)
          rw [hRS]
          refine g_retV X63 C d4_69 ?_ (by decide) (by decide)
          refine ⟨rfl, KK67, ?_, O_a2, A_b1.congr (fun j hj => by rw [if_pos (by omega)]), A_b2⟩
          rw [show own_add o1 o2 = o1 by unfold own_add; rw [if_neg (by omega)]; rw [if_pos (by omega)]]; exact O_a1
    | succ d ih =>
      intro i x T h hx hd X O_a1 O_a2 A_b1 A_b2 KK
      refine g_iloadN X C d4_2 rfl rfl ?_
      refine g_sipush (v := 128) X C d4_3 (by decide) rfl ?_
      refine g_icmp_ge (a := x.toInt) (b := 128) X C d4_6 rfl (by decide) (by decide) (pT := 30) (by decide) (pF := 9) rfl (fun hc6 => absurd hc6 (by omega)) (fun hc6 => ?_)
      refine g_aloadN X C d4_9 rfl rfl rfl ?_
      refine g_getO (i := 0) X C O_a1 rfl rfl (host := "") (Or.inl (hw _ (List.mem_of_getElem? (i := 14) rfl))) d4_10 rfl (fun T68 X69 => ?_)
      refine g_iloadN X69 C d4_13 rfl rfl ?_
      refine g_dup2 X69 C d4_14 rfl rfl rfl ?_
      refine g_baloadZ (i := i) (v := (.int (own_v (f1 i)))) X69 C A_b1 hx (by omega) (by (try dsimp only); rw [if_neg (Nat.lt_irrefl i)]) d4_15 rfl ?_
      refine g_aloadN X69 C d4_16 rfl rfl rfl ?_
      refine g_getO (i := 0) X69 C O_a2 rfl rfl (host := "") (Or.inl (hw _ (List.mem_of_getElem? (i := 14) rfl))) d4_17 rfl (fun T70 X71 => ?_)
      refine g_iloadN X71 C d4_20 rfl rfl ?_
      refine g_baloadZ (i := i) (v := (.int (own_v (f2 i)))) X71 C A_b2 hx (by omega) rfl d4_21 rfl ?_
      refine g_ior X71 C d4_22 rfl ?_
      refine g_bastoreZ (i := i) X71 C A_b1 hx (by omega) ga_b1 d4_23 rfl (fun T72 h74 X73 A_b1 K75 => ?_)
      have O_a1 := O_a1.keep K75 (ninN ne_a1_b1 nin0)
      have O_a2 := O_a2.keep K75 (ninN ne_a2_b1 nin0)
      have A_b2 := A_b2.keep K75 (ninN ne_b2_b1 nin0)
      have hz76 : Lo n0 h74.size := Lo.keep (Lo.keep hz0 KK) K75
      have KK77 := KK.trans K75 (allS (Or.inl (List.mem_of_getElem? (i := 1) rfl)) all0)
      obtain ⟨i78, h_i78⟩ : ∃ z, z = (x + (1 : Int32)) := ⟨_, rfl⟩
      have hi_i78 := own_inc h_i78 hx (by omega)
      refine g_iinc (L' := #[.val (.ref a1), .val (.ref a2), .val (.int i78)]) X73 C d4_24 rfl h_i78 rfl rfl ?_
      refine g_goto (pc' := 2) X73 C d4_27 (by decide) (by decide) ?_
      refine ih (i + 1) _ _ _ hi_i78 (by omega) X73 O_a1 O_a2 (A_b1.congr (fun j hj => ?_)) A_b2 KK77
      by_cases q : j = i
      · subst q; rw [if_pos rfl, if_pos (by omega), own_nar_or]
      · rw [if_neg q]; by_cases q2 : j < i
        · rw [if_pos q2, if_pos (by omega)]
        · rw [if_neg q2, if_neg (by omega)]
  exact LP 128 0 _ _ _ (by decide) rfl X0 O_a1 O_a2 (A_b1.congr (fun j hj => by rw [if_neg (Nat.not_lt_zero j)])) A_b2 (Keep.refl h0 [a1, b1])
theorem ef_rmN (m : MethodId) (a1 : Addr) : entryFrame m #[(.ref a1)] 3 = mkF m 0 #[.val (.ref a1), .unset, .unset] [] := by first | (simp [entryFrame, mkF, argsToLocals, Value.category]; done) | rfl
set_option maxRecDepth 65536 in
set_option maxHeartbeats 40000000 in
theorem rmN (l : Launch) (Z : State) (a0 : Array Value) (hw : ∀ d ∈ tables_1, d.before a0 Z = true) (a1 b1 : Addr) (o1 : Int32) (f1 : Nat → Bool) (h0 : Heap) (n0 : Nat) (hz0 : Lo n0 h0.size) (O_a1 : Ob Z h0 a1 "com/example/feuillet/feuillet/rules/XsdPattern$CharClass" NS_CC [(.ref b1), (.int o1)]) (A_b1 : Ar Z h0 b1 .boolean 128 (fun k => .int (own_v (f1 k)))) (ws : List Jvm.Cond) :
    Ctr l (⟨"com/example/feuillet/feuillet/rules/XsdPattern$CharClass", "negated", "()Lcom/example/feuillet/feuillet/rules/XsdPattern$CharClass;"⟩ : MethodName) prog_136_method_6_code 3 (some (.object "com/example/feuillet/feuillet/rules/XsdPattern$CharClass")) ({ frames := 2, cells := 2, slots := 130, locals := 32 } : Room) Z n0 #[(.ref a1)] h0 (fun v h => ∃ a b, v = some (.ref a) ∧ Lo h0.size a ∧ Lo h0.size b ∧ NE a b ∧ Ob Z h a "com/example/feuillet/feuillet/rules/XsdPattern$CharClass" NS_CC [(.ref b), (.int (own_neg o1))] ∧ Ar Z h b .boolean 128 (fun k => .int (own_v (!(f1 k)))) ∧ Ob Z h a1 "com/example/feuillet/feuillet/rules/XsdPattern$CharClass" NS_CC [(.ref b1), (.int o1)] ∧ Ar Z h b1 .boolean 128 (fun k => .int (own_v (f1 k))) ∧ Keep h0 h []) ws := by
  refine ctr_of (plainFor_of_name pn_0) ?_
  intro p e s m below meth c T0 X0 C
  refine go_cast (ef_rmN m a1) ?_
  obtain ⟨RS, hRS⟩ : ∃ RS, RS = Rs s below n0 (fun v h => ∃ a b, v = some (.ref a) ∧ Lo h0.size a ∧ Lo h0.size b ∧ NE a b ∧ Ob Z h a "com/example/feuillet/feuillet/rules/XsdPattern$CharClass" NS_CC [(.ref b), (.int (own_neg o1))] ∧ Ar Z h b .boolean 128 (fun k => .int (own_v (!(f1 k)))) ∧ Ob Z h a1 "com/example/feuillet/feuillet/rules/XsdPattern$CharClass" NS_CC [(.ref b1), (.int o1)] ∧ Ar Z h b1 .boolean 128 (fun k => .int (own_v (f1 k))) ∧ Keep h0 h []) ({ frames := 2, cells := 2, slots := 130, locals := 32 } : Room).cells ({ frames := 2, cells := 2, slots := 130, locals := 32 } : Room).slots := ⟨_, rfl⟩
  suffices HG : Go p e below RS T0 (mkF m 0 #[.val (.ref a1), .unset, .unset] []) by rw [hRS] at HG; exact HG
  show Go p e below RS T0 (mkF m 0 #[.val (.ref a1), .unset, .unset] [])
  refine g_newO (vs := [.null, (.int (0 : Int32))]) X0 C (hw _ (List.mem_of_getElem? (i := 5) rfl)) (CF_CC hw) (hw _ (List.mem_of_getElem? (i := 3) rfl)) (by decide) (by decide) (by decide) d7_0 rfl (fun T79 h81 b83 hb84 X80 O_b83 K82 => ?_)
  have ne_a1_b83 : NE a1 b83 := hb84.ne O_a1.lt
  have ne_b1_b83 : NE b1 b83 := hb84.ne A_b1.lt
  have ga_b83 : Lo n0 b83 := Sz.lo hb84 hz0
  have sz_b83 : Lo h0.size b83 := Sz.lo hb84 ((Keep.refl h0 []).1)
  have O_a1 := O_a1.keep K82 nin0
  have A_b1 := A_b1.keep K82 nin0
  have hz85 : Lo n0 h81.size := Lo.keep hz0 K82
  have KK86 := (Keep.refl h0 []).trans K82 (fun x hx => nomatch hx)
  refine g_dup X80 C d7_3 rfl rfl ?_
  have O0_b83 := O_b83
  refine g_special (argsL := []) (rest := [(.ref b83)]) (W := 1) (a := b83) X80 C (rmI l Z a0 hw b83 h81 n0 hz85 ga_b83 O_b83 []) rfl rfl (hw _ (List.mem_of_getElem? (i := 7) rfl)) (hw _ (List.mem_of_getElem? (i := 8) rfl)) (hw _ (List.mem_of_getElem? (i := 3) rfl)) (hw _ (List.mem_of_getElem? (i := 9) rfl)) (by decide) pd_0 rfl rfl rfl rfl rfl (by decide) (by decide) (by decide) (by decide) d7_4 rfl (fun r90 T87 h89 hQ91 X88 => ?_)
  obtain ⟨rfl, KI, b92, sz0_b92, O_b83, A_b92⟩ := hQ91
  have ne_a1_b92 : NE a1 b92 := lone O_a1.lt sz0_b92
  have ne_b1_b92 : NE b1 b92 := lone A_b1.lt sz0_b92
  have ne_b83_b92 : NE b83 b92 := lone O0_b83.lt sz0_b92
  have sz_b92 : Lo h0.size b92 := Lo.kt KK86 sz0_b92
  have ga_b92 : Lo n0 b92 := Lo.tr hz85 sz0_b92
  have O_a1 := O_a1.keep KI (ninN ne_a1_b83 nin0)
  have A_b1 := A_b1.keep KI (ninN ne_b1_b83 nin0)
  have hz93 : Lo n0 h89.size := Lo.keep hz85 KI
  have KK94 := KK86.trans KI (allS (Or.inr sz_b83) all0)
  show Go p e below RS T87 (mkF m 7 #[.val (.ref a1), .unset, .unset] [(.ref b83)])
  refine g_astoreN (L' := #[.val (.ref a1), .val (.ref b83), .unset]) X88 C d7_7 rfl rfl rfl ?_
  refine g_iconst (v := 0) X88 C d7_8 (by decide) rfl ?_
  refine g_istoreN (L' := #[.val (.ref a1), .val (.ref b83), .val (.int (0 : Int32))]) X88 C d7_9 rfl rfl rfl ?_
  have LP : ∀ (d i : Nat) (x : Int32) (T : State) (h : Heap), x.toInt = i → i + d = 128 → St p l e ({ frames := 2, cells := 2, slots := 130, locals := 32 } : Room) s m #[(.ref a1)] below meth c n0 T h 2 130 → Ob Z h b83 "com/example/feuillet/feuillet/rules/XsdPattern$CharClass" NS_CC [(.ref b92), (.int (0 : Int32))] → Ar Z h b92 .boolean 128 (fun k => .int (own_v (decide (k < i) && !(f1 k)))) → Ob Z h a1 "com/example/feuillet/feuillet/rules/XsdPattern$CharClass" NS_CC [(.ref b1), (.int o1)] → Ar Z h b1 .boolean 128 (fun k => .int (own_v (f1 k))) → Keep h0 h [] → Go p e below RS T (mkF m 10 #[.val (.ref a1), .val (.ref b83), .val (.int x)] []) := by
    intro d
    induction d with
    | zero =>
      intro i x T h hx hd X O_c A_c O_a1 A_b1 KK
      refine g_iloadN X C d7_10 rfl rfl ?_
      refine g_sipush (v := 128) X C d7_11 (by decide) rfl ?_
      refine g_icmp_ge (a := x.toInt) (b := 128) X C d7_14 rfl (by decide) (by decide) (pT := 43) (by decide) (pF := 17) rfl (fun hc14 => ?_) (fun hc14 => absurd hc14 (by omega))
      refine g_aloadN X C d7_43 rfl rfl rfl ?_
      refine g_aloadN X C d7_44 rfl rfl rfl ?_
      refine g_getO (i := 1) X C O_a1 rfl rfl (host := "") (Or.inl (hw _ (List.mem_of_getElem? (i := 23) rfl))) d7_45 rfl (fun T95 X96 => ?_)
      refine g_iconst (v := 2) X96 C d7_48 (by decide) rfl ?_
      refine g_icmp_ne (a := o1.toInt) (b := 2) X96 C d7_49 rfl (by decide) (by decide) (pT := 56) (by decide) (pF := 52) rfl (fun hc49 => ?_) (fun hc49 => ?_)
      ·
        refine g_aloadN X96 C d7_56 rfl rfl rfl ?_
        refine g_getO (i := 1) X96 C O_a1 rfl rfl (host := "") (Or.inl (hw _ (List.mem_of_getElem? (i := 23) rfl))) d7_57 rfl (fun T97 X98 => ?_)
        refine g_iconst (v := 1) X98 C d7_60 (by decide) rfl ?_
        refine g_icmp_ne (a := o1.toInt) (b := 1) X98 C d7_61 rfl (by decide) (by decide) (pT := 68) (by decide) (pF := 64) rfl (fun hc61 => ?_) (fun hc61 => ?_)
        ·
          refine g_iconst (v := 1) X98 C d7_68 (by decide) rfl ?_
          refine g_putO (i := 1) (vs' := [(.ref b92), (.int (1 : Int32))]) X98 C O_c (CF_CC hw) rfl rfl rfl ga_b83 (host := "") (Or.inl (hw _ (List.mem_of_getElem? (i := 23) rfl))) (Or.inl (hw _ (List.mem_of_getElem? (i := 24) rfl))) (ty := .int) (by decide) rfl rfl d7_69 rfl (fun T99 h101 X100 O_c K102 => ?_)
          have A_c := A_c.keep K102 (ninN (NE.symm ne_b83_b92) nin0)
          have O_a1 := O_a1.keep K102 (ninN ne_a1_b83 nin0)
          have A_b1 := A_b1.keep K102 (ninN ne_b1_b83 nin0)
          have hz103 : Lo n0 h101.size := Lo.keep (Lo.keep hz0 KK) K102
          have KK104 := KK.trans K102 (allS (Or.inr sz_b83) all0)
          refine g_aloadN X100 C d7_72 rfl rfl rfl ?_
          rw [hRS]
          refine g_retA X100 C d7_73 rfl rfl ?_ (by decide) (by decide)
          refine ⟨_, _, rfl, sz_b83, sz_b92, ne_b83_b92, ?_, A_c.congr (fun j hj => ?_), O_a1, A_b1, KK104⟩
          · rw [show own_neg o1 = (1 : Int32) by unfold own_neg; rw [if_neg (by omega)]; rw [if_neg (by omega)]]; exact O_c
          · rw [show decide (j < i) = true from decide_eq_true (by omega)]; rfl
        ·
          refine g_iconst (v := 0) X98 C d7_64 (by decide) rfl ?_
          refine g_goto (pc' := 69) X98 C d7_65 (by decide) (by decide) ?_
          refine g_putO (i := 1) (vs' := [(.ref b92), (.int (0 : Int32))]) X98 C O_c (CF_CC hw) rfl rfl rfl ga_b83 (host := "") (Or.inl (hw _ (List.mem_of_getElem? (i := 23) rfl))) (Or.inl (hw _ (List.mem_of_getElem? (i := 24) rfl))) (ty := .int) (by decide) rfl rfl d7_69 rfl (fun T105 h107 X106 O_c K108 => ?_)
          have A_c := A_c.keep K108 (ninN (NE.symm ne_b83_b92) nin0)
          have O_a1 := O_a1.keep K108 (ninN ne_a1_b83 nin0)
          have A_b1 := A_b1.keep K108 (ninN ne_b1_b83 nin0)
          have hz109 : Lo n0 h107.size := Lo.keep (Lo.keep hz0 KK) K108
          have KK110 := KK.trans K108 (allS (Or.inr sz_b83) all0)
          refine g_aloadN X106 C d7_72 rfl rfl rfl ?_
          rw [hRS]
          refine g_retA X106 C d7_73 rfl rfl ?_ (by decide) (by decide)
          refine ⟨_, _, rfl, sz_b83, sz_b92, ne_b83_b92, ?_, A_c.congr (fun j hj => ?_), O_a1, A_b1, KK110⟩
          · rw [show own_neg o1 = (0 : Int32) by unfold own_neg; rw [if_neg (by omega)]; rw [if_pos (by omega)]]; exact O_c
          · rw [show decide (j < i) = true from decide_eq_true (by omega)]; rfl
      ·
        refine g_iconst (v := 2) X96 C d7_52 (by decide) rfl ?_
        refine g_goto (pc' := 69) X96 C d7_53 (by decide) (by decide) ?_
        refine g_putO (i := 1) (vs' := [(.ref b92), (.int (2 : Int32))]) X96 C O_c (CF_CC hw) rfl rfl rfl ga_b83 (host := "") (Or.inl (hw _ (List.mem_of_getElem? (i := 23) rfl))) (Or.inl (hw _ (List.mem_of_getElem? (i := 24) rfl))) (ty := .int) (by decide) rfl rfl d7_69 rfl (fun T111 h113 X112 O_c K114 => ?_)
        have A_c := A_c.keep K114 (ninN (NE.symm ne_b83_b92) nin0)
        have O_a1 := O_a1.keep K114 (ninN ne_a1_b83 nin0)
        have A_b1 := A_b1.keep K114 (ninN ne_b1_b83 nin0)
        have hz115 : Lo n0 h113.size := Lo.keep (Lo.keep hz0 KK) K114
        have KK116 := KK.trans K114 (allS (Or.inr sz_b83) all0)
        refine g_aloadN X112 C d7_72 rfl rfl rfl ?_
        rw [hRS]
        refine g_retA X112 C d7_73 rfl rfl ?_ (by decide) (by decide)
        refine ⟨_, _, rfl, sz_b83, sz_b92, ne_b83_b92, ?_, A_c.congr (fun j hj => ?_), O_a1, A_b1, KK116⟩
        · rw [show own_neg o1 = (2 : Int32) by unfold own_neg; rw [if_pos (by omega)]]; exact O_c
        · rw [show decide (j < i) = true from decide_eq_true (by omega)]; rfl
    | succ d ih =>
      intro i x T h hx hd X O_c A_c O_a1 A_b1 KK
      refine g_iloadN X C d7_10 rfl rfl ?_
      refine g_sipush (v := 128) X C d7_11 (by decide) rfl ?_
      refine g_icmp_ge (a := x.toInt) (b := 128) X C d7_14 rfl (by decide) (by decide) (pT := 43) (by decide) (pF := 17) rfl (fun hc14 => absurd hc14 (by omega)) (fun hc14 => ?_)
      refine g_aloadN X C d7_17 rfl rfl rfl ?_
      refine g_getO (i := 0) X C O_c rfl rfl (host := "") (Or.inl (hw _ (List.mem_of_getElem? (i := 14) rfl))) d7_18 rfl (fun T117 X118 => ?_)
      refine g_iloadN X118 C d7_21 rfl rfl ?_
      refine g_aloadN X118 C d7_22 rfl rfl rfl ?_
      refine g_getO (i := 0) X118 C O_a1 rfl rfl (host := "") (Or.inl (hw _ (List.mem_of_getElem? (i := 14) rfl))) d7_23 rfl (fun T119 X120 => ?_)
      refine g_iloadN X120 C d7_26 rfl rfl ?_
      refine g_baloadZ (i := i) (v := (.int (own_v (f1 i)))) X120 C A_b1 hx (by omega) rfl d7_27 rfl ?_
      have J36_121 : ∀ (i121 : Int32) (_ : ((own_v (f1 i)).toInt ≠ 0 ∧ i121 = (0 : Int32) ∧ i121.toInt = 0) ∨ ((own_v (f1 i)).toInt = 0 ∧ i121 = (1 : Int32) ∧ i121.toInt = 1)), Go p e below RS T119 (mkF m 36 #[.val (.ref a1), .val (.ref b83), .val (.int x)] [(.int i121), (.int x), (.ref b92)]) := by
        intro i121 hJ36
        have hzv : nar .boolean i121 = own_v (!(f1 i)) := by
          have g := own_v01 (f1 i)
          rcases hJ36 with ⟨q1, q2, -⟩ | ⟨q1, q2, -⟩
          · have g2 : f1 i = true := by rcases g with g | g <;> first | exact g.1 | (exfalso; omega)
            rw [q2, g2]; rfl
          · have g2 : f1 i = false := by rcases g with g | g <;> first | exact g.1 | (exfalso; omega)
            rw [q2, g2]; rfl
        refine g_bastoreZ (i := i) X120 C A_c hx (by omega) ga_b92 d7_36 rfl (fun T123 h125 X124 A_c K126 => ?_)
        have O_c := O_c.keep K126 (ninN ne_b83_b92 nin0)
        have O_a1 := O_a1.keep K126 (ninN ne_a1_b92 nin0)
        have A_b1 := A_b1.keep K126 (ninN ne_b1_b92 nin0)
        have hz127 : Lo n0 h125.size := Lo.keep (Lo.keep hz0 KK) K126
        have KK128 := KK.trans K126 (allS (Or.inr sz_b92) all0)
        obtain ⟨i129, h_i129⟩ : ∃ z, z = (x + (1 : Int32)) := ⟨_, rfl⟩
        have hi_i129 := own_inc h_i129 hx (by omega)
        refine g_iinc (L' := #[.val (.ref a1), .val (.ref b83), .val (.int i129)]) X124 C d7_37 rfl h_i129 rfl rfl ?_
        refine g_goto (pc' := 10) X124 C d7_40 (by decide) (by decide) ?_
        refine ih (i + 1) _ _ _ hi_i129 (by omega) X124 O_c (A_c.congr (fun j hj => ?_)) O_a1 A_b1 KK128
        by_cases q : j = i
        · subst q; rw [if_pos rfl, hzv, show decide (j < j + 1) = true from decide_eq_true (by omega)]; rfl
        · rw [if_neg q, show decide (j < i + 1) = decide (j < i) from decide_eq_decide.mpr (by omega)]
      refine g_if_ne (a := (own_v (f1 i)).toInt) X120 C d7_28 rfl (by decide) (pT := 35) (by decide) (pF := 31) rfl (fun hc28 => ?_) (fun hc28 => ?_)
      ·
        refine g_iconst (v := 0) X120 C d7_35 (by decide) rfl ?_
        exact J36_121 (0 : Int32) (Or.inl (⟨hc28, rfl, by decide⟩))
      ·
        refine g_iconst (v := 1) X120 C d7_31 (by decide) rfl ?_
        refine g_goto (pc' := 36) X120 C d7_32 (by decide) (by decide) ?_
        exact J36_121 (1 : Int32) (Or.inr (⟨hc28, rfl, by decide⟩))
  refine LP 128 0 _ _ _ (by decide) rfl X88 O_b83 (A_b92.congr (fun j hj => ?_)) O_a1 A_b1 KK94
  rw [show decide (j < 0) = false from decide_eq_false (by omega)]; rfl
theorem ef_rmT (m : MethodId) (a1 : Addr) (p2 : Int32) : entryFrame m #[(.ref a1), (.int p2)] 2 = mkF m 0 #[.val (.ref a1), .val (.int p2)] [] := by first | (simp [entryFrame, mkF, argsToLocals, Value.category]; done) | rfl
set_option maxRecDepth 65536 in
set_option maxHeartbeats 40000000 in
theorem rmT (l : Launch) (Z : State) (a0 : Array Value) (hw : ∀ d ∈ tables_1, d.before a0 Z = true) (a1 b1 : Addr) (p2 o1 : Int32) (f1 : Nat → Bool) (i : Nat) (h0 : Heap) (n0 : Nat) (hz0 : Lo n0 h0.size) (hi : p2.toInt = i) (hi128 : i ≤ 128) (O_a1 : Ob Z h0 a1 "com/example/feuillet/feuillet/rules/XsdPattern$CharClass" NS_CC [(.ref b1), (.int o1)]) (A_b1 : Ar Z h0 b1 .boolean 128 (fun k => .int (own_v (f1 k)))) (ws : List Jvm.Cond) :
    Ctr l (⟨"com/example/feuillet/feuillet/rules/XsdPattern$CharClass", "takes", "(I)I"⟩ : MethodName) prog_136_method_2_code 2 (some .int) ({ frames := 0, cells := 0, slots := 0, locals := 0 } : Room) Z n0 #[(.ref a1), (.int p2)] h0 (fun v h => v = some (.int (if i = 128 then o1 else own_v (f1 i))) ∧ h = h0) ws := by
  refine ctr_of (plainFor_of_name pn_0) ?_
  intro p e s m below meth c T0 X0 C
  refine go_cast (ef_rmT m a1 p2) ?_
  obtain ⟨RS, hRS⟩ : ∃ RS, RS = Rs s below n0 (fun v h => v = some (.int (if i = 128 then o1 else own_v (f1 i))) ∧ h = h0) ({ frames := 0, cells := 0, slots := 0, locals := 0 } : Room).cells ({ frames := 0, cells := 0, slots := 0, locals := 0 } : Room).slots := ⟨_, rfl⟩
  suffices HG : Go p e below RS T0 (mkF m 0 #[.val (.ref a1), .val (.int p2)] []) by rw [hRS] at HG; exact HG
  show Go p e below RS T0 (mkF m 0 #[.val (.ref a1), .val (.int p2)] [])
  refine g_iloadN X0 C d6_0 rfl rfl ?_
  refine g_sipush (v := 128) X0 C d6_1 (by decide) rfl ?_
  refine g_icmp_ne (a := p2.toInt) (b := 128) X0 C d6_4 rfl (by decide) (by decide) (pT := 12) (by decide) (pF := 7) rfl (fun hc4 => ?_) (fun hc4 => ?_)
  ·
    refine g_aloadN X0 C d6_12 rfl rfl rfl ?_
    refine g_getO (i := 0) X0 C O_a1 rfl rfl (host := "") (Or.inl (hw _ (List.mem_of_getElem? (i := 14) rfl))) d6_13 rfl (fun T130 X131 => ?_)
    refine g_iloadN X131 C d6_16 rfl rfl ?_
    refine g_baloadZ (i := i) (v := (.int (own_v (f1 i)))) X131 C A_b1 hi (by omega) rfl d6_17 rfl ?_
    refine g_if_eq (a := (own_v (f1 i)).toInt) X131 C d6_18 rfl (by decide) (pT := 25) (by decide) (pF := 21) rfl (fun hc18 => ?_) (fun hc18 => ?_)
    ·
      refine g_iconst (v := 0) X131 C d6_25 (by decide) rfl ?_
      rw [hRS]
      refine g_retI X131 C d6_26 ?_ (by decide) (by decide)
      exact ⟨by rw [if_neg (by omega)]; have g := own_v01 (f1 i); rcases g with g | g <;> first | (exfalso; omega) | (rw [g.1]; rfl), rfl⟩
    ·
      refine g_iconst (v := 1) X131 C d6_21 (by decide) rfl ?_
      refine g_goto (pc' := 26) X131 C d6_22 (by decide) (by decide) ?_
      rw [hRS]
      refine g_retI X131 C d6_26 ?_ (by decide) (by decide)
      exact ⟨by rw [if_neg (by omega)]; have g := own_v01 (f1 i); rcases g with g | g <;> first | (exfalso; omega) | (rw [g.1]; rfl), rfl⟩
  ·
    refine g_aloadN X0 C d6_7 rfl rfl rfl ?_
    refine g_getO (i := 1) X0 C O_a1 rfl rfl (host := "") (Or.inl (hw _ (List.mem_of_getElem? (i := 23) rfl))) d6_8 rfl (fun T132 X133 => ?_)
    rw [hRS]
    refine g_retI X133 C d6_11 ?_ (by decide) (by decide)
    exact ⟨by rw [if_pos (by omega)], rfl⟩
theorem ef_rmH (m : MethodId) (p1 : Int32) (p2 : Int32) (p3 : Int32) (p4 : Int32) : entryFrame m #[(.int p1), (.int p2), (.int p3), (.int p4)] 5 = mkF m 0 #[.val (.int p1), .val (.int p2), .val (.int p3), .val (.int p4), .unset] [] := by first | (simp [entryFrame, mkF, argsToLocals, Value.category]; done) | rfl
set_option maxRecDepth 65536 in
set_option maxHeartbeats 40000000 in
theorem rmH (l : Launch) (Z : State) (a0 : Array Value) (hw : ∀ d ∈ tables_1, d.before a0 Z = true) (p1 p2 p3 p4 : Int32) (h0 : Heap) (n0 : Nat) (hz0 : Lo n0 h0.size) (hp3 : p3.toInt = 0 ∨ p3.toInt = 1) (ws : List Jvm.Cond) :
    Ctr l (⟨"com/example/feuillet/feuillet/rules/CharClassAddPinLaw", "holds", "(IIZI)Z"⟩ : MethodName) method_3_code 5 (some .boolean) ({ frames := 0, cells := 0, slots := 0, locals := 0 } : Room) Z n0 #[(.int p1), (.int p2), (.int p3), (.int p4)] h0 (fun v h => ∃ r : Int32, v = some (.int r) ∧ ((p4.toInt = 128 ∧ r.toInt = p3.toInt) ∨ (p4.toInt ≠ 128 ∧ p1.toInt ≤ p4.toInt ∧ p4.toInt ≤ p2.toInt ∧ r.toInt = 1 - p3.toInt) ∨ (p4.toInt ≠ 128 ∧ (p4.toInt < p1.toInt ∨ p2.toInt < p4.toInt) ∧ r.toInt = p3.toInt)) ∧ h = h0) ws := by
  refine ctr_of (plainFor_of_name pn_1) ?_
  intro p e s m below meth c T0 X0 C
  refine go_cast (ef_rmH m p1 p2 p3 p4) ?_
  obtain ⟨RS, hRS⟩ : ∃ RS, RS = Rs s below n0 (fun v h => ∃ r : Int32, v = some (.int r) ∧ ((p4.toInt = 128 ∧ r.toInt = p3.toInt) ∨ (p4.toInt ≠ 128 ∧ p1.toInt ≤ p4.toInt ∧ p4.toInt ≤ p2.toInt ∧ r.toInt = 1 - p3.toInt) ∨ (p4.toInt ≠ 128 ∧ (p4.toInt < p1.toInt ∨ p2.toInt < p4.toInt) ∧ r.toInt = p3.toInt)) ∧ h = h0) ({ frames := 0, cells := 0, slots := 0, locals := 0 } : Room).cells ({ frames := 0, cells := 0, slots := 0, locals := 0 } : Room).slots := ⟨_, rfl⟩
  suffices HG : Go p e below RS T0 (mkF m 0 #[.val (.int p1), .val (.int p2), .val (.int p3), .val (.int p4), .unset] []) by rw [hRS] at HG; exact HG
  show Go p e below RS T0 (mkF m 0 #[.val (.int p1), .val (.int p2), .val (.int p3), .val (.int p4), .unset] [])
  refine g_iloadN X0 C d5_0 rfl rfl ?_
  refine g_sipush (v := 128) X0 C d5_1 (by decide) rfl ?_
  refine g_icmp_ne (a := p4.toInt) (b := 128) X0 C d5_4 rfl (by decide) (by decide) (pT := 9) (by decide) (pF := 7) rfl (fun hc4 => ?_) (fun hc4 => ?_)
  ·
    refine g_iloadN X0 C d5_9 rfl rfl ?_
    refine g_iloadN X0 C d5_10 rfl rfl ?_
    refine g_icmp_gt (a := p1.toInt) (b := p4.toInt) X0 C d5_11 rfl rfl (by decide) (pT := 23) (by decide) (pF := 14) rfl (fun hc11 => ?_) (fun hc11 => ?_)
    ·
      refine g_iconst (v := 0) X0 C d5_23 (by decide) rfl ?_
      refine g_istore (L' := #[.val (.int p1), .val (.int p2), .val (.int p3), .val (.int p4), .val (.int (0 : Int32))]) X0 C d5_24 rfl rfl rfl ?_
      refine g_iload X0 C d5_26 rfl rfl ?_
      refine g_iloadN X0 C d5_28 rfl rfl ?_
      refine g_icmp_eq (a := 0) (b := p3.toInt) X0 C d5_29 (by decide) rfl (by decide) (pT := 36) (by decide) (pF := 32) rfl (fun hc29 => ?_) (fun hc29 => ?_)
      ·
        refine g_iconst (v := 0) X0 C d5_36 (by decide) rfl ?_
        rw [hRS]
        refine g_retZ X0 C d5_37 ?_ (by decide) (by decide)
        refine ⟨_, rfl, ?_, rfl⟩
        rw [show nar .boolean (0 : Int32) = (0 : Int32) by decide]; have q0 : (0 : Int32).toInt = 0 := (by decide); have q1 : (1 : Int32).toInt = 1 := (by decide); omega
      ·
        refine g_iconst (v := 1) X0 C d5_32 (by decide) rfl ?_
        refine g_goto (pc' := 37) X0 C d5_33 (by decide) (by decide) ?_
        rw [hRS]
        refine g_retZ X0 C d5_37 ?_ (by decide) (by decide)
        refine ⟨_, rfl, ?_, rfl⟩
        rw [show nar .boolean (1 : Int32) = (1 : Int32) by decide]; have q0 : (0 : Int32).toInt = 0 := (by decide); have q1 : (1 : Int32).toInt = 1 := (by decide); omega
    ·
      refine g_iloadN X0 C d5_14 rfl rfl ?_
      refine g_iloadN X0 C d5_15 rfl rfl ?_
      refine g_icmp_gt (a := p4.toInt) (b := p2.toInt) X0 C d5_16 rfl rfl (by decide) (pT := 23) (by decide) (pF := 19) rfl (fun hc16 => ?_) (fun hc16 => ?_)
      ·
        refine g_iconst (v := 0) X0 C d5_23 (by decide) rfl ?_
        refine g_istore (L' := #[.val (.int p1), .val (.int p2), .val (.int p3), .val (.int p4), .val (.int (0 : Int32))]) X0 C d5_24 rfl rfl rfl ?_
        refine g_iload X0 C d5_26 rfl rfl ?_
        refine g_iloadN X0 C d5_28 rfl rfl ?_
        refine g_icmp_eq (a := 0) (b := p3.toInt) X0 C d5_29 (by decide) rfl (by decide) (pT := 36) (by decide) (pF := 32) rfl (fun hc29 => ?_) (fun hc29 => ?_)
        ·
          refine g_iconst (v := 0) X0 C d5_36 (by decide) rfl ?_
          rw [hRS]
          refine g_retZ X0 C d5_37 ?_ (by decide) (by decide)
          refine ⟨_, rfl, ?_, rfl⟩
          rw [show nar .boolean (0 : Int32) = (0 : Int32) by decide]; have q0 : (0 : Int32).toInt = 0 := (by decide); have q1 : (1 : Int32).toInt = 1 := (by decide); omega
        ·
          refine g_iconst (v := 1) X0 C d5_32 (by decide) rfl ?_
          refine g_goto (pc' := 37) X0 C d5_33 (by decide) (by decide) ?_
          rw [hRS]
          refine g_retZ X0 C d5_37 ?_ (by decide) (by decide)
          refine ⟨_, rfl, ?_, rfl⟩
          rw [show nar .boolean (1 : Int32) = (1 : Int32) by decide]; have q0 : (0 : Int32).toInt = 0 := (by decide); have q1 : (1 : Int32).toInt = 1 := (by decide); omega
      ·
        refine g_iconst (v := 1) X0 C d5_19 (by decide) rfl ?_
        refine g_goto (pc' := 24) X0 C d5_20 (by decide) (by decide) ?_
        refine g_istore (L' := #[.val (.int p1), .val (.int p2), .val (.int p3), .val (.int p4), .val (.int (1 : Int32))]) X0 C d5_24 rfl rfl rfl ?_
        refine g_iload X0 C d5_26 rfl rfl ?_
        refine g_iloadN X0 C d5_28 rfl rfl ?_
        refine g_icmp_eq (a := 1) (b := p3.toInt) X0 C d5_29 (by decide) rfl (by decide) (pT := 36) (by decide) (pF := 32) rfl (fun hc29 => ?_) (fun hc29 => ?_)
        ·
          refine g_iconst (v := 0) X0 C d5_36 (by decide) rfl ?_
          rw [hRS]
          refine g_retZ X0 C d5_37 ?_ (by decide) (by decide)
          refine ⟨_, rfl, ?_, rfl⟩
          rw [show nar .boolean (0 : Int32) = (0 : Int32) by decide]; have q0 : (0 : Int32).toInt = 0 := (by decide); have q1 : (1 : Int32).toInt = 1 := (by decide); omega
        ·
          refine g_iconst (v := 1) X0 C d5_32 (by decide) rfl ?_
          refine g_goto (pc' := 37) X0 C d5_33 (by decide) (by decide) ?_
          rw [hRS]
          refine g_retZ X0 C d5_37 ?_ (by decide) (by decide)
          refine ⟨_, rfl, ?_, rfl⟩
          rw [show nar .boolean (1 : Int32) = (1 : Int32) by decide]; have q0 : (0 : Int32).toInt = 0 := (by decide); have q1 : (1 : Int32).toInt = 1 := (by decide); omega
  ·
    refine g_iloadN X0 C d5_7 rfl rfl ?_
    rw [hRS]
    refine g_retZ X0 C d5_8 ?_ (by decide) (by decide)
    refine ⟨_, rfl, ?_, rfl⟩
    rw [own_nb hp3]; omega
theorem ef_rm0 (m : MethodId) (p1 : Int32) (p2 : Int32) (p3 : Int32) (p4 : Int32) (p5 : Int32) (p6 : Int32) : entryFrame m #[(.int p1), (.int p2), (.int p3), (.int p4), (.int p5), (.int p6)] maxLocals = mkF m 0 #[.val (.int p1), .val (.int p2), .val (.int p3), .val (.int p4), .val (.int p5), .val (.int p6), .unset, .unset, .unset, .unset, .unset, .unset, .unset, .unset, .unset, .unset, .unset, .unset, .unset, .unset, .unset] [] := by first | (simp [entryFrame, mkF, argsToLocals, Value.category, maxLocals]; done) | rfl
set_option maxRecDepth 65536 in
set_option maxHeartbeats 40000000 in
theorem rm0 (l : Launch) (Z : State) (a0 : Array Value) (hw : ∀ d ∈ tables_1, d.before a0 Z = true) (p1 p2 p3 p4 p5 p6 : Int32) (h0 : Heap) (n0 : Nat) (hz0 : Lo n0 h0.size)  (ws : List Jvm.Cond) :
    Ctr l x code maxLocals ret room_1 Z n0 #[(.int p1), (.int p2), (.int p3), (.int p4), (.int p5), (.int p6)] h0 (fun v h => v = some (.int 1)) ws := by
  refine ctr_of (plainFor_of_name pn_1) ?_
  intro p e s m below meth c T0 X0 C
  refine go_cast (ef_rm0 m p1 p2 p3 p4 p5 p6) ?_
  obtain ⟨RS, hRS⟩ : ∃ RS, RS = Rs s below n0 (fun v h => v = some (.int 1)) room_1.cells room_1.slots := ⟨_, rfl⟩
  suffices HG : Go p e below RS T0 (mkF m 0 #[.val (.int p1), .val (.int p2), .val (.int p3), .val (.int p4), .val (.int p5), .val (.int p6), .unset, .unset, .unset, .unset, .unset, .unset, .unset, .unset, .unset, .unset, .unset, .unset, .unset, .unset, .unset] []) by rw [hRS] at HG; exact HG
  show Go p e below RS T0 (mkF m 0 #[.val (.int p1), .val (.int p2), .val (.int p3), .val (.int p4), .val (.int p5), .val (.int p6), .unset, .unset, .unset, .unset, .unset, .unset, .unset, .unset, .unset, .unset, .unset, .unset, .unset, .unset, .unset] [])
  refine g_iloadN X0 C at_0 rfl rfl ?_
  refine g_bipush (v := 127) X0 C at_1 (by decide) rfl ?_
  refine g_iand X0 C at_3 rfl ?_
  obtain ⟨i134, h_i134⟩ : ∃ z, z = (p1 &&& (127 : Int32)) := ⟨_, rfl⟩
  obtain ⟨la, hla, hbla⟩ : ∃ n : Nat, i134.toInt = n ∧ n < 128 := by
    have g1 := c_mask p1 127 7 (by decide) (by decide)
    rw [← h_i134] at g1; simp only [Nat.reducePow] at g1
    exact ⟨i134.toInt.toNat, by omega, by omega⟩
  refine g_istore (L' := #[.val (.int p1), .val (.int p2), .val (.int p3), .val (.int p4), .val (.int p5), .val (.int p6), .val (.int i134), .unset, .unset, .unset, .unset, .unset, .unset, .unset, .unset, .unset, .unset, .unset, .unset, .unset, .unset]) X0 C at_4 h_i134 rfl rfl ?_
  refine g_iloadN X0 C at_6 rfl rfl ?_
  refine g_bipush (v := 127) X0 C at_7 (by decide) rfl ?_
  refine g_iand X0 C at_9 rfl ?_
  obtain ⟨i135, h_i135⟩ : ∃ z, z = (p2 &&& (127 : Int32)) := ⟨_, rfl⟩
  obtain ⟨ha, hha, hbha⟩ : ∃ n : Nat, i135.toInt = n ∧ n < 128 := by
    have g1 := c_mask p2 127 7 (by decide) (by decide)
    rw [← h_i135] at g1; simp only [Nat.reducePow] at g1
    exact ⟨i135.toInt.toNat, by omega, by omega⟩
  refine g_istore (L' := #[.val (.int p1), .val (.int p2), .val (.int p3), .val (.int p4), .val (.int p5), .val (.int p6), .val (.int i134), .val (.int i135), .unset, .unset, .unset, .unset, .unset, .unset, .unset, .unset, .unset, .unset, .unset, .unset, .unset]) X0 C at_10 h_i135 rfl rfl ?_
  refine g_iloadN X0 C at_12 rfl rfl ?_
  refine g_bipush (v := 127) X0 C at_13 (by decide) rfl ?_
  refine g_iand X0 C at_15 rfl ?_
  obtain ⟨i136, h_i136⟩ : ∃ z, z = (p3 &&& (127 : Int32)) := ⟨_, rfl⟩
  obtain ⟨lb, hlb, hblb⟩ : ∃ n : Nat, i136.toInt = n ∧ n < 128 := by
    have g1 := c_mask p3 127 7 (by decide) (by decide)
    rw [← h_i136] at g1; simp only [Nat.reducePow] at g1
    exact ⟨i136.toInt.toNat, by omega, by omega⟩
  refine g_istore (L' := #[.val (.int p1), .val (.int p2), .val (.int p3), .val (.int p4), .val (.int p5), .val (.int p6), .val (.int i134), .val (.int i135), .val (.int i136), .unset, .unset, .unset, .unset, .unset, .unset, .unset, .unset, .unset, .unset, .unset, .unset]) X0 C at_16 h_i136 rfl rfl ?_
  refine g_iloadN X0 C at_18 rfl rfl ?_
  refine g_bipush (v := 127) X0 C at_19 (by decide) rfl ?_
  refine g_iand X0 C at_21 rfl ?_
  obtain ⟨i137, h_i137⟩ : ∃ z, z = (p4 &&& (127 : Int32)) := ⟨_, rfl⟩
  obtain ⟨hbb, hhbb, hbhbb⟩ : ∃ n : Nat, i137.toInt = n ∧ n < 128 := by
    have g1 := c_mask p4 127 7 (by decide) (by decide)
    rw [← h_i137] at g1; simp only [Nat.reducePow] at g1
    exact ⟨i137.toInt.toNat, by omega, by omega⟩
  refine g_istore (L' := #[.val (.int p1), .val (.int p2), .val (.int p3), .val (.int p4), .val (.int p5), .val (.int p6), .val (.int i134), .val (.int i135), .val (.int i136), .val (.int i137), .unset, .unset, .unset, .unset, .unset, .unset, .unset, .unset, .unset, .unset, .unset]) X0 C at_22 h_i137 rfl rfl ?_
  refine g_iload X0 C at_24 rfl rfl ?_
  refine g_iconst (v := 1) X0 C at_26 (by decide) rfl ?_
  refine g_iand X0 C at_27 rfl ?_
  have J36_138 : ∀ (i138 : Int32) (_ : ((p5 &&& (1 : Int32)).toInt = 0 ∧ i138 = (0 : Int32) ∧ i138.toInt = 0) ∨ ((p5 &&& (1 : Int32)).toInt ≠ 0 ∧ i138 = (1 : Int32) ∧ i138.toInt = 1)), Go p e below RS T0 (mkF m 36 #[.val (.int p1), .val (.int p2), .val (.int p3), .val (.int p4), .val (.int p5), .val (.int p6), .val (.int i134), .val (.int i135), .val (.int i136), .val (.int i137), .unset, .unset, .unset, .unset, .unset, .unset, .unset, .unset, .unset, .unset, .unset] [(.int i138)]) := by
    intro i138 hJ36
    have hna : i138.toInt = 0 ∨ i138.toInt = 1 := by omega
    refine g_istore (L' := #[.val (.int p1), .val (.int p2), .val (.int p3), .val (.int p4), .val (.int p5), .val (.int p6), .val (.int i134), .val (.int i135), .val (.int i136), .val (.int i137), .val (.int i138), .unset, .unset, .unset, .unset, .unset, .unset, .unset, .unset, .unset, .unset]) X0 C at_36 rfl rfl rfl ?_
    refine g_iload X0 C at_38 rfl rfl ?_
    refine g_iconst (v := 2) X0 C at_40 (by decide) rfl ?_
    refine g_iand X0 C at_41 rfl ?_
    have J50_140 : ∀ (i140 : Int32) (_ : ((p5 &&& (2 : Int32)).toInt = 0 ∧ i140 = (0 : Int32) ∧ i140.toInt = 0) ∨ ((p5 &&& (2 : Int32)).toInt ≠ 0 ∧ i140 = (1 : Int32) ∧ i140.toInt = 1)), Go p e below RS T0 (mkF m 50 #[.val (.int p1), .val (.int p2), .val (.int p3), .val (.int p4), .val (.int p5), .val (.int p6), .val (.int i134), .val (.int i135), .val (.int i136), .val (.int i137), .val (.int i138), .unset, .unset, .unset, .unset, .unset, .unset, .unset, .unset, .unset, .unset] [(.int i140)]) := by
      intro i140 hJ50
      have hnb : i140.toInt = 0 ∨ i140.toInt = 1 := by omega
      refine g_istore (L' := #[.val (.int p1), .val (.int p2), .val (.int p3), .val (.int p4), .val (.int p5), .val (.int p6), .val (.int i134), .val (.int i135), .val (.int i136), .val (.int i137), .val (.int i138), .val (.int i140), .unset, .unset, .unset, .unset, .unset, .unset, .unset, .unset, .unset]) X0 C at_50 rfl rfl rfl ?_
      refine g_iload X0 C at_52 rfl rfl ?_
      refine g_ldcI X0 C (hw _ (List.mem_of_getElem? (i := 0) rfl)) at_54 rfl ?_
      refine g_iand X0 C at_56 rfl ?_
      refine g_sipush (v := 129) X0 C at_57 (by decide) rfl ?_
      refine g_irem X0 C at_60 (by decide) rfl ?_
      obtain ⟨i142, h_i142⟩ : ∃ z, z = ((p6 &&& (2147483647 : Int32)) % (129 : Int32)) := ⟨_, rfl⟩
      obtain ⟨sn, hsn, hbsn⟩ : ∃ n : Nat, i142.toInt = n ∧ n < 129 := by
        have g1 := c_mask p6 2147483647 31 (by decide) (by decide)
        have g2 := (c_irem (p6 &&& 2147483647) 129 129 (by decide)).1
        rw [← h_i142] at g2; rw [g1] at g2; simp only [Nat.reducePow] at g2
        exact ⟨i142.toInt.toNat, by omega, by omega⟩
      refine g_istore (L' := #[.val (.int p1), .val (.int p2), .val (.int p3), .val (.int p4), .val (.int p5), .val (.int p6), .val (.int i134), .val (.int i135), .val (.int i136), .val (.int i137), .val (.int i138), .val (.int i140), .val (.int i142), .unset, .unset, .unset, .unset, .unset, .unset, .unset, .unset]) X0 C at_61 h_i142 rfl rfl ?_
      refine g_iload X0 C at_63 rfl rfl ?_
      refine g_i2c X0 C at_65 rfl ?_
      refine g_iload X0 C at_66 rfl rfl ?_
      refine g_i2c X0 C at_68 rfl ?_
      refine g_static (argsL := [(.int i134.toUInt32.toUInt16.toUInt32.toInt32), (.int i135.toUInt32.toUInt16.toUInt32.toInt32)]) (rest := []) (W := 0) X0 C (rmR l Z a0 hw (i134.toUInt32.toUInt16.toUInt32.toInt32) (i135.toUInt32.toUInt16.toUInt32.toInt32) la ha h0 n0 hz0 (by have g := c_i2c i134; omega) (by have g := c_i2c i135; omega) (by omega) (by omega) []) (hw _ (List.mem_of_getElem? (i := 1) rfl)) (hw _ (List.mem_of_getElem? (i := 2) rfl)) (hw _ (List.mem_of_getElem? (i := 3) rfl)) (hw _ (List.mem_of_getElem? (i := 4) rfl)) (by decide) pd_1 rfl rfl rfl rfl rfl (by decide) (by decide) (by decide) (by decide) at_69 rfl (fun r146 T143 h145 hQ147 X144 => ?_)
      obtain ⟨b148, b149, rfl, sz0_b148, sz0_b149, ne_b148_b149, O_b148, A_b149, KR⟩ := hQ147
      have ga_b148 : Lo n0 b148 := Lo.tr hz0 sz0_b148
      have ga_b149 : Lo n0 b149 := Lo.tr hz0 sz0_b149
      have hz150 : Lo n0 h145.size := Lo.keep hz0 KR
      show Go p e below RS T143 (mkF m 72 #[.val (.int p1), .val (.int p2), .val (.int p3), .val (.int p4), .val (.int p5), .val (.int p6), .val (.int i134), .val (.int i135), .val (.int i136), .val (.int i137), .val (.int i138), .val (.int i140), .val (.int i142), .unset, .unset, .unset, .unset, .unset, .unset, .unset, .unset] [(.ref b148)])
      refine g_astore (L' := #[.val (.int p1), .val (.int p2), .val (.int p3), .val (.int p4), .val (.int p5), .val (.int p6), .val (.int i134), .val (.int i135), .val (.int i136), .val (.int i137), .val (.int i138), .val (.int i140), .val (.int i142), .val (.ref b148), .unset, .unset, .unset, .unset, .unset, .unset, .unset]) X144 C at_72 rfl rfl rfl ?_
      refine g_iload X144 C at_74 rfl rfl ?_
      refine g_if_eq (a := i138.toInt) X144 C at_76 rfl (by decide) (pT := 86) (by decide) (pF := 79) rfl (fun hc76 => ?_) (fun hc76 => ?_)
      ·
        refine g_iload X144 C at_86 rfl rfl ?_
        refine g_i2c X144 C at_88 rfl ?_
        refine g_iload X144 C at_89 rfl rfl ?_
        refine g_i2c X144 C at_91 rfl ?_
        refine g_static (argsL := [(.int i136.toUInt32.toUInt16.toUInt32.toInt32), (.int i137.toUInt32.toUInt16.toUInt32.toInt32)]) (rest := []) (W := 0) X144 C (rmR l Z a0 hw (i136.toUInt32.toUInt16.toUInt32.toInt32) (i137.toUInt32.toUInt16.toUInt32.toInt32) lb hbb h145 n0 hz150 (by have g := c_i2c i136; omega) (by have g := c_i2c i137; omega) (by omega) (by omega) []) (hw _ (List.mem_of_getElem? (i := 1) rfl)) (hw _ (List.mem_of_getElem? (i := 2) rfl)) (hw _ (List.mem_of_getElem? (i := 3) rfl)) (hw _ (List.mem_of_getElem? (i := 4) rfl)) (by decide) pd_1 rfl rfl rfl rfl rfl (by decide) (by decide) (by decide) (by decide) at_92 rfl (fun r154 T151 h153 hQ155 X152 => ?_)
        obtain ⟨b156, b157, rfl, sz0_b156, sz0_b157, ne_b156_b157, O_b156, A_b157, KR⟩ := hQ155
        have ne_b148_b156 : NE b148 b156 := lone O_b148.lt sz0_b156
        have ne_b148_b157 : NE b148 b157 := lone O_b148.lt sz0_b157
        have ne_b149_b156 : NE b149 b156 := lone A_b149.lt sz0_b156
        have ne_b149_b157 : NE b149 b157 := lone A_b149.lt sz0_b157
        have ga_b156 : Lo n0 b156 := Lo.tr hz150 sz0_b156
        have ga_b157 : Lo n0 b157 := Lo.tr hz150 sz0_b157
        have O_b148 := O_b148.keep KR nin0
        have A_b149 := A_b149.keep KR nin0
        have hz158 : Lo n0 h153.size := Lo.keep hz150 KR
        show Go p e below RS T151 (mkF m 95 #[.val (.int p1), .val (.int p2), .val (.int p3), .val (.int p4), .val (.int p5), .val (.int p6), .val (.int i134), .val (.int i135), .val (.int i136), .val (.int i137), .val (.int i138), .val (.int i140), .val (.int i142), .val (.ref b148), .unset, .unset, .unset, .unset, .unset, .unset, .unset] [(.ref b156)])
        refine g_astore (L' := #[.val (.int p1), .val (.int p2), .val (.int p3), .val (.int p4), .val (.int p5), .val (.int p6), .val (.int i134), .val (.int i135), .val (.int i136), .val (.int i137), .val (.int i138), .val (.int i140), .val (.int i142), .val (.ref b148), .val (.ref b156), .unset, .unset, .unset, .unset, .unset, .unset]) X152 C at_95 rfl rfl rfl ?_
        refine g_iload X152 C at_97 rfl rfl ?_
        refine g_if_eq (a := i140.toInt) X152 C at_99 rfl (by decide) (pT := 109) (by decide) (pF := 102) rfl (fun hc99 => ?_) (fun hc99 => ?_)
        ·
          refine g_newO (vs := [.null, (.int (0 : Int32))]) X152 C (hw _ (List.mem_of_getElem? (i := 16) rfl)) (CF_CC hw) (hw _ (List.mem_of_getElem? (i := 3) rfl)) (by decide) (by decide) (by decide) at_109 rfl (fun T159 h161 b163 hb164 X160 O_b163 K162 => ?_)
          have ne_b148_b163 : NE b148 b163 := hb164.ne O_b148.lt
          have ne_b149_b163 : NE b149 b163 := hb164.ne A_b149.lt
          have ne_b156_b163 : NE b156 b163 := hb164.ne O_b156.lt
          have ne_b157_b163 : NE b157 b163 := hb164.ne A_b157.lt
          have ga_b163 : Lo n0 b163 := Sz.lo hb164 hz158
          have O_b148 := O_b148.keep K162 nin0
          have A_b149 := A_b149.keep K162 nin0
          have O_b156 := O_b156.keep K162 nin0
          have A_b157 := A_b157.keep K162 nin0
          have hz165 : Lo n0 h161.size := Lo.keep hz158 K162
          refine g_dup X160 C at_112 rfl rfl ?_
          have O0_b163 := O_b163
          refine g_special (argsL := []) (rest := [(.ref b163)]) (W := 1) (a := b163) X160 C (rmI l Z a0 hw b163 h161 n0 hz165 ga_b163 O_b163 []) rfl rfl (hw _ (List.mem_of_getElem? (i := 17) rfl)) (hw _ (List.mem_of_getElem? (i := 8) rfl)) (hw _ (List.mem_of_getElem? (i := 3) rfl)) (hw _ (List.mem_of_getElem? (i := 9) rfl)) (by decide) pd_0 rfl rfl rfl rfl rfl (by decide) (by decide) (by decide) (by decide) at_113 rfl (fun r169 T166 h168 hQ170 X167 => ?_)
          obtain ⟨rfl, KI, b171, sz0_b171, O_b163, A_b171⟩ := hQ170
          have ne_b148_b171 : NE b148 b171 := lone O_b148.lt sz0_b171
          have ne_b149_b171 : NE b149 b171 := lone A_b149.lt sz0_b171
          have ne_b156_b171 : NE b156 b171 := lone O_b156.lt sz0_b171
          have ne_b157_b171 : NE b157 b171 := lone A_b157.lt sz0_b171
          have ne_b163_b171 : NE b163 b171 := lone O0_b163.lt sz0_b171
          have ga_b171 : Lo n0 b171 := Lo.tr hz165 sz0_b171
          have O_b148 := O_b148.keep KI (ninN ne_b148_b163 nin0)
          have A_b149 := A_b149.keep KI (ninN ne_b149_b163 nin0)
          have O_b156 := O_b156.keep KI (ninN ne_b156_b163 nin0)
          have A_b157 := A_b157.keep KI (ninN ne_b157_b163 nin0)
          have hz172 : Lo n0 h168.size := Lo.keep hz165 KI
          show Go p e below RS T166 (mkF m 116 #[.val (.int p1), .val (.int p2), .val (.int p3), .val (.int p4), .val (.int p5), .val (.int p6), .val (.int i134), .val (.int i135), .val (.int i136), .val (.int i137), .val (.int i138), .val (.int i140), .val (.int i142), .val (.ref b148), .val (.ref b156), .unset, .unset, .unset, .unset, .unset, .unset] [(.ref b163)])
          refine g_astore (L' := #[.val (.int p1), .val (.int p2), .val (.int p3), .val (.int p4), .val (.int p5), .val (.int p6), .val (.int i134), .val (.int i135), .val (.int i136), .val (.int i137), .val (.int i138), .val (.int i140), .val (.int i142), .val (.ref b148), .val (.ref b156), .val (.ref b163), .unset, .unset, .unset, .unset, .unset]) X167 C at_116 rfl rfl rfl ?_
          refine g_aload X167 C at_118 rfl rfl rfl ?_
          refine g_aload X167 C at_120 rfl rfl rfl ?_
          have Af : Ar Z h168 b171 .boolean 128 (fun k => .int (own_v ((fun _ => false) k))) := A_b171
          refine g_virtual (argsL := [(.ref b148)]) (rest := []) (W := 0) (a := b163) X167 C (rmA l Z a0 hw b163 b148 b171 b149 (0 : Int32) (0 : Int32) (fun _ => false) (fun k => decide (la ≤ k ∧ k ≤ ha)) h168 n0 hz172 ga_b163 ga_b171 ne_b163_b171 ne_b148_b171 ne_b149_b171 ne_b148_b163 ne_b149_b163 O_b163 O_b148 Af A_b149 []) O_b163.1 (hw _ (List.mem_of_getElem? (i := 18) rfl)) (hw _ (List.mem_of_getElem? (i := 19) rfl)) (hw _ (List.mem_of_getElem? (i := 21) rfl)) (hw _ (List.mem_of_getElem? (i := 20) rfl)) (hw _ (List.mem_of_getElem? (i := 3) rfl)) (hw _ (List.mem_of_getElem? (i := 22) rfl)) (by decide) pd_2 rfl rfl rfl rfl rfl (by decide) (by decide) (by decide) (by decide) at_122 rfl (fun r176 T173 h175 hQ177 X174 => ?_)
          obtain ⟨rfl, KA, O_b163, O_b148, A_b171, A_b149⟩ := hQ177
          have hz178 : Lo n0 h175.size := Lo.keep hz172 KA
          have O_b156 := O_b156.keep KA (ninN ne_b156_b163 (ninN ne_b156_b171 nin0))
          have A_b157 := A_b157.keep KA (ninN ne_b157_b163 (ninN ne_b157_b171 nin0))
          show Go p e below RS T173 (mkF m 125 #[.val (.int p1), .val (.int p2), .val (.int p3), .val (.int p4), .val (.int p5), .val (.int p6), .val (.int i134), .val (.int i135), .val (.int i136), .val (.int i137), .val (.int i138), .val (.int i140), .val (.int i142), .val (.ref b148), .val (.ref b156), .val (.ref b163), .unset, .unset, .unset, .unset, .unset] [])
          refine g_aload X174 C at_125 rfl rfl rfl ?_
          refine g_aload X174 C at_127 rfl rfl rfl ?_
          have Af : Ar Z h175 b171 .boolean 128 (fun k => .int (own_v ((fun k => ((fun _ => false) k || (fun k => decide (la ≤ k ∧ k ≤ ha)) k)) k))) := A_b171
          refine g_virtual (argsL := [(.ref b156)]) (rest := []) (W := 0) (a := b163) X174 C (rmA l Z a0 hw b163 b156 b171 b157 (own_add (0 : Int32) (0 : Int32)) (0 : Int32) (fun k => ((fun _ => false) k || (fun k => decide (la ≤ k ∧ k ≤ ha)) k)) (fun k => decide (lb ≤ k ∧ k ≤ hbb)) h175 n0 hz178 ga_b163 ga_b171 ne_b163_b171 ne_b156_b171 ne_b157_b171 ne_b156_b163 ne_b157_b163 O_b163 O_b156 Af A_b157 []) O_b163.1 (hw _ (List.mem_of_getElem? (i := 18) rfl)) (hw _ (List.mem_of_getElem? (i := 19) rfl)) (hw _ (List.mem_of_getElem? (i := 21) rfl)) (hw _ (List.mem_of_getElem? (i := 20) rfl)) (hw _ (List.mem_of_getElem? (i := 3) rfl)) (hw _ (List.mem_of_getElem? (i := 22) rfl)) (by decide) pd_2 rfl rfl rfl rfl rfl (by decide) (by decide) (by decide) (by decide) at_129 rfl (fun r182 T179 h181 hQ183 X180 => ?_)
          obtain ⟨rfl, KA, O_b163, O_b156, A_b171, A_b157⟩ := hQ183
          have hz184 : Lo n0 h181.size := Lo.keep hz178 KA
          have O_b148 := O_b148.keep KA (ninN ne_b148_b163 (ninN ne_b148_b171 nin0))
          have A_b149 := A_b149.keep KA (ninN ne_b149_b163 (ninN ne_b149_b171 nin0))
          show Go p e below RS T179 (mkF m 132 #[.val (.int p1), .val (.int p2), .val (.int p3), .val (.int p4), .val (.int p5), .val (.int p6), .val (.int i134), .val (.int i135), .val (.int i136), .val (.int i137), .val (.int i138), .val (.int i140), .val (.int i142), .val (.ref b148), .val (.ref b156), .val (.ref b163), .unset, .unset, .unset, .unset, .unset] [])
          refine g_iload X180 C at_132 rfl rfl ?_
          refine g_iload X180 C at_134 rfl rfl ?_
          refine g_iload X180 C at_136 rfl rfl ?_
          refine g_iload X180 C at_138 rfl rfl ?_
          refine g_static (argsL := [(.int i134), (.int i135), (.int i138), (.int i142)]) (rest := []) (W := 0) X180 C (rmH l Z a0 hw i134 i135 i138 i142 h181 n0 hz184 hna []) (hw _ (List.mem_of_getElem? (i := 25) rfl)) (hw _ (List.mem_of_getElem? (i := 26) rfl)) (hw _ (List.mem_of_getElem? (i := 27) rfl)) (hw _ (List.mem_of_getElem? (i := 28) rfl)) (by decide) pd_3 rfl rfl rfl rfl rfl (by decide) (by decide) (by decide) (by decide) at_140 rfl (fun r188 T185 h187 hQ189 X186 => ?_)
          obtain ⟨i190, rfl, hinA, hh⟩ := hQ189; rw [hh] at X186
          show Go p e below RS T185 (mkF m 143 #[.val (.int p1), .val (.int p2), .val (.int p3), .val (.int p4), .val (.int p5), .val (.int p6), .val (.int i134), .val (.int i135), .val (.int i136), .val (.int i137), .val (.int i138), .val (.int i140), .val (.int i142), .val (.ref b148), .val (.ref b156), .val (.ref b163), .unset, .unset, .unset, .unset, .unset] [(.int i190)])
          refine g_istore (L' := #[.val (.int p1), .val (.int p2), .val (.int p3), .val (.int p4), .val (.int p5), .val (.int p6), .val (.int i134), .val (.int i135), .val (.int i136), .val (.int i137), .val (.int i138), .val (.int i140), .val (.int i142), .val (.ref b148), .val (.ref b156), .val (.ref b163), .val (.int i190), .unset, .unset, .unset, .unset]) X186 C at_143 rfl rfl rfl ?_
          refine g_iload X186 C at_145 rfl rfl ?_
          refine g_iload X186 C at_147 rfl rfl ?_
          refine g_iload X186 C at_149 rfl rfl ?_
          refine g_iload X186 C at_151 rfl rfl ?_
          refine g_static (argsL := [(.int i136), (.int i137), (.int i140), (.int i142)]) (rest := []) (W := 0) X186 C (rmH l Z a0 hw i136 i137 i140 i142 h181 n0 hz184 hnb []) (hw _ (List.mem_of_getElem? (i := 25) rfl)) (hw _ (List.mem_of_getElem? (i := 26) rfl)) (hw _ (List.mem_of_getElem? (i := 27) rfl)) (hw _ (List.mem_of_getElem? (i := 28) rfl)) (by decide) pd_3 rfl rfl rfl rfl rfl (by decide) (by decide) (by decide) (by decide) at_153 rfl (fun r194 T191 h193 hQ195 X192 => ?_)
          obtain ⟨i196, rfl, hinB, hh⟩ := hQ195; rw [hh] at X192
          show Go p e below RS T191 (mkF m 156 #[.val (.int p1), .val (.int p2), .val (.int p3), .val (.int p4), .val (.int p5), .val (.int p6), .val (.int i134), .val (.int i135), .val (.int i136), .val (.int i137), .val (.int i138), .val (.int i140), .val (.int i142), .val (.ref b148), .val (.ref b156), .val (.ref b163), .val (.int i190), .unset, .unset, .unset, .unset] [(.int i196)])
          refine g_istore (L' := #[.val (.int p1), .val (.int p2), .val (.int p3), .val (.int p4), .val (.int p5), .val (.int p6), .val (.int i134), .val (.int i135), .val (.int i136), .val (.int i137), .val (.int i138), .val (.int i140), .val (.int i142), .val (.ref b148), .val (.ref b156), .val (.ref b163), .val (.int i190), .val (.int i196), .unset, .unset, .unset]) X192 C at_156 rfl rfl rfl ?_
          refine g_iload X192 C at_158 rfl rfl ?_
          have J173_197 : ∀ (i197 : Int32) (_ : (i190.toInt ≠ 0 ∧ i197 = (1 : Int32) ∧ i197.toInt = 1) ∨ (i190.toInt = 0 ∧ i196.toInt = 0 ∧ i197 = (0 : Int32) ∧ i197.toInt = 0) ∨ (i190.toInt = 0 ∧ i196.toInt ≠ 0 ∧ i197 = (1 : Int32) ∧ i197.toInt = 1)), Go p e below RS T191 (mkF m 173 #[.val (.int p1), .val (.int p2), .val (.int p3), .val (.int p4), .val (.int p5), .val (.int p6), .val (.int i134), .val (.int i135), .val (.int i136), .val (.int i137), .val (.int i138), .val (.int i140), .val (.int i142), .val (.ref b148), .val (.ref b156), .val (.ref b163), .val (.int i190), .val (.int i196), .unset, .unset, .unset] [(.int i197)]) := by
            intro i197 hJ173
            refine g_istore (L' := #[.val (.int p1), .val (.int p2), .val (.int p3), .val (.int p4), .val (.int p5), .val (.int p6), .val (.int i134), .val (.int i135), .val (.int i136), .val (.int i137), .val (.int i138), .val (.int i140), .val (.int i142), .val (.ref b148), .val (.ref b156), .val (.ref b163), .val (.int i190), .val (.int i196), .val (.int i197), .unset, .unset]) X192 C at_173 rfl rfl rfl ?_
            refine g_iload X192 C at_175 rfl rfl ?_
            have J185_199 : ∀ (i199 : Int32) (_ : (i190.toInt = 0 ∧ i199 = (0 : Int32) ∧ i199.toInt = 0) ∨ (i190.toInt ≠ 0 ∧ i199 = (1 : Int32) ∧ i199.toInt = 1)), Go p e below RS T191 (mkF m 185 #[.val (.int p1), .val (.int p2), .val (.int p3), .val (.int p4), .val (.int p5), .val (.int p6), .val (.int i134), .val (.int i135), .val (.int i136), .val (.int i137), .val (.int i138), .val (.int i140), .val (.int i142), .val (.ref b148), .val (.ref b156), .val (.ref b163), .val (.int i190), .val (.int i196), .val (.int i197), .unset, .unset] [(.int i199)]) := by
              intro i199 hJ185
              refine g_istore (L' := #[.val (.int p1), .val (.int p2), .val (.int p3), .val (.int p4), .val (.int p5), .val (.int p6), .val (.int i134), .val (.int i135), .val (.int i136), .val (.int i137), .val (.int i138), .val (.int i140), .val (.int i142), .val (.ref b148), .val (.ref b156), .val (.ref b163), .val (.int i190), .val (.int i196), .val (.int i197), .val (.int i199), .unset]) X192 C at_185 rfl rfl rfl ?_
              refine g_iload X192 C at_187 rfl rfl ?_
              have J197_201 : ∀ (i201 : Int32) (_ : (i196.toInt = 0 ∧ i201 = (0 : Int32) ∧ i201.toInt = 0) ∨ (i196.toInt ≠ 0 ∧ i201 = (1 : Int32) ∧ i201.toInt = 1)), Go p e below RS T191 (mkF m 197 #[.val (.int p1), .val (.int p2), .val (.int p3), .val (.int p4), .val (.int p5), .val (.int p6), .val (.int i134), .val (.int i135), .val (.int i136), .val (.int i137), .val (.int i138), .val (.int i140), .val (.int i142), .val (.ref b148), .val (.ref b156), .val (.ref b163), .val (.int i190), .val (.int i196), .val (.int i197), .val (.int i199), .unset] [(.int i201)]) := by
                intro i201 hJ197
                refine g_istore (L' := #[.val (.int p1), .val (.int p2), .val (.int p3), .val (.int p4), .val (.int p5), .val (.int p6), .val (.int i134), .val (.int i135), .val (.int i136), .val (.int i137), .val (.int i138), .val (.int i140), .val (.int i142), .val (.ref b148), .val (.ref b156), .val (.ref b163), .val (.int i190), .val (.int i196), .val (.int i197), .val (.int i199), .val (.int i201)]) X192 C at_197 rfl rfl rfl ?_
                refine g_aload X192 C at_199 rfl rfl rfl ?_
                refine g_iload X192 C at_201 rfl rfl ?_
                refine g_virtual (argsL := [(.int i142)]) (rest := []) (W := 0) (a := b163) X192 C (rmT l Z a0 hw b163 b171 i142 (own_add (own_add (0 : Int32) (0 : Int32)) (0 : Int32)) (fun k => ((fun k => ((fun _ => false) k || (fun k => decide (la ≤ k ∧ k ≤ ha)) k)) k || (fun k => decide (lb ≤ k ∧ k ≤ hbb)) k)) sn h181 n0 hz184 hsn (by omega) O_b163 A_b171 []) O_b163.1 (hw _ (List.mem_of_getElem? (i := 29) rfl)) (hw _ (List.mem_of_getElem? (i := 30) rfl)) (hw _ (List.mem_of_getElem? (i := 32) rfl)) (hw _ (List.mem_of_getElem? (i := 31) rfl)) (hw _ (List.mem_of_getElem? (i := 3) rfl)) (hw _ (List.mem_of_getElem? (i := 33) rfl)) (by decide) pd_4 rfl rfl rfl rfl rfl (by decide) (by decide) (by decide) (by decide) at_203 rfl (fun r206 T203 h205 hQ207 X204 => ?_)
                obtain ⟨rfl, hh⟩ := hQ207; rw [hh] at X204
                obtain ⟨i208, h_i208⟩ : ∃ z, z = (if sn = 128 then (own_add (own_add (0 : Int32) (0 : Int32)) (0 : Int32)) else own_v ((fun k => ((fun k => ((fun _ => false) k || (fun k => decide (la ≤ k ∧ k ≤ ha)) k)) k || (fun k => decide (lb ≤ k ∧ k ≤ hbb)) k)) sn)) := ⟨_, rfl⟩
                rw [← h_i208]
                have hsR : i208.toInt = i197.toInt := by
                  have q0 : (0 : Int32).toInt = 0 := (by decide)
                  have q1 : (1 : Int32).toInt = 1 := (by decide)
                  rw [h_i208]; by_cases q : sn = 128
                  · rw [if_pos q, show (own_add (own_add (0 : Int32) (0 : Int32)) (0 : Int32)) = 0 by decide]; omega
                  · rw [if_neg q]
                    by_cases u : la ≤ sn ∧ sn ≤ ha <;> by_cases v : lb ≤ sn ∧ sn ≤ hbb <;> simp only [u, v, and_self, decide_true, decide_false, Bool.not_true, Bool.not_false, Bool.or_true, Bool.or_false, Bool.true_or, Bool.false_or]
                    all_goals first | rw [show own_v true = 1 from rfl] | rw [show own_v false = 0 from rfl]
                    all_goals omega
                show Go p e below RS T203 (mkF m 206 #[.val (.int p1), .val (.int p2), .val (.int p3), .val (.int p4), .val (.int p5), .val (.int p6), .val (.int i134), .val (.int i135), .val (.int i136), .val (.int i137), .val (.int i138), .val (.int i140), .val (.int i142), .val (.ref b148), .val (.ref b156), .val (.ref b163), .val (.int i190), .val (.int i196), .val (.int i197), .val (.int i199), .val (.int i201)] [(.int i208)])
                refine g_iload X204 C at_206 rfl rfl ?_
                refine g_icmp_ne (a := i208.toInt) (b := i197.toInt) X204 C at_208 rfl rfl (by decide) (pT := 239) (by decide) (pF := 211) rfl (fun hc208 => absurd hc208 (by omega)) (fun hc208 => ?_)
                refine g_aload X204 C at_211 rfl rfl rfl ?_
                refine g_iload X204 C at_213 rfl rfl ?_
                refine g_virtual (argsL := [(.int i142)]) (rest := []) (W := 0) (a := b148) X204 C (rmT l Z a0 hw b148 b149 i142 (0 : Int32) (fun k => decide (la ≤ k ∧ k ≤ ha)) sn h181 n0 hz184 hsn (by omega) O_b148 A_b149 []) O_b148.1 (hw _ (List.mem_of_getElem? (i := 29) rfl)) (hw _ (List.mem_of_getElem? (i := 30) rfl)) (hw _ (List.mem_of_getElem? (i := 32) rfl)) (hw _ (List.mem_of_getElem? (i := 31) rfl)) (hw _ (List.mem_of_getElem? (i := 3) rfl)) (hw _ (List.mem_of_getElem? (i := 33) rfl)) (by decide) pd_4 rfl rfl rfl rfl rfl (by decide) (by decide) (by decide) (by decide) at_215 rfl (fun r212 T209 h211 hQ213 X210 => ?_)
                obtain ⟨rfl, hh⟩ := hQ213; rw [hh] at X210
                obtain ⟨i214, h_i214⟩ : ∃ z, z = (if sn = 128 then (0 : Int32) else own_v ((fun k => decide (la ≤ k ∧ k ≤ ha)) sn)) := ⟨_, rfl⟩
                rw [← h_i214]
                have hsA : i214.toInt = i199.toInt := by
                  have q0 : (0 : Int32).toInt = 0 := (by decide)
                  have q1 : (1 : Int32).toInt = 1 := (by decide)
                  rw [h_i214]; by_cases q : sn = 128
                  · rw [if_pos q, show (0 : Int32) = 0 by decide]; omega
                  · rw [if_neg q]
                    by_cases u : la ≤ sn ∧ sn ≤ ha <;> by_cases v : lb ≤ sn ∧ sn ≤ hbb <;> simp only [u, v, and_self, decide_true, decide_false, Bool.not_true, Bool.not_false, Bool.or_true, Bool.or_false, Bool.true_or, Bool.false_or]
                    all_goals first | rw [show own_v true = 1 from rfl] | rw [show own_v false = 0 from rfl]
                    all_goals omega
                show Go p e below RS T209 (mkF m 218 #[.val (.int p1), .val (.int p2), .val (.int p3), .val (.int p4), .val (.int p5), .val (.int p6), .val (.int i134), .val (.int i135), .val (.int i136), .val (.int i137), .val (.int i138), .val (.int i140), .val (.int i142), .val (.ref b148), .val (.ref b156), .val (.ref b163), .val (.int i190), .val (.int i196), .val (.int i197), .val (.int i199), .val (.int i201)] [(.int i214)])
                refine g_iload X210 C at_218 rfl rfl ?_
                refine g_icmp_ne (a := i214.toInt) (b := i199.toInt) X210 C at_220 rfl rfl (by decide) (pT := 239) (by decide) (pF := 223) rfl (fun hc220 => absurd hc220 (by omega)) (fun hc220 => ?_)
                refine g_aload X210 C at_223 rfl rfl rfl ?_
                refine g_iload X210 C at_225 rfl rfl ?_
                refine g_virtual (argsL := [(.int i142)]) (rest := []) (W := 0) (a := b156) X210 C (rmT l Z a0 hw b156 b157 i142 (0 : Int32) (fun k => decide (lb ≤ k ∧ k ≤ hbb)) sn h181 n0 hz184 hsn (by omega) O_b156 A_b157 []) O_b156.1 (hw _ (List.mem_of_getElem? (i := 29) rfl)) (hw _ (List.mem_of_getElem? (i := 30) rfl)) (hw _ (List.mem_of_getElem? (i := 32) rfl)) (hw _ (List.mem_of_getElem? (i := 31) rfl)) (hw _ (List.mem_of_getElem? (i := 3) rfl)) (hw _ (List.mem_of_getElem? (i := 33) rfl)) (by decide) pd_4 rfl rfl rfl rfl rfl (by decide) (by decide) (by decide) (by decide) at_227 rfl (fun r218 T215 h217 hQ219 X216 => ?_)
                obtain ⟨rfl, hh⟩ := hQ219; rw [hh] at X216
                obtain ⟨i220, h_i220⟩ : ∃ z, z = (if sn = 128 then (0 : Int32) else own_v ((fun k => decide (lb ≤ k ∧ k ≤ hbb)) sn)) := ⟨_, rfl⟩
                rw [← h_i220]
                have hsB : i220.toInt = i201.toInt := by
                  have q0 : (0 : Int32).toInt = 0 := (by decide)
                  have q1 : (1 : Int32).toInt = 1 := (by decide)
                  rw [h_i220]; by_cases q : sn = 128
                  · rw [if_pos q, show (0 : Int32) = 0 by decide]; omega
                  · rw [if_neg q]
                    by_cases u : la ≤ sn ∧ sn ≤ ha <;> by_cases v : lb ≤ sn ∧ sn ≤ hbb <;> simp only [u, v, and_self, decide_true, decide_false, Bool.not_true, Bool.not_false, Bool.or_true, Bool.or_false, Bool.true_or, Bool.false_or]
                    all_goals first | rw [show own_v true = 1 from rfl] | rw [show own_v false = 0 from rfl]
                    all_goals omega
                show Go p e below RS T215 (mkF m 230 #[.val (.int p1), .val (.int p2), .val (.int p3), .val (.int p4), .val (.int p5), .val (.int p6), .val (.int i134), .val (.int i135), .val (.int i136), .val (.int i137), .val (.int i138), .val (.int i140), .val (.int i142), .val (.ref b148), .val (.ref b156), .val (.ref b163), .val (.int i190), .val (.int i196), .val (.int i197), .val (.int i199), .val (.int i201)] [(.int i220)])
                refine g_iload X216 C at_230 rfl rfl ?_
                refine g_icmp_ne (a := i220.toInt) (b := i201.toInt) X216 C at_232 rfl rfl (by decide) (pT := 239) (by decide) (pF := 235) rfl (fun hc232 => absurd hc232 (by omega)) (fun hc232 => ?_)
                refine g_iconst (v := 1) X216 C at_235 (by decide) rfl ?_
                refine g_goto (pc' := 240) X216 C at_236 (by decide) (by decide) ?_
                rw [hRS]
                refine g_retZ X216 C at_240 ?_ (by decide) (by decide)
                exact rfl
              refine g_if_eq (a := i196.toInt) X192 C at_189 rfl (by decide) (pT := 196) (by decide) (pF := 192) rfl (fun hc189 => ?_) (fun hc189 => ?_)
              ·
                refine g_iconst (v := 0) X192 C at_196 (by decide) rfl ?_
                exact J197_201 (0 : Int32) (Or.inl (⟨hc189, rfl, by decide⟩))
              ·
                refine g_iconst (v := 1) X192 C at_192 (by decide) rfl ?_
                refine g_goto (pc' := 197) X192 C at_193 (by decide) (by decide) ?_
                exact J197_201 (1 : Int32) (Or.inr (⟨hc189, rfl, by decide⟩))
            refine g_if_eq (a := i190.toInt) X192 C at_177 rfl (by decide) (pT := 184) (by decide) (pF := 180) rfl (fun hc177 => ?_) (fun hc177 => ?_)
            ·
              refine g_iconst (v := 0) X192 C at_184 (by decide) rfl ?_
              exact J185_199 (0 : Int32) (Or.inl (⟨hc177, rfl, by decide⟩))
            ·
              refine g_iconst (v := 1) X192 C at_180 (by decide) rfl ?_
              refine g_goto (pc' := 185) X192 C at_181 (by decide) (by decide) ?_
              exact J185_199 (1 : Int32) (Or.inr (⟨hc177, rfl, by decide⟩))
          refine g_if_ne (a := i190.toInt) X192 C at_160 rfl (by decide) (pT := 168) (by decide) (pF := 163) rfl (fun hc160 => ?_) (fun hc160 => ?_)
          ·
            refine g_iconst (v := 1) X192 C at_168 (by decide) rfl ?_
            refine g_goto (pc' := 173) X192 C at_169 (by decide) (by decide) ?_
            exact J173_197 (1 : Int32) (Or.inl (⟨hc160, rfl, by decide⟩))
          ·
            refine g_iload X192 C at_163 rfl rfl ?_
            refine g_if_eq (a := i196.toInt) X192 C at_165 rfl (by decide) (pT := 172) (by decide) (pF := 168) rfl (fun hc165 => ?_) (fun hc165 => ?_)
            ·
              refine g_iconst (v := 0) X192 C at_172 (by decide) rfl ?_
              exact J173_197 (0 : Int32) (Or.inr (Or.inl (⟨hc160, hc165, rfl, by decide⟩)))
            ·
              refine g_iconst (v := 1) X192 C at_168 (by decide) rfl ?_
              refine g_goto (pc' := 173) X192 C at_169 (by decide) (by decide) ?_
              exact J173_197 (1 : Int32) (Or.inr (Or.inr (⟨hc160, hc165, rfl, by decide⟩)))
        ·
          refine g_aload X152 C at_102 rfl rfl rfl ?_
          refine g_virtual (argsL := []) (rest := []) (W := 0) (a := b156) X152 C (rmN l Z a0 hw b156 b157 (0 : Int32) (fun k => decide (lb ≤ k ∧ k ≤ hbb)) h153 n0 hz158 O_b156 A_b157 []) O_b156.1 (hw _ (List.mem_of_getElem? (i := 34) rfl)) (hw _ (List.mem_of_getElem? (i := 35) rfl)) (hw _ (List.mem_of_getElem? (i := 37) rfl)) (hw _ (List.mem_of_getElem? (i := 36) rfl)) (hw _ (List.mem_of_getElem? (i := 3) rfl)) (hw _ (List.mem_of_getElem? (i := 38) rfl)) (by decide) pd_5 rfl rfl rfl rfl rfl (by decide) (by decide) (by decide) (by decide) at_104 rfl (fun r224 T221 h223 hQ225 X222 => ?_)
          obtain ⟨b226, b227, rfl, sz0_b226, sz0_b227, ne_b226_b227, O_b226, A_b227, -, -, KN⟩ := hQ225
          have ne_b148_b226 : NE b148 b226 := lone O_b148.lt sz0_b226
          have ne_b148_b227 : NE b148 b227 := lone O_b148.lt sz0_b227
          have ne_b149_b226 : NE b149 b226 := lone A_b149.lt sz0_b226
          have ne_b149_b227 : NE b149 b227 := lone A_b149.lt sz0_b227
          have ga_b226 : Lo n0 b226 := Lo.tr hz158 sz0_b226
          have ga_b227 : Lo n0 b227 := Lo.tr hz158 sz0_b227
          have O_b148 := O_b148.keep KN nin0
          have A_b149 := A_b149.keep KN nin0
          have hz228 : Lo n0 h223.size := Lo.keep hz158 KN
          show Go p e below RS T221 (mkF m 107 #[.val (.int p1), .val (.int p2), .val (.int p3), .val (.int p4), .val (.int p5), .val (.int p6), .val (.int i134), .val (.int i135), .val (.int i136), .val (.int i137), .val (.int i138), .val (.int i140), .val (.int i142), .val (.ref b148), .val (.ref b156), .unset, .unset, .unset, .unset, .unset, .unset] [(.ref b226)])
          refine g_astore (L' := #[.val (.int p1), .val (.int p2), .val (.int p3), .val (.int p4), .val (.int p5), .val (.int p6), .val (.int i134), .val (.int i135), .val (.int i136), .val (.int i137), .val (.int i138), .val (.int i140), .val (.int i142), .val (.ref b148), .val (.ref b226), .unset, .unset, .unset, .unset, .unset, .unset]) X222 C at_107 rfl rfl rfl ?_
          refine g_newO (vs := [.null, (.int (0 : Int32))]) X222 C (hw _ (List.mem_of_getElem? (i := 16) rfl)) (CF_CC hw) (hw _ (List.mem_of_getElem? (i := 3) rfl)) (by decide) (by decide) (by decide) at_109 rfl (fun T229 h231 b233 hb234 X230 O_b233 K232 => ?_)
          have ne_b148_b233 : NE b148 b233 := hb234.ne O_b148.lt
          have ne_b149_b233 : NE b149 b233 := hb234.ne A_b149.lt
          have ne_b226_b233 : NE b226 b233 := hb234.ne O_b226.lt
          have ne_b227_b233 : NE b227 b233 := hb234.ne A_b227.lt
          have ga_b233 : Lo n0 b233 := Sz.lo hb234 hz228
          have O_b148 := O_b148.keep K232 nin0
          have A_b149 := A_b149.keep K232 nin0
          have O_b226 := O_b226.keep K232 nin0
          have A_b227 := A_b227.keep K232 nin0
          have hz235 : Lo n0 h231.size := Lo.keep hz228 K232
          refine g_dup X230 C at_112 rfl rfl ?_
          have O0_b233 := O_b233
          refine g_special (argsL := []) (rest := [(.ref b233)]) (W := 1) (a := b233) X230 C (rmI l Z a0 hw b233 h231 n0 hz235 ga_b233 O_b233 []) rfl rfl (hw _ (List.mem_of_getElem? (i := 17) rfl)) (hw _ (List.mem_of_getElem? (i := 8) rfl)) (hw _ (List.mem_of_getElem? (i := 3) rfl)) (hw _ (List.mem_of_getElem? (i := 9) rfl)) (by decide) pd_0 rfl rfl rfl rfl rfl (by decide) (by decide) (by decide) (by decide) at_113 rfl (fun r239 T236 h238 hQ240 X237 => ?_)
          obtain ⟨rfl, KI, b241, sz0_b241, O_b233, A_b241⟩ := hQ240
          have ne_b148_b241 : NE b148 b241 := lone O_b148.lt sz0_b241
          have ne_b149_b241 : NE b149 b241 := lone A_b149.lt sz0_b241
          have ne_b226_b241 : NE b226 b241 := lone O_b226.lt sz0_b241
          have ne_b227_b241 : NE b227 b241 := lone A_b227.lt sz0_b241
          have ne_b233_b241 : NE b233 b241 := lone O0_b233.lt sz0_b241
          have ga_b241 : Lo n0 b241 := Lo.tr hz235 sz0_b241
          have O_b148 := O_b148.keep KI (ninN ne_b148_b233 nin0)
          have A_b149 := A_b149.keep KI (ninN ne_b149_b233 nin0)
          have O_b226 := O_b226.keep KI (ninN ne_b226_b233 nin0)
          have A_b227 := A_b227.keep KI (ninN ne_b227_b233 nin0)
          have hz242 : Lo n0 h238.size := Lo.keep hz235 KI
          show Go p e below RS T236 (mkF m 116 #[.val (.int p1), .val (.int p2), .val (.int p3), .val (.int p4), .val (.int p5), .val (.int p6), .val (.int i134), .val (.int i135), .val (.int i136), .val (.int i137), .val (.int i138), .val (.int i140), .val (.int i142), .val (.ref b148), .val (.ref b226), .unset, .unset, .unset, .unset, .unset, .unset] [(.ref b233)])
          refine g_astore (L' := #[.val (.int p1), .val (.int p2), .val (.int p3), .val (.int p4), .val (.int p5), .val (.int p6), .val (.int i134), .val (.int i135), .val (.int i136), .val (.int i137), .val (.int i138), .val (.int i140), .val (.int i142), .val (.ref b148), .val (.ref b226), .val (.ref b233), .unset, .unset, .unset, .unset, .unset]) X237 C at_116 rfl rfl rfl ?_
          refine g_aload X237 C at_118 rfl rfl rfl ?_
          refine g_aload X237 C at_120 rfl rfl rfl ?_
          have Af : Ar Z h238 b241 .boolean 128 (fun k => .int (own_v ((fun _ => false) k))) := A_b241
          refine g_virtual (argsL := [(.ref b148)]) (rest := []) (W := 0) (a := b233) X237 C (rmA l Z a0 hw b233 b148 b241 b149 (0 : Int32) (0 : Int32) (fun _ => false) (fun k => decide (la ≤ k ∧ k ≤ ha)) h238 n0 hz242 ga_b233 ga_b241 ne_b233_b241 ne_b148_b241 ne_b149_b241 ne_b148_b233 ne_b149_b233 O_b233 O_b148 Af A_b149 []) O_b233.1 (hw _ (List.mem_of_getElem? (i := 18) rfl)) (hw _ (List.mem_of_getElem? (i := 19) rfl)) (hw _ (List.mem_of_getElem? (i := 21) rfl)) (hw _ (List.mem_of_getElem? (i := 20) rfl)) (hw _ (List.mem_of_getElem? (i := 3) rfl)) (hw _ (List.mem_of_getElem? (i := 22) rfl)) (by decide) pd_2 rfl rfl rfl rfl rfl (by decide) (by decide) (by decide) (by decide) at_122 rfl (fun r246 T243 h245 hQ247 X244 => ?_)
          obtain ⟨rfl, KA, O_b233, O_b148, A_b241, A_b149⟩ := hQ247
          have hz248 : Lo n0 h245.size := Lo.keep hz242 KA
          have O_b226 := O_b226.keep KA (ninN ne_b226_b233 (ninN ne_b226_b241 nin0))
          have A_b227 := A_b227.keep KA (ninN ne_b227_b233 (ninN ne_b227_b241 nin0))
          show Go p e below RS T243 (mkF m 125 #[.val (.int p1), .val (.int p2), .val (.int p3), .val (.int p4), .val (.int p5), .val (.int p6), .val (.int i134), .val (.int i135), .val (.int i136), .val (.int i137), .val (.int i138), .val (.int i140), .val (.int i142), .val (.ref b148), .val (.ref b226), .val (.ref b233), .unset, .unset, .unset, .unset, .unset] [])
          refine g_aload X244 C at_125 rfl rfl rfl ?_
          refine g_aload X244 C at_127 rfl rfl rfl ?_
          have Af : Ar Z h245 b241 .boolean 128 (fun k => .int (own_v ((fun k => ((fun _ => false) k || (fun k => decide (la ≤ k ∧ k ≤ ha)) k)) k))) := A_b241
          refine g_virtual (argsL := [(.ref b226)]) (rest := []) (W := 0) (a := b233) X244 C (rmA l Z a0 hw b233 b226 b241 b227 (own_add (0 : Int32) (0 : Int32)) (own_neg (0 : Int32)) (fun k => ((fun _ => false) k || (fun k => decide (la ≤ k ∧ k ≤ ha)) k)) (fun k => (!((fun k => decide (lb ≤ k ∧ k ≤ hbb)) k))) h245 n0 hz248 ga_b233 ga_b241 ne_b233_b241 ne_b226_b241 ne_b227_b241 ne_b226_b233 ne_b227_b233 O_b233 O_b226 Af A_b227 []) O_b233.1 (hw _ (List.mem_of_getElem? (i := 18) rfl)) (hw _ (List.mem_of_getElem? (i := 19) rfl)) (hw _ (List.mem_of_getElem? (i := 21) rfl)) (hw _ (List.mem_of_getElem? (i := 20) rfl)) (hw _ (List.mem_of_getElem? (i := 3) rfl)) (hw _ (List.mem_of_getElem? (i := 22) rfl)) (by decide) pd_2 rfl rfl rfl rfl rfl (by decide) (by decide) (by decide) (by decide) at_129 rfl (fun r252 T249 h251 hQ253 X250 => ?_)
          obtain ⟨rfl, KA, O_b233, O_b226, A_b241, A_b227⟩ := hQ253
          have hz254 : Lo n0 h251.size := Lo.keep hz248 KA
          have O_b148 := O_b148.keep KA (ninN ne_b148_b233 (ninN ne_b148_b241 nin0))
          have A_b149 := A_b149.keep KA (ninN ne_b149_b233 (ninN ne_b149_b241 nin0))
          show Go p e below RS T249 (mkF m 132 #[.val (.int p1), .val (.int p2), .val (.int p3), .val (.int p4), .val (.int p5), .val (.int p6), .val (.int i134), .val (.int i135), .val (.int i136), .val (.int i137), .val (.int i138), .val (.int i140), .val (.int i142), .val (.ref b148), .val (.ref b226), .val (.ref b233), .unset, .unset, .unset, .unset, .unset] [])
          refine g_iload X250 C at_132 rfl rfl ?_
          refine g_iload X250 C at_134 rfl rfl ?_
          refine g_iload X250 C at_136 rfl rfl ?_
          refine g_iload X250 C at_138 rfl rfl ?_
          refine g_static (argsL := [(.int i134), (.int i135), (.int i138), (.int i142)]) (rest := []) (W := 0) X250 C (rmH l Z a0 hw i134 i135 i138 i142 h251 n0 hz254 hna []) (hw _ (List.mem_of_getElem? (i := 25) rfl)) (hw _ (List.mem_of_getElem? (i := 26) rfl)) (hw _ (List.mem_of_getElem? (i := 27) rfl)) (hw _ (List.mem_of_getElem? (i := 28) rfl)) (by decide) pd_3 rfl rfl rfl rfl rfl (by decide) (by decide) (by decide) (by decide) at_140 rfl (fun r258 T255 h257 hQ259 X256 => ?_)
          obtain ⟨i260, rfl, hinA, hh⟩ := hQ259; rw [hh] at X256
          show Go p e below RS T255 (mkF m 143 #[.val (.int p1), .val (.int p2), .val (.int p3), .val (.int p4), .val (.int p5), .val (.int p6), .val (.int i134), .val (.int i135), .val (.int i136), .val (.int i137), .val (.int i138), .val (.int i140), .val (.int i142), .val (.ref b148), .val (.ref b226), .val (.ref b233), .unset, .unset, .unset, .unset, .unset] [(.int i260)])
          refine g_istore (L' := #[.val (.int p1), .val (.int p2), .val (.int p3), .val (.int p4), .val (.int p5), .val (.int p6), .val (.int i134), .val (.int i135), .val (.int i136), .val (.int i137), .val (.int i138), .val (.int i140), .val (.int i142), .val (.ref b148), .val (.ref b226), .val (.ref b233), .val (.int i260), .unset, .unset, .unset, .unset]) X256 C at_143 rfl rfl rfl ?_
          refine g_iload X256 C at_145 rfl rfl ?_
          refine g_iload X256 C at_147 rfl rfl ?_
          refine g_iload X256 C at_149 rfl rfl ?_
          refine g_iload X256 C at_151 rfl rfl ?_
          refine g_static (argsL := [(.int i136), (.int i137), (.int i140), (.int i142)]) (rest := []) (W := 0) X256 C (rmH l Z a0 hw i136 i137 i140 i142 h251 n0 hz254 hnb []) (hw _ (List.mem_of_getElem? (i := 25) rfl)) (hw _ (List.mem_of_getElem? (i := 26) rfl)) (hw _ (List.mem_of_getElem? (i := 27) rfl)) (hw _ (List.mem_of_getElem? (i := 28) rfl)) (by decide) pd_3 rfl rfl rfl rfl rfl (by decide) (by decide) (by decide) (by decide) at_153 rfl (fun r264 T261 h263 hQ265 X262 => ?_)
          obtain ⟨i266, rfl, hinB, hh⟩ := hQ265; rw [hh] at X262
          show Go p e below RS T261 (mkF m 156 #[.val (.int p1), .val (.int p2), .val (.int p3), .val (.int p4), .val (.int p5), .val (.int p6), .val (.int i134), .val (.int i135), .val (.int i136), .val (.int i137), .val (.int i138), .val (.int i140), .val (.int i142), .val (.ref b148), .val (.ref b226), .val (.ref b233), .val (.int i260), .unset, .unset, .unset, .unset] [(.int i266)])
          refine g_istore (L' := #[.val (.int p1), .val (.int p2), .val (.int p3), .val (.int p4), .val (.int p5), .val (.int p6), .val (.int i134), .val (.int i135), .val (.int i136), .val (.int i137), .val (.int i138), .val (.int i140), .val (.int i142), .val (.ref b148), .val (.ref b226), .val (.ref b233), .val (.int i260), .val (.int i266), .unset, .unset, .unset]) X262 C at_156 rfl rfl rfl ?_
          refine g_iload X262 C at_158 rfl rfl ?_
          have J173_267 : ∀ (i267 : Int32) (_ : (i260.toInt ≠ 0 ∧ i267 = (1 : Int32) ∧ i267.toInt = 1) ∨ (i260.toInt = 0 ∧ i266.toInt = 0 ∧ i267 = (0 : Int32) ∧ i267.toInt = 0) ∨ (i260.toInt = 0 ∧ i266.toInt ≠ 0 ∧ i267 = (1 : Int32) ∧ i267.toInt = 1)), Go p e below RS T261 (mkF m 173 #[.val (.int p1), .val (.int p2), .val (.int p3), .val (.int p4), .val (.int p5), .val (.int p6), .val (.int i134), .val (.int i135), .val (.int i136), .val (.int i137), .val (.int i138), .val (.int i140), .val (.int i142), .val (.ref b148), .val (.ref b226), .val (.ref b233), .val (.int i260), .val (.int i266), .unset, .unset, .unset] [(.int i267)]) := by
            intro i267 hJ173
            refine g_istore (L' := #[.val (.int p1), .val (.int p2), .val (.int p3), .val (.int p4), .val (.int p5), .val (.int p6), .val (.int i134), .val (.int i135), .val (.int i136), .val (.int i137), .val (.int i138), .val (.int i140), .val (.int i142), .val (.ref b148), .val (.ref b226), .val (.ref b233), .val (.int i260), .val (.int i266), .val (.int i267), .unset, .unset]) X262 C at_173 rfl rfl rfl ?_
            refine g_iload X262 C at_175 rfl rfl ?_
            have J185_269 : ∀ (i269 : Int32) (_ : (i260.toInt = 0 ∧ i269 = (0 : Int32) ∧ i269.toInt = 0) ∨ (i260.toInt ≠ 0 ∧ i269 = (1 : Int32) ∧ i269.toInt = 1)), Go p e below RS T261 (mkF m 185 #[.val (.int p1), .val (.int p2), .val (.int p3), .val (.int p4), .val (.int p5), .val (.int p6), .val (.int i134), .val (.int i135), .val (.int i136), .val (.int i137), .val (.int i138), .val (.int i140), .val (.int i142), .val (.ref b148), .val (.ref b226), .val (.ref b233), .val (.int i260), .val (.int i266), .val (.int i267), .unset, .unset] [(.int i269)]) := by
              intro i269 hJ185
              refine g_istore (L' := #[.val (.int p1), .val (.int p2), .val (.int p3), .val (.int p4), .val (.int p5), .val (.int p6), .val (.int i134), .val (.int i135), .val (.int i136), .val (.int i137), .val (.int i138), .val (.int i140), .val (.int i142), .val (.ref b148), .val (.ref b226), .val (.ref b233), .val (.int i260), .val (.int i266), .val (.int i267), .val (.int i269), .unset]) X262 C at_185 rfl rfl rfl ?_
              refine g_iload X262 C at_187 rfl rfl ?_
              have J197_271 : ∀ (i271 : Int32) (_ : (i266.toInt = 0 ∧ i271 = (0 : Int32) ∧ i271.toInt = 0) ∨ (i266.toInt ≠ 0 ∧ i271 = (1 : Int32) ∧ i271.toInt = 1)), Go p e below RS T261 (mkF m 197 #[.val (.int p1), .val (.int p2), .val (.int p3), .val (.int p4), .val (.int p5), .val (.int p6), .val (.int i134), .val (.int i135), .val (.int i136), .val (.int i137), .val (.int i138), .val (.int i140), .val (.int i142), .val (.ref b148), .val (.ref b226), .val (.ref b233), .val (.int i260), .val (.int i266), .val (.int i267), .val (.int i269), .unset] [(.int i271)]) := by
                intro i271 hJ197
                refine g_istore (L' := #[.val (.int p1), .val (.int p2), .val (.int p3), .val (.int p4), .val (.int p5), .val (.int p6), .val (.int i134), .val (.int i135), .val (.int i136), .val (.int i137), .val (.int i138), .val (.int i140), .val (.int i142), .val (.ref b148), .val (.ref b226), .val (.ref b233), .val (.int i260), .val (.int i266), .val (.int i267), .val (.int i269), .val (.int i271)]) X262 C at_197 rfl rfl rfl ?_
                refine g_aload X262 C at_199 rfl rfl rfl ?_
                refine g_iload X262 C at_201 rfl rfl ?_
                refine g_virtual (argsL := [(.int i142)]) (rest := []) (W := 0) (a := b233) X262 C (rmT l Z a0 hw b233 b241 i142 (own_add (own_add (0 : Int32) (0 : Int32)) (own_neg (0 : Int32))) (fun k => ((fun k => ((fun _ => false) k || (fun k => decide (la ≤ k ∧ k ≤ ha)) k)) k || (fun k => (!((fun k => decide (lb ≤ k ∧ k ≤ hbb)) k))) k)) sn h251 n0 hz254 hsn (by omega) O_b233 A_b241 []) O_b233.1 (hw _ (List.mem_of_getElem? (i := 29) rfl)) (hw _ (List.mem_of_getElem? (i := 30) rfl)) (hw _ (List.mem_of_getElem? (i := 32) rfl)) (hw _ (List.mem_of_getElem? (i := 31) rfl)) (hw _ (List.mem_of_getElem? (i := 3) rfl)) (hw _ (List.mem_of_getElem? (i := 33) rfl)) (by decide) pd_4 rfl rfl rfl rfl rfl (by decide) (by decide) (by decide) (by decide) at_203 rfl (fun r276 T273 h275 hQ277 X274 => ?_)
                obtain ⟨rfl, hh⟩ := hQ277; rw [hh] at X274
                obtain ⟨i278, h_i278⟩ : ∃ z, z = (if sn = 128 then (own_add (own_add (0 : Int32) (0 : Int32)) (own_neg (0 : Int32))) else own_v ((fun k => ((fun k => ((fun _ => false) k || (fun k => decide (la ≤ k ∧ k ≤ ha)) k)) k || (fun k => (!((fun k => decide (lb ≤ k ∧ k ≤ hbb)) k))) k)) sn)) := ⟨_, rfl⟩
                rw [← h_i278]
                have hsR : i278.toInt = i267.toInt := by
                  have q0 : (0 : Int32).toInt = 0 := (by decide)
                  have q1 : (1 : Int32).toInt = 1 := (by decide)
                  rw [h_i278]; by_cases q : sn = 128
                  · rw [if_pos q, show (own_add (own_add (0 : Int32) (0 : Int32)) (own_neg (0 : Int32))) = 1 by decide]; omega
                  · rw [if_neg q]
                    by_cases u : la ≤ sn ∧ sn ≤ ha <;> by_cases v : lb ≤ sn ∧ sn ≤ hbb <;> simp only [u, v, and_self, decide_true, decide_false, Bool.not_true, Bool.not_false, Bool.or_true, Bool.or_false, Bool.true_or, Bool.false_or]
                    all_goals first | rw [show own_v true = 1 from rfl] | rw [show own_v false = 0 from rfl]
                    all_goals omega
                show Go p e below RS T273 (mkF m 206 #[.val (.int p1), .val (.int p2), .val (.int p3), .val (.int p4), .val (.int p5), .val (.int p6), .val (.int i134), .val (.int i135), .val (.int i136), .val (.int i137), .val (.int i138), .val (.int i140), .val (.int i142), .val (.ref b148), .val (.ref b226), .val (.ref b233), .val (.int i260), .val (.int i266), .val (.int i267), .val (.int i269), .val (.int i271)] [(.int i278)])
                refine g_iload X274 C at_206 rfl rfl ?_
                refine g_icmp_ne (a := i278.toInt) (b := i267.toInt) X274 C at_208 rfl rfl (by decide) (pT := 239) (by decide) (pF := 211) rfl (fun hc208 => absurd hc208 (by omega)) (fun hc208 => ?_)
                refine g_aload X274 C at_211 rfl rfl rfl ?_
                refine g_iload X274 C at_213 rfl rfl ?_
                refine g_virtual (argsL := [(.int i142)]) (rest := []) (W := 0) (a := b148) X274 C (rmT l Z a0 hw b148 b149 i142 (0 : Int32) (fun k => decide (la ≤ k ∧ k ≤ ha)) sn h251 n0 hz254 hsn (by omega) O_b148 A_b149 []) O_b148.1 (hw _ (List.mem_of_getElem? (i := 29) rfl)) (hw _ (List.mem_of_getElem? (i := 30) rfl)) (hw _ (List.mem_of_getElem? (i := 32) rfl)) (hw _ (List.mem_of_getElem? (i := 31) rfl)) (hw _ (List.mem_of_getElem? (i := 3) rfl)) (hw _ (List.mem_of_getElem? (i := 33) rfl)) (by decide) pd_4 rfl rfl rfl rfl rfl (by decide) (by decide) (by decide) (by decide) at_215 rfl (fun r282 T279 h281 hQ283 X280 => ?_)
                obtain ⟨rfl, hh⟩ := hQ283; rw [hh] at X280
                obtain ⟨i284, h_i284⟩ : ∃ z, z = (if sn = 128 then (0 : Int32) else own_v ((fun k => decide (la ≤ k ∧ k ≤ ha)) sn)) := ⟨_, rfl⟩
                rw [← h_i284]
                have hsA : i284.toInt = i269.toInt := by
                  have q0 : (0 : Int32).toInt = 0 := (by decide)
                  have q1 : (1 : Int32).toInt = 1 := (by decide)
                  rw [h_i284]; by_cases q : sn = 128
                  · rw [if_pos q, show (0 : Int32) = 0 by decide]; omega
                  · rw [if_neg q]
                    by_cases u : la ≤ sn ∧ sn ≤ ha <;> by_cases v : lb ≤ sn ∧ sn ≤ hbb <;> simp only [u, v, and_self, decide_true, decide_false, Bool.not_true, Bool.not_false, Bool.or_true, Bool.or_false, Bool.true_or, Bool.false_or]
                    all_goals first | rw [show own_v true = 1 from rfl] | rw [show own_v false = 0 from rfl]
                    all_goals omega
                show Go p e below RS T279 (mkF m 218 #[.val (.int p1), .val (.int p2), .val (.int p3), .val (.int p4), .val (.int p5), .val (.int p6), .val (.int i134), .val (.int i135), .val (.int i136), .val (.int i137), .val (.int i138), .val (.int i140), .val (.int i142), .val (.ref b148), .val (.ref b226), .val (.ref b233), .val (.int i260), .val (.int i266), .val (.int i267), .val (.int i269), .val (.int i271)] [(.int i284)])
                refine g_iload X280 C at_218 rfl rfl ?_
                refine g_icmp_ne (a := i284.toInt) (b := i269.toInt) X280 C at_220 rfl rfl (by decide) (pT := 239) (by decide) (pF := 223) rfl (fun hc220 => absurd hc220 (by omega)) (fun hc220 => ?_)
                refine g_aload X280 C at_223 rfl rfl rfl ?_
                refine g_iload X280 C at_225 rfl rfl ?_
                refine g_virtual (argsL := [(.int i142)]) (rest := []) (W := 0) (a := b226) X280 C (rmT l Z a0 hw b226 b227 i142 (own_neg (0 : Int32)) (fun k => (!((fun k => decide (lb ≤ k ∧ k ≤ hbb)) k))) sn h251 n0 hz254 hsn (by omega) O_b226 A_b227 []) O_b226.1 (hw _ (List.mem_of_getElem? (i := 29) rfl)) (hw _ (List.mem_of_getElem? (i := 30) rfl)) (hw _ (List.mem_of_getElem? (i := 32) rfl)) (hw _ (List.mem_of_getElem? (i := 31) rfl)) (hw _ (List.mem_of_getElem? (i := 3) rfl)) (hw _ (List.mem_of_getElem? (i := 33) rfl)) (by decide) pd_4 rfl rfl rfl rfl rfl (by decide) (by decide) (by decide) (by decide) at_227 rfl (fun r288 T285 h287 hQ289 X286 => ?_)
                obtain ⟨rfl, hh⟩ := hQ289; rw [hh] at X286
                obtain ⟨i290, h_i290⟩ : ∃ z, z = (if sn = 128 then (own_neg (0 : Int32)) else own_v ((fun k => (!((fun k => decide (lb ≤ k ∧ k ≤ hbb)) k))) sn)) := ⟨_, rfl⟩
                rw [← h_i290]
                have hsB : i290.toInt = i271.toInt := by
                  have q0 : (0 : Int32).toInt = 0 := (by decide)
                  have q1 : (1 : Int32).toInt = 1 := (by decide)
                  rw [h_i290]; by_cases q : sn = 128
                  · rw [if_pos q, show (own_neg (0 : Int32)) = 1 by decide]; omega
                  · rw [if_neg q]
                    by_cases u : la ≤ sn ∧ sn ≤ ha <;> by_cases v : lb ≤ sn ∧ sn ≤ hbb <;> simp only [u, v, and_self, decide_true, decide_false, Bool.not_true, Bool.not_false, Bool.or_true, Bool.or_false, Bool.true_or, Bool.false_or]
                    all_goals first | rw [show own_v true = 1 from rfl] | rw [show own_v false = 0 from rfl]
                    all_goals omega
                show Go p e below RS T285 (mkF m 230 #[.val (.int p1), .val (.int p2), .val (.int p3), .val (.int p4), .val (.int p5), .val (.int p6), .val (.int i134), .val (.int i135), .val (.int i136), .val (.int i137), .val (.int i138), .val (.int i140), .val (.int i142), .val (.ref b148), .val (.ref b226), .val (.ref b233), .val (.int i260), .val (.int i266), .val (.int i267), .val (.int i269), .val (.int i271)] [(.int i290)])
                refine g_iload X286 C at_230 rfl rfl ?_
                refine g_icmp_ne (a := i290.toInt) (b := i271.toInt) X286 C at_232 rfl rfl (by decide) (pT := 239) (by decide) (pF := 235) rfl (fun hc232 => absurd hc232 (by omega)) (fun hc232 => ?_)
                refine g_iconst (v := 1) X286 C at_235 (by decide) rfl ?_
                refine g_goto (pc' := 240) X286 C at_236 (by decide) (by decide) ?_
                rw [hRS]
                refine g_retZ X286 C at_240 ?_ (by decide) (by decide)
                exact rfl
              refine g_if_eq (a := i266.toInt) X262 C at_189 rfl (by decide) (pT := 196) (by decide) (pF := 192) rfl (fun hc189 => ?_) (fun hc189 => ?_)
              ·
                refine g_iconst (v := 0) X262 C at_196 (by decide) rfl ?_
                exact J197_271 (0 : Int32) (Or.inl (⟨hc189, rfl, by decide⟩))
              ·
                refine g_iconst (v := 1) X262 C at_192 (by decide) rfl ?_
                refine g_goto (pc' := 197) X262 C at_193 (by decide) (by decide) ?_
                exact J197_271 (1 : Int32) (Or.inr (⟨hc189, rfl, by decide⟩))
            refine g_if_eq (a := i260.toInt) X262 C at_177 rfl (by decide) (pT := 184) (by decide) (pF := 180) rfl (fun hc177 => ?_) (fun hc177 => ?_)
            ·
              refine g_iconst (v := 0) X262 C at_184 (by decide) rfl ?_
              exact J185_269 (0 : Int32) (Or.inl (⟨hc177, rfl, by decide⟩))
            ·
              refine g_iconst (v := 1) X262 C at_180 (by decide) rfl ?_
              refine g_goto (pc' := 185) X262 C at_181 (by decide) (by decide) ?_
              exact J185_269 (1 : Int32) (Or.inr (⟨hc177, rfl, by decide⟩))
          refine g_if_ne (a := i260.toInt) X262 C at_160 rfl (by decide) (pT := 168) (by decide) (pF := 163) rfl (fun hc160 => ?_) (fun hc160 => ?_)
          ·
            refine g_iconst (v := 1) X262 C at_168 (by decide) rfl ?_
            refine g_goto (pc' := 173) X262 C at_169 (by decide) (by decide) ?_
            exact J173_267 (1 : Int32) (Or.inl (⟨hc160, rfl, by decide⟩))
          ·
            refine g_iload X262 C at_163 rfl rfl ?_
            refine g_if_eq (a := i266.toInt) X262 C at_165 rfl (by decide) (pT := 172) (by decide) (pF := 168) rfl (fun hc165 => ?_) (fun hc165 => ?_)
            ·
              refine g_iconst (v := 0) X262 C at_172 (by decide) rfl ?_
              exact J173_267 (0 : Int32) (Or.inr (Or.inl (⟨hc160, hc165, rfl, by decide⟩)))
            ·
              refine g_iconst (v := 1) X262 C at_168 (by decide) rfl ?_
              refine g_goto (pc' := 173) X262 C at_169 (by decide) (by decide) ?_
              exact J173_267 (1 : Int32) (Or.inr (Or.inr (⟨hc160, hc165, rfl, by decide⟩)))
      ·
        refine g_aload X144 C at_79 rfl rfl rfl ?_
        refine g_virtual (argsL := []) (rest := []) (W := 0) (a := b148) X144 C (rmN l Z a0 hw b148 b149 (0 : Int32) (fun k => decide (la ≤ k ∧ k ≤ ha)) h145 n0 hz150 O_b148 A_b149 []) O_b148.1 (hw _ (List.mem_of_getElem? (i := 34) rfl)) (hw _ (List.mem_of_getElem? (i := 35) rfl)) (hw _ (List.mem_of_getElem? (i := 37) rfl)) (hw _ (List.mem_of_getElem? (i := 36) rfl)) (hw _ (List.mem_of_getElem? (i := 3) rfl)) (hw _ (List.mem_of_getElem? (i := 38) rfl)) (by decide) pd_5 rfl rfl rfl rfl rfl (by decide) (by decide) (by decide) (by decide) at_81 rfl (fun r294 T291 h293 hQ295 X292 => ?_)
        obtain ⟨b296, b297, rfl, sz0_b296, sz0_b297, ne_b296_b297, O_b296, A_b297, -, -, KN⟩ := hQ295
        have ga_b296 : Lo n0 b296 := Lo.tr hz150 sz0_b296
        have ga_b297 : Lo n0 b297 := Lo.tr hz150 sz0_b297
        have hz298 : Lo n0 h293.size := Lo.keep hz150 KN
        show Go p e below RS T291 (mkF m 84 #[.val (.int p1), .val (.int p2), .val (.int p3), .val (.int p4), .val (.int p5), .val (.int p6), .val (.int i134), .val (.int i135), .val (.int i136), .val (.int i137), .val (.int i138), .val (.int i140), .val (.int i142), .val (.ref b148), .unset, .unset, .unset, .unset, .unset, .unset, .unset] [(.ref b296)])
        refine g_astore (L' := #[.val (.int p1), .val (.int p2), .val (.int p3), .val (.int p4), .val (.int p5), .val (.int p6), .val (.int i134), .val (.int i135), .val (.int i136), .val (.int i137), .val (.int i138), .val (.int i140), .val (.int i142), .val (.ref b296), .unset, .unset, .unset, .unset, .unset, .unset, .unset]) X292 C at_84 rfl rfl rfl ?_
        refine g_iload X292 C at_86 rfl rfl ?_
        refine g_i2c X292 C at_88 rfl ?_
        refine g_iload X292 C at_89 rfl rfl ?_
        refine g_i2c X292 C at_91 rfl ?_
        refine g_static (argsL := [(.int i136.toUInt32.toUInt16.toUInt32.toInt32), (.int i137.toUInt32.toUInt16.toUInt32.toInt32)]) (rest := []) (W := 0) X292 C (rmR l Z a0 hw (i136.toUInt32.toUInt16.toUInt32.toInt32) (i137.toUInt32.toUInt16.toUInt32.toInt32) lb hbb h293 n0 hz298 (by have g := c_i2c i136; omega) (by have g := c_i2c i137; omega) (by omega) (by omega) []) (hw _ (List.mem_of_getElem? (i := 1) rfl)) (hw _ (List.mem_of_getElem? (i := 2) rfl)) (hw _ (List.mem_of_getElem? (i := 3) rfl)) (hw _ (List.mem_of_getElem? (i := 4) rfl)) (by decide) pd_1 rfl rfl rfl rfl rfl (by decide) (by decide) (by decide) (by decide) at_92 rfl (fun r302 T299 h301 hQ303 X300 => ?_)
        obtain ⟨b304, b305, rfl, sz0_b304, sz0_b305, ne_b304_b305, O_b304, A_b305, KR⟩ := hQ303
        have ne_b296_b304 : NE b296 b304 := lone O_b296.lt sz0_b304
        have ne_b296_b305 : NE b296 b305 := lone O_b296.lt sz0_b305
        have ne_b297_b304 : NE b297 b304 := lone A_b297.lt sz0_b304
        have ne_b297_b305 : NE b297 b305 := lone A_b297.lt sz0_b305
        have ga_b304 : Lo n0 b304 := Lo.tr hz298 sz0_b304
        have ga_b305 : Lo n0 b305 := Lo.tr hz298 sz0_b305
        have O_b296 := O_b296.keep KR nin0
        have A_b297 := A_b297.keep KR nin0
        have hz306 : Lo n0 h301.size := Lo.keep hz298 KR
        show Go p e below RS T299 (mkF m 95 #[.val (.int p1), .val (.int p2), .val (.int p3), .val (.int p4), .val (.int p5), .val (.int p6), .val (.int i134), .val (.int i135), .val (.int i136), .val (.int i137), .val (.int i138), .val (.int i140), .val (.int i142), .val (.ref b296), .unset, .unset, .unset, .unset, .unset, .unset, .unset] [(.ref b304)])
        refine g_astore (L' := #[.val (.int p1), .val (.int p2), .val (.int p3), .val (.int p4), .val (.int p5), .val (.int p6), .val (.int i134), .val (.int i135), .val (.int i136), .val (.int i137), .val (.int i138), .val (.int i140), .val (.int i142), .val (.ref b296), .val (.ref b304), .unset, .unset, .unset, .unset, .unset, .unset]) X300 C at_95 rfl rfl rfl ?_
        refine g_iload X300 C at_97 rfl rfl ?_
        refine g_if_eq (a := i140.toInt) X300 C at_99 rfl (by decide) (pT := 109) (by decide) (pF := 102) rfl (fun hc99 => ?_) (fun hc99 => ?_)
        ·
          refine g_newO (vs := [.null, (.int (0 : Int32))]) X300 C (hw _ (List.mem_of_getElem? (i := 16) rfl)) (CF_CC hw) (hw _ (List.mem_of_getElem? (i := 3) rfl)) (by decide) (by decide) (by decide) at_109 rfl (fun T307 h309 b311 hb312 X308 O_b311 K310 => ?_)
          have ne_b296_b311 : NE b296 b311 := hb312.ne O_b296.lt
          have ne_b297_b311 : NE b297 b311 := hb312.ne A_b297.lt
          have ne_b304_b311 : NE b304 b311 := hb312.ne O_b304.lt
          have ne_b305_b311 : NE b305 b311 := hb312.ne A_b305.lt
          have ga_b311 : Lo n0 b311 := Sz.lo hb312 hz306
          have O_b296 := O_b296.keep K310 nin0
          have A_b297 := A_b297.keep K310 nin0
          have O_b304 := O_b304.keep K310 nin0
          have A_b305 := A_b305.keep K310 nin0
          have hz313 : Lo n0 h309.size := Lo.keep hz306 K310
          refine g_dup X308 C at_112 rfl rfl ?_
          have O0_b311 := O_b311
          refine g_special (argsL := []) (rest := [(.ref b311)]) (W := 1) (a := b311) X308 C (rmI l Z a0 hw b311 h309 n0 hz313 ga_b311 O_b311 []) rfl rfl (hw _ (List.mem_of_getElem? (i := 17) rfl)) (hw _ (List.mem_of_getElem? (i := 8) rfl)) (hw _ (List.mem_of_getElem? (i := 3) rfl)) (hw _ (List.mem_of_getElem? (i := 9) rfl)) (by decide) pd_0 rfl rfl rfl rfl rfl (by decide) (by decide) (by decide) (by decide) at_113 rfl (fun r317 T314 h316 hQ318 X315 => ?_)
          obtain ⟨rfl, KI, b319, sz0_b319, O_b311, A_b319⟩ := hQ318
          have ne_b296_b319 : NE b296 b319 := lone O_b296.lt sz0_b319
          have ne_b297_b319 : NE b297 b319 := lone A_b297.lt sz0_b319
          have ne_b304_b319 : NE b304 b319 := lone O_b304.lt sz0_b319
          have ne_b305_b319 : NE b305 b319 := lone A_b305.lt sz0_b319
          have ne_b311_b319 : NE b311 b319 := lone O0_b311.lt sz0_b319
          have ga_b319 : Lo n0 b319 := Lo.tr hz313 sz0_b319
          have O_b296 := O_b296.keep KI (ninN ne_b296_b311 nin0)
          have A_b297 := A_b297.keep KI (ninN ne_b297_b311 nin0)
          have O_b304 := O_b304.keep KI (ninN ne_b304_b311 nin0)
          have A_b305 := A_b305.keep KI (ninN ne_b305_b311 nin0)
          have hz320 : Lo n0 h316.size := Lo.keep hz313 KI
          show Go p e below RS T314 (mkF m 116 #[.val (.int p1), .val (.int p2), .val (.int p3), .val (.int p4), .val (.int p5), .val (.int p6), .val (.int i134), .val (.int i135), .val (.int i136), .val (.int i137), .val (.int i138), .val (.int i140), .val (.int i142), .val (.ref b296), .val (.ref b304), .unset, .unset, .unset, .unset, .unset, .unset] [(.ref b311)])
          refine g_astore (L' := #[.val (.int p1), .val (.int p2), .val (.int p3), .val (.int p4), .val (.int p5), .val (.int p6), .val (.int i134), .val (.int i135), .val (.int i136), .val (.int i137), .val (.int i138), .val (.int i140), .val (.int i142), .val (.ref b296), .val (.ref b304), .val (.ref b311), .unset, .unset, .unset, .unset, .unset]) X315 C at_116 rfl rfl rfl ?_
          refine g_aload X315 C at_118 rfl rfl rfl ?_
          refine g_aload X315 C at_120 rfl rfl rfl ?_
          have Af : Ar Z h316 b319 .boolean 128 (fun k => .int (own_v ((fun _ => false) k))) := A_b319
          refine g_virtual (argsL := [(.ref b296)]) (rest := []) (W := 0) (a := b311) X315 C (rmA l Z a0 hw b311 b296 b319 b297 (0 : Int32) (own_neg (0 : Int32)) (fun _ => false) (fun k => (!((fun k => decide (la ≤ k ∧ k ≤ ha)) k))) h316 n0 hz320 ga_b311 ga_b319 ne_b311_b319 ne_b296_b319 ne_b297_b319 ne_b296_b311 ne_b297_b311 O_b311 O_b296 Af A_b297 []) O_b311.1 (hw _ (List.mem_of_getElem? (i := 18) rfl)) (hw _ (List.mem_of_getElem? (i := 19) rfl)) (hw _ (List.mem_of_getElem? (i := 21) rfl)) (hw _ (List.mem_of_getElem? (i := 20) rfl)) (hw _ (List.mem_of_getElem? (i := 3) rfl)) (hw _ (List.mem_of_getElem? (i := 22) rfl)) (by decide) pd_2 rfl rfl rfl rfl rfl (by decide) (by decide) (by decide) (by decide) at_122 rfl (fun r324 T321 h323 hQ325 X322 => ?_)
          obtain ⟨rfl, KA, O_b311, O_b296, A_b319, A_b297⟩ := hQ325
          have hz326 : Lo n0 h323.size := Lo.keep hz320 KA
          have O_b304 := O_b304.keep KA (ninN ne_b304_b311 (ninN ne_b304_b319 nin0))
          have A_b305 := A_b305.keep KA (ninN ne_b305_b311 (ninN ne_b305_b319 nin0))
          show Go p e below RS T321 (mkF m 125 #[.val (.int p1), .val (.int p2), .val (.int p3), .val (.int p4), .val (.int p5), .val (.int p6), .val (.int i134), .val (.int i135), .val (.int i136), .val (.int i137), .val (.int i138), .val (.int i140), .val (.int i142), .val (.ref b296), .val (.ref b304), .val (.ref b311), .unset, .unset, .unset, .unset, .unset] [])
          refine g_aload X322 C at_125 rfl rfl rfl ?_
          refine g_aload X322 C at_127 rfl rfl rfl ?_
          have Af : Ar Z h323 b319 .boolean 128 (fun k => .int (own_v ((fun k => ((fun _ => false) k || (fun k => (!((fun k => decide (la ≤ k ∧ k ≤ ha)) k))) k)) k))) := A_b319
          refine g_virtual (argsL := [(.ref b304)]) (rest := []) (W := 0) (a := b311) X322 C (rmA l Z a0 hw b311 b304 b319 b305 (own_add (0 : Int32) (own_neg (0 : Int32))) (0 : Int32) (fun k => ((fun _ => false) k || (fun k => (!((fun k => decide (la ≤ k ∧ k ≤ ha)) k))) k)) (fun k => decide (lb ≤ k ∧ k ≤ hbb)) h323 n0 hz326 ga_b311 ga_b319 ne_b311_b319 ne_b304_b319 ne_b305_b319 ne_b304_b311 ne_b305_b311 O_b311 O_b304 Af A_b305 []) O_b311.1 (hw _ (List.mem_of_getElem? (i := 18) rfl)) (hw _ (List.mem_of_getElem? (i := 19) rfl)) (hw _ (List.mem_of_getElem? (i := 21) rfl)) (hw _ (List.mem_of_getElem? (i := 20) rfl)) (hw _ (List.mem_of_getElem? (i := 3) rfl)) (hw _ (List.mem_of_getElem? (i := 22) rfl)) (by decide) pd_2 rfl rfl rfl rfl rfl (by decide) (by decide) (by decide) (by decide) at_129 rfl (fun r330 T327 h329 hQ331 X328 => ?_)
          obtain ⟨rfl, KA, O_b311, O_b304, A_b319, A_b305⟩ := hQ331
          have hz332 : Lo n0 h329.size := Lo.keep hz326 KA
          have O_b296 := O_b296.keep KA (ninN ne_b296_b311 (ninN ne_b296_b319 nin0))
          have A_b297 := A_b297.keep KA (ninN ne_b297_b311 (ninN ne_b297_b319 nin0))
          show Go p e below RS T327 (mkF m 132 #[.val (.int p1), .val (.int p2), .val (.int p3), .val (.int p4), .val (.int p5), .val (.int p6), .val (.int i134), .val (.int i135), .val (.int i136), .val (.int i137), .val (.int i138), .val (.int i140), .val (.int i142), .val (.ref b296), .val (.ref b304), .val (.ref b311), .unset, .unset, .unset, .unset, .unset] [])
          refine g_iload X328 C at_132 rfl rfl ?_
          refine g_iload X328 C at_134 rfl rfl ?_
          refine g_iload X328 C at_136 rfl rfl ?_
          refine g_iload X328 C at_138 rfl rfl ?_
          refine g_static (argsL := [(.int i134), (.int i135), (.int i138), (.int i142)]) (rest := []) (W := 0) X328 C (rmH l Z a0 hw i134 i135 i138 i142 h329 n0 hz332 hna []) (hw _ (List.mem_of_getElem? (i := 25) rfl)) (hw _ (List.mem_of_getElem? (i := 26) rfl)) (hw _ (List.mem_of_getElem? (i := 27) rfl)) (hw _ (List.mem_of_getElem? (i := 28) rfl)) (by decide) pd_3 rfl rfl rfl rfl rfl (by decide) (by decide) (by decide) (by decide) at_140 rfl (fun r336 T333 h335 hQ337 X334 => ?_)
          obtain ⟨i338, rfl, hinA, hh⟩ := hQ337; rw [hh] at X334
          show Go p e below RS T333 (mkF m 143 #[.val (.int p1), .val (.int p2), .val (.int p3), .val (.int p4), .val (.int p5), .val (.int p6), .val (.int i134), .val (.int i135), .val (.int i136), .val (.int i137), .val (.int i138), .val (.int i140), .val (.int i142), .val (.ref b296), .val (.ref b304), .val (.ref b311), .unset, .unset, .unset, .unset, .unset] [(.int i338)])
          refine g_istore (L' := #[.val (.int p1), .val (.int p2), .val (.int p3), .val (.int p4), .val (.int p5), .val (.int p6), .val (.int i134), .val (.int i135), .val (.int i136), .val (.int i137), .val (.int i138), .val (.int i140), .val (.int i142), .val (.ref b296), .val (.ref b304), .val (.ref b311), .val (.int i338), .unset, .unset, .unset, .unset]) X334 C at_143 rfl rfl rfl ?_
          refine g_iload X334 C at_145 rfl rfl ?_
          refine g_iload X334 C at_147 rfl rfl ?_
          refine g_iload X334 C at_149 rfl rfl ?_
          refine g_iload X334 C at_151 rfl rfl ?_
          refine g_static (argsL := [(.int i136), (.int i137), (.int i140), (.int i142)]) (rest := []) (W := 0) X334 C (rmH l Z a0 hw i136 i137 i140 i142 h329 n0 hz332 hnb []) (hw _ (List.mem_of_getElem? (i := 25) rfl)) (hw _ (List.mem_of_getElem? (i := 26) rfl)) (hw _ (List.mem_of_getElem? (i := 27) rfl)) (hw _ (List.mem_of_getElem? (i := 28) rfl)) (by decide) pd_3 rfl rfl rfl rfl rfl (by decide) (by decide) (by decide) (by decide) at_153 rfl (fun r342 T339 h341 hQ343 X340 => ?_)
          obtain ⟨i344, rfl, hinB, hh⟩ := hQ343; rw [hh] at X340
          show Go p e below RS T339 (mkF m 156 #[.val (.int p1), .val (.int p2), .val (.int p3), .val (.int p4), .val (.int p5), .val (.int p6), .val (.int i134), .val (.int i135), .val (.int i136), .val (.int i137), .val (.int i138), .val (.int i140), .val (.int i142), .val (.ref b296), .val (.ref b304), .val (.ref b311), .val (.int i338), .unset, .unset, .unset, .unset] [(.int i344)])
          refine g_istore (L' := #[.val (.int p1), .val (.int p2), .val (.int p3), .val (.int p4), .val (.int p5), .val (.int p6), .val (.int i134), .val (.int i135), .val (.int i136), .val (.int i137), .val (.int i138), .val (.int i140), .val (.int i142), .val (.ref b296), .val (.ref b304), .val (.ref b311), .val (.int i338), .val (.int i344), .unset, .unset, .unset]) X340 C at_156 rfl rfl rfl ?_
          refine g_iload X340 C at_158 rfl rfl ?_
          have J173_345 : ∀ (i345 : Int32) (_ : (i338.toInt ≠ 0 ∧ i345 = (1 : Int32) ∧ i345.toInt = 1) ∨ (i338.toInt = 0 ∧ i344.toInt = 0 ∧ i345 = (0 : Int32) ∧ i345.toInt = 0) ∨ (i338.toInt = 0 ∧ i344.toInt ≠ 0 ∧ i345 = (1 : Int32) ∧ i345.toInt = 1)), Go p e below RS T339 (mkF m 173 #[.val (.int p1), .val (.int p2), .val (.int p3), .val (.int p4), .val (.int p5), .val (.int p6), .val (.int i134), .val (.int i135), .val (.int i136), .val (.int i137), .val (.int i138), .val (.int i140), .val (.int i142), .val (.ref b296), .val (.ref b304), .val (.ref b311), .val (.int i338), .val (.int i344), .unset, .unset, .unset] [(.int i345)]) := by
            intro i345 hJ173
            refine g_istore (L' := #[.val (.int p1), .val (.int p2), .val (.int p3), .val (.int p4), .val (.int p5), .val (.int p6), .val (.int i134), .val (.int i135), .val (.int i136), .val (.int i137), .val (.int i138), .val (.int i140), .val (.int i142), .val (.ref b296), .val (.ref b304), .val (.ref b311), .val (.int i338), .val (.int i344), .val (.int i345), .unset, .unset]) X340 C at_173 rfl rfl rfl ?_
            refine g_iload X340 C at_175 rfl rfl ?_
            have J185_347 : ∀ (i347 : Int32) (_ : (i338.toInt = 0 ∧ i347 = (0 : Int32) ∧ i347.toInt = 0) ∨ (i338.toInt ≠ 0 ∧ i347 = (1 : Int32) ∧ i347.toInt = 1)), Go p e below RS T339 (mkF m 185 #[.val (.int p1), .val (.int p2), .val (.int p3), .val (.int p4), .val (.int p5), .val (.int p6), .val (.int i134), .val (.int i135), .val (.int i136), .val (.int i137), .val (.int i138), .val (.int i140), .val (.int i142), .val (.ref b296), .val (.ref b304), .val (.ref b311), .val (.int i338), .val (.int i344), .val (.int i345), .unset, .unset] [(.int i347)]) := by
              intro i347 hJ185
              refine g_istore (L' := #[.val (.int p1), .val (.int p2), .val (.int p3), .val (.int p4), .val (.int p5), .val (.int p6), .val (.int i134), .val (.int i135), .val (.int i136), .val (.int i137), .val (.int i138), .val (.int i140), .val (.int i142), .val (.ref b296), .val (.ref b304), .val (.ref b311), .val (.int i338), .val (.int i344), .val (.int i345), .val (.int i347), .unset]) X340 C at_185 rfl rfl rfl ?_
              refine g_iload X340 C at_187 rfl rfl ?_
              have J197_349 : ∀ (i349 : Int32) (_ : (i344.toInt = 0 ∧ i349 = (0 : Int32) ∧ i349.toInt = 0) ∨ (i344.toInt ≠ 0 ∧ i349 = (1 : Int32) ∧ i349.toInt = 1)), Go p e below RS T339 (mkF m 197 #[.val (.int p1), .val (.int p2), .val (.int p3), .val (.int p4), .val (.int p5), .val (.int p6), .val (.int i134), .val (.int i135), .val (.int i136), .val (.int i137), .val (.int i138), .val (.int i140), .val (.int i142), .val (.ref b296), .val (.ref b304), .val (.ref b311), .val (.int i338), .val (.int i344), .val (.int i345), .val (.int i347), .unset] [(.int i349)]) := by
                intro i349 hJ197
                refine g_istore (L' := #[.val (.int p1), .val (.int p2), .val (.int p3), .val (.int p4), .val (.int p5), .val (.int p6), .val (.int i134), .val (.int i135), .val (.int i136), .val (.int i137), .val (.int i138), .val (.int i140), .val (.int i142), .val (.ref b296), .val (.ref b304), .val (.ref b311), .val (.int i338), .val (.int i344), .val (.int i345), .val (.int i347), .val (.int i349)]) X340 C at_197 rfl rfl rfl ?_
                refine g_aload X340 C at_199 rfl rfl rfl ?_
                refine g_iload X340 C at_201 rfl rfl ?_
                refine g_virtual (argsL := [(.int i142)]) (rest := []) (W := 0) (a := b311) X340 C (rmT l Z a0 hw b311 b319 i142 (own_add (own_add (0 : Int32) (own_neg (0 : Int32))) (0 : Int32)) (fun k => ((fun k => ((fun _ => false) k || (fun k => (!((fun k => decide (la ≤ k ∧ k ≤ ha)) k))) k)) k || (fun k => decide (lb ≤ k ∧ k ≤ hbb)) k)) sn h329 n0 hz332 hsn (by omega) O_b311 A_b319 []) O_b311.1 (hw _ (List.mem_of_getElem? (i := 29) rfl)) (hw _ (List.mem_of_getElem? (i := 30) rfl)) (hw _ (List.mem_of_getElem? (i := 32) rfl)) (hw _ (List.mem_of_getElem? (i := 31) rfl)) (hw _ (List.mem_of_getElem? (i := 3) rfl)) (hw _ (List.mem_of_getElem? (i := 33) rfl)) (by decide) pd_4 rfl rfl rfl rfl rfl (by decide) (by decide) (by decide) (by decide) at_203 rfl (fun r354 T351 h353 hQ355 X352 => ?_)
                obtain ⟨rfl, hh⟩ := hQ355; rw [hh] at X352
                obtain ⟨i356, h_i356⟩ : ∃ z, z = (if sn = 128 then (own_add (own_add (0 : Int32) (own_neg (0 : Int32))) (0 : Int32)) else own_v ((fun k => ((fun k => ((fun _ => false) k || (fun k => (!((fun k => decide (la ≤ k ∧ k ≤ ha)) k))) k)) k || (fun k => decide (lb ≤ k ∧ k ≤ hbb)) k)) sn)) := ⟨_, rfl⟩
                rw [← h_i356]
                have hsR : i356.toInt = i345.toInt := by
                  have q0 : (0 : Int32).toInt = 0 := (by decide)
                  have q1 : (1 : Int32).toInt = 1 := (by decide)
                  rw [h_i356]; by_cases q : sn = 128
                  · rw [if_pos q, show (own_add (own_add (0 : Int32) (own_neg (0 : Int32))) (0 : Int32)) = 1 by decide]; omega
                  · rw [if_neg q]
                    by_cases u : la ≤ sn ∧ sn ≤ ha <;> by_cases v : lb ≤ sn ∧ sn ≤ hbb <;> simp only [u, v, and_self, decide_true, decide_false, Bool.not_true, Bool.not_false, Bool.or_true, Bool.or_false, Bool.true_or, Bool.false_or]
                    all_goals first | rw [show own_v true = 1 from rfl] | rw [show own_v false = 0 from rfl]
                    all_goals omega
                show Go p e below RS T351 (mkF m 206 #[.val (.int p1), .val (.int p2), .val (.int p3), .val (.int p4), .val (.int p5), .val (.int p6), .val (.int i134), .val (.int i135), .val (.int i136), .val (.int i137), .val (.int i138), .val (.int i140), .val (.int i142), .val (.ref b296), .val (.ref b304), .val (.ref b311), .val (.int i338), .val (.int i344), .val (.int i345), .val (.int i347), .val (.int i349)] [(.int i356)])
                refine g_iload X352 C at_206 rfl rfl ?_
                refine g_icmp_ne (a := i356.toInt) (b := i345.toInt) X352 C at_208 rfl rfl (by decide) (pT := 239) (by decide) (pF := 211) rfl (fun hc208 => absurd hc208 (by omega)) (fun hc208 => ?_)
                refine g_aload X352 C at_211 rfl rfl rfl ?_
                refine g_iload X352 C at_213 rfl rfl ?_
                refine g_virtual (argsL := [(.int i142)]) (rest := []) (W := 0) (a := b296) X352 C (rmT l Z a0 hw b296 b297 i142 (own_neg (0 : Int32)) (fun k => (!((fun k => decide (la ≤ k ∧ k ≤ ha)) k))) sn h329 n0 hz332 hsn (by omega) O_b296 A_b297 []) O_b296.1 (hw _ (List.mem_of_getElem? (i := 29) rfl)) (hw _ (List.mem_of_getElem? (i := 30) rfl)) (hw _ (List.mem_of_getElem? (i := 32) rfl)) (hw _ (List.mem_of_getElem? (i := 31) rfl)) (hw _ (List.mem_of_getElem? (i := 3) rfl)) (hw _ (List.mem_of_getElem? (i := 33) rfl)) (by decide) pd_4 rfl rfl rfl rfl rfl (by decide) (by decide) (by decide) (by decide) at_215 rfl (fun r360 T357 h359 hQ361 X358 => ?_)
                obtain ⟨rfl, hh⟩ := hQ361; rw [hh] at X358
                obtain ⟨i362, h_i362⟩ : ∃ z, z = (if sn = 128 then (own_neg (0 : Int32)) else own_v ((fun k => (!((fun k => decide (la ≤ k ∧ k ≤ ha)) k))) sn)) := ⟨_, rfl⟩
                rw [← h_i362]
                have hsA : i362.toInt = i347.toInt := by
                  have q0 : (0 : Int32).toInt = 0 := (by decide)
                  have q1 : (1 : Int32).toInt = 1 := (by decide)
                  rw [h_i362]; by_cases q : sn = 128
                  · rw [if_pos q, show (own_neg (0 : Int32)) = 1 by decide]; omega
                  · rw [if_neg q]
                    by_cases u : la ≤ sn ∧ sn ≤ ha <;> by_cases v : lb ≤ sn ∧ sn ≤ hbb <;> simp only [u, v, and_self, decide_true, decide_false, Bool.not_true, Bool.not_false, Bool.or_true, Bool.or_false, Bool.true_or, Bool.false_or]
                    all_goals first | rw [show own_v true = 1 from rfl] | rw [show own_v false = 0 from rfl]
                    all_goals omega
                show Go p e below RS T357 (mkF m 218 #[.val (.int p1), .val (.int p2), .val (.int p3), .val (.int p4), .val (.int p5), .val (.int p6), .val (.int i134), .val (.int i135), .val (.int i136), .val (.int i137), .val (.int i138), .val (.int i140), .val (.int i142), .val (.ref b296), .val (.ref b304), .val (.ref b311), .val (.int i338), .val (.int i344), .val (.int i345), .val (.int i347), .val (.int i349)] [(.int i362)])
                refine g_iload X358 C at_218 rfl rfl ?_
                refine g_icmp_ne (a := i362.toInt) (b := i347.toInt) X358 C at_220 rfl rfl (by decide) (pT := 239) (by decide) (pF := 223) rfl (fun hc220 => absurd hc220 (by omega)) (fun hc220 => ?_)
                refine g_aload X358 C at_223 rfl rfl rfl ?_
                refine g_iload X358 C at_225 rfl rfl ?_
                refine g_virtual (argsL := [(.int i142)]) (rest := []) (W := 0) (a := b304) X358 C (rmT l Z a0 hw b304 b305 i142 (0 : Int32) (fun k => decide (lb ≤ k ∧ k ≤ hbb)) sn h329 n0 hz332 hsn (by omega) O_b304 A_b305 []) O_b304.1 (hw _ (List.mem_of_getElem? (i := 29) rfl)) (hw _ (List.mem_of_getElem? (i := 30) rfl)) (hw _ (List.mem_of_getElem? (i := 32) rfl)) (hw _ (List.mem_of_getElem? (i := 31) rfl)) (hw _ (List.mem_of_getElem? (i := 3) rfl)) (hw _ (List.mem_of_getElem? (i := 33) rfl)) (by decide) pd_4 rfl rfl rfl rfl rfl (by decide) (by decide) (by decide) (by decide) at_227 rfl (fun r366 T363 h365 hQ367 X364 => ?_)
                obtain ⟨rfl, hh⟩ := hQ367; rw [hh] at X364
                obtain ⟨i368, h_i368⟩ : ∃ z, z = (if sn = 128 then (0 : Int32) else own_v ((fun k => decide (lb ≤ k ∧ k ≤ hbb)) sn)) := ⟨_, rfl⟩
                rw [← h_i368]
                have hsB : i368.toInt = i349.toInt := by
                  have q0 : (0 : Int32).toInt = 0 := (by decide)
                  have q1 : (1 : Int32).toInt = 1 := (by decide)
                  rw [h_i368]; by_cases q : sn = 128
                  · rw [if_pos q, show (0 : Int32) = 0 by decide]; omega
                  · rw [if_neg q]
                    by_cases u : la ≤ sn ∧ sn ≤ ha <;> by_cases v : lb ≤ sn ∧ sn ≤ hbb <;> simp only [u, v, and_self, decide_true, decide_false, Bool.not_true, Bool.not_false, Bool.or_true, Bool.or_false, Bool.true_or, Bool.false_or]
                    all_goals first | rw [show own_v true = 1 from rfl] | rw [show own_v false = 0 from rfl]
                    all_goals omega
                show Go p e below RS T363 (mkF m 230 #[.val (.int p1), .val (.int p2), .val (.int p3), .val (.int p4), .val (.int p5), .val (.int p6), .val (.int i134), .val (.int i135), .val (.int i136), .val (.int i137), .val (.int i138), .val (.int i140), .val (.int i142), .val (.ref b296), .val (.ref b304), .val (.ref b311), .val (.int i338), .val (.int i344), .val (.int i345), .val (.int i347), .val (.int i349)] [(.int i368)])
                refine g_iload X364 C at_230 rfl rfl ?_
                refine g_icmp_ne (a := i368.toInt) (b := i349.toInt) X364 C at_232 rfl rfl (by decide) (pT := 239) (by decide) (pF := 235) rfl (fun hc232 => absurd hc232 (by omega)) (fun hc232 => ?_)
                refine g_iconst (v := 1) X364 C at_235 (by decide) rfl ?_
                refine g_goto (pc' := 240) X364 C at_236 (by decide) (by decide) ?_
                rw [hRS]
                refine g_retZ X364 C at_240 ?_ (by decide) (by decide)
                exact rfl
              refine g_if_eq (a := i344.toInt) X340 C at_189 rfl (by decide) (pT := 196) (by decide) (pF := 192) rfl (fun hc189 => ?_) (fun hc189 => ?_)
              ·
                refine g_iconst (v := 0) X340 C at_196 (by decide) rfl ?_
                exact J197_349 (0 : Int32) (Or.inl (⟨hc189, rfl, by decide⟩))
              ·
                refine g_iconst (v := 1) X340 C at_192 (by decide) rfl ?_
                refine g_goto (pc' := 197) X340 C at_193 (by decide) (by decide) ?_
                exact J197_349 (1 : Int32) (Or.inr (⟨hc189, rfl, by decide⟩))
            refine g_if_eq (a := i338.toInt) X340 C at_177 rfl (by decide) (pT := 184) (by decide) (pF := 180) rfl (fun hc177 => ?_) (fun hc177 => ?_)
            ·
              refine g_iconst (v := 0) X340 C at_184 (by decide) rfl ?_
              exact J185_347 (0 : Int32) (Or.inl (⟨hc177, rfl, by decide⟩))
            ·
              refine g_iconst (v := 1) X340 C at_180 (by decide) rfl ?_
              refine g_goto (pc' := 185) X340 C at_181 (by decide) (by decide) ?_
              exact J185_347 (1 : Int32) (Or.inr (⟨hc177, rfl, by decide⟩))
          refine g_if_ne (a := i338.toInt) X340 C at_160 rfl (by decide) (pT := 168) (by decide) (pF := 163) rfl (fun hc160 => ?_) (fun hc160 => ?_)
          ·
            refine g_iconst (v := 1) X340 C at_168 (by decide) rfl ?_
            refine g_goto (pc' := 173) X340 C at_169 (by decide) (by decide) ?_
            exact J173_345 (1 : Int32) (Or.inl (⟨hc160, rfl, by decide⟩))
          ·
            refine g_iload X340 C at_163 rfl rfl ?_
            refine g_if_eq (a := i344.toInt) X340 C at_165 rfl (by decide) (pT := 172) (by decide) (pF := 168) rfl (fun hc165 => ?_) (fun hc165 => ?_)
            ·
              refine g_iconst (v := 0) X340 C at_172 (by decide) rfl ?_
              exact J173_345 (0 : Int32) (Or.inr (Or.inl (⟨hc160, hc165, rfl, by decide⟩)))
            ·
              refine g_iconst (v := 1) X340 C at_168 (by decide) rfl ?_
              refine g_goto (pc' := 173) X340 C at_169 (by decide) (by decide) ?_
              exact J173_345 (1 : Int32) (Or.inr (Or.inr (⟨hc160, hc165, rfl, by decide⟩)))
        ·
          refine g_aload X300 C at_102 rfl rfl rfl ?_
          refine g_virtual (argsL := []) (rest := []) (W := 0) (a := b304) X300 C (rmN l Z a0 hw b304 b305 (0 : Int32) (fun k => decide (lb ≤ k ∧ k ≤ hbb)) h301 n0 hz306 O_b304 A_b305 []) O_b304.1 (hw _ (List.mem_of_getElem? (i := 34) rfl)) (hw _ (List.mem_of_getElem? (i := 35) rfl)) (hw _ (List.mem_of_getElem? (i := 37) rfl)) (hw _ (List.mem_of_getElem? (i := 36) rfl)) (hw _ (List.mem_of_getElem? (i := 3) rfl)) (hw _ (List.mem_of_getElem? (i := 38) rfl)) (by decide) pd_5 rfl rfl rfl rfl rfl (by decide) (by decide) (by decide) (by decide) at_104 rfl (fun r372 T369 h371 hQ373 X370 => ?_)
          obtain ⟨b374, b375, rfl, sz0_b374, sz0_b375, ne_b374_b375, O_b374, A_b375, -, -, KN⟩ := hQ373
          have ne_b296_b374 : NE b296 b374 := lone O_b296.lt sz0_b374
          have ne_b296_b375 : NE b296 b375 := lone O_b296.lt sz0_b375
          have ne_b297_b374 : NE b297 b374 := lone A_b297.lt sz0_b374
          have ne_b297_b375 : NE b297 b375 := lone A_b297.lt sz0_b375
          have ga_b374 : Lo n0 b374 := Lo.tr hz306 sz0_b374
          have ga_b375 : Lo n0 b375 := Lo.tr hz306 sz0_b375
          have O_b296 := O_b296.keep KN nin0
          have A_b297 := A_b297.keep KN nin0
          have hz376 : Lo n0 h371.size := Lo.keep hz306 KN
          show Go p e below RS T369 (mkF m 107 #[.val (.int p1), .val (.int p2), .val (.int p3), .val (.int p4), .val (.int p5), .val (.int p6), .val (.int i134), .val (.int i135), .val (.int i136), .val (.int i137), .val (.int i138), .val (.int i140), .val (.int i142), .val (.ref b296), .val (.ref b304), .unset, .unset, .unset, .unset, .unset, .unset] [(.ref b374)])
          refine g_astore (L' := #[.val (.int p1), .val (.int p2), .val (.int p3), .val (.int p4), .val (.int p5), .val (.int p6), .val (.int i134), .val (.int i135), .val (.int i136), .val (.int i137), .val (.int i138), .val (.int i140), .val (.int i142), .val (.ref b296), .val (.ref b374), .unset, .unset, .unset, .unset, .unset, .unset]) X370 C at_107 rfl rfl rfl ?_
          refine g_newO (vs := [.null, (.int (0 : Int32))]) X370 C (hw _ (List.mem_of_getElem? (i := 16) rfl)) (CF_CC hw) (hw _ (List.mem_of_getElem? (i := 3) rfl)) (by decide) (by decide) (by decide) at_109 rfl (fun T377 h379 b381 hb382 X378 O_b381 K380 => ?_)
          have ne_b296_b381 : NE b296 b381 := hb382.ne O_b296.lt
          have ne_b297_b381 : NE b297 b381 := hb382.ne A_b297.lt
          have ne_b374_b381 : NE b374 b381 := hb382.ne O_b374.lt
          have ne_b375_b381 : NE b375 b381 := hb382.ne A_b375.lt
          have ga_b381 : Lo n0 b381 := Sz.lo hb382 hz376
          have O_b296 := O_b296.keep K380 nin0
          have A_b297 := A_b297.keep K380 nin0
          have O_b374 := O_b374.keep K380 nin0
          have A_b375 := A_b375.keep K380 nin0
          have hz383 : Lo n0 h379.size := Lo.keep hz376 K380
          refine g_dup X378 C at_112 rfl rfl ?_
          have O0_b381 := O_b381
          refine g_special (argsL := []) (rest := [(.ref b381)]) (W := 1) (a := b381) X378 C (rmI l Z a0 hw b381 h379 n0 hz383 ga_b381 O_b381 []) rfl rfl (hw _ (List.mem_of_getElem? (i := 17) rfl)) (hw _ (List.mem_of_getElem? (i := 8) rfl)) (hw _ (List.mem_of_getElem? (i := 3) rfl)) (hw _ (List.mem_of_getElem? (i := 9) rfl)) (by decide) pd_0 rfl rfl rfl rfl rfl (by decide) (by decide) (by decide) (by decide) at_113 rfl (fun r387 T384 h386 hQ388 X385 => ?_)
          obtain ⟨rfl, KI, b389, sz0_b389, O_b381, A_b389⟩ := hQ388
          have ne_b296_b389 : NE b296 b389 := lone O_b296.lt sz0_b389
          have ne_b297_b389 : NE b297 b389 := lone A_b297.lt sz0_b389
          have ne_b374_b389 : NE b374 b389 := lone O_b374.lt sz0_b389
          have ne_b375_b389 : NE b375 b389 := lone A_b375.lt sz0_b389
          have ne_b381_b389 : NE b381 b389 := lone O0_b381.lt sz0_b389
          have ga_b389 : Lo n0 b389 := Lo.tr hz383 sz0_b389
          have O_b296 := O_b296.keep KI (ninN ne_b296_b381 nin0)
          have A_b297 := A_b297.keep KI (ninN ne_b297_b381 nin0)
          have O_b374 := O_b374.keep KI (ninN ne_b374_b381 nin0)
          have A_b375 := A_b375.keep KI (ninN ne_b375_b381 nin0)
          have hz390 : Lo n0 h386.size := Lo.keep hz383 KI
          show Go p e below RS T384 (mkF m 116 #[.val (.int p1), .val (.int p2), .val (.int p3), .val (.int p4), .val (.int p5), .val (.int p6), .val (.int i134), .val (.int i135), .val (.int i136), .val (.int i137), .val (.int i138), .val (.int i140), .val (.int i142), .val (.ref b296), .val (.ref b374), .unset, .unset, .unset, .unset, .unset, .unset] [(.ref b381)])
          refine g_astore (L' := #[.val (.int p1), .val (.int p2), .val (.int p3), .val (.int p4), .val (.int p5), .val (.int p6), .val (.int i134), .val (.int i135), .val (.int i136), .val (.int i137), .val (.int i138), .val (.int i140), .val (.int i142), .val (.ref b296), .val (.ref b374), .val (.ref b381), .unset, .unset, .unset, .unset, .unset]) X385 C at_116 rfl rfl rfl ?_
          refine g_aload X385 C at_118 rfl rfl rfl ?_
          refine g_aload X385 C at_120 rfl rfl rfl ?_
          have Af : Ar Z h386 b389 .boolean 128 (fun k => .int (own_v ((fun _ => false) k))) := A_b389
          refine g_virtual (argsL := [(.ref b296)]) (rest := []) (W := 0) (a := b381) X385 C (rmA l Z a0 hw b381 b296 b389 b297 (0 : Int32) (own_neg (0 : Int32)) (fun _ => false) (fun k => (!((fun k => decide (la ≤ k ∧ k ≤ ha)) k))) h386 n0 hz390 ga_b381 ga_b389 ne_b381_b389 ne_b296_b389 ne_b297_b389 ne_b296_b381 ne_b297_b381 O_b381 O_b296 Af A_b297 []) O_b381.1 (hw _ (List.mem_of_getElem? (i := 18) rfl)) (hw _ (List.mem_of_getElem? (i := 19) rfl)) (hw _ (List.mem_of_getElem? (i := 21) rfl)) (hw _ (List.mem_of_getElem? (i := 20) rfl)) (hw _ (List.mem_of_getElem? (i := 3) rfl)) (hw _ (List.mem_of_getElem? (i := 22) rfl)) (by decide) pd_2 rfl rfl rfl rfl rfl (by decide) (by decide) (by decide) (by decide) at_122 rfl (fun r394 T391 h393 hQ395 X392 => ?_)
          obtain ⟨rfl, KA, O_b381, O_b296, A_b389, A_b297⟩ := hQ395
          have hz396 : Lo n0 h393.size := Lo.keep hz390 KA
          have O_b374 := O_b374.keep KA (ninN ne_b374_b381 (ninN ne_b374_b389 nin0))
          have A_b375 := A_b375.keep KA (ninN ne_b375_b381 (ninN ne_b375_b389 nin0))
          show Go p e below RS T391 (mkF m 125 #[.val (.int p1), .val (.int p2), .val (.int p3), .val (.int p4), .val (.int p5), .val (.int p6), .val (.int i134), .val (.int i135), .val (.int i136), .val (.int i137), .val (.int i138), .val (.int i140), .val (.int i142), .val (.ref b296), .val (.ref b374), .val (.ref b381), .unset, .unset, .unset, .unset, .unset] [])
          refine g_aload X392 C at_125 rfl rfl rfl ?_
          refine g_aload X392 C at_127 rfl rfl rfl ?_
          have Af : Ar Z h393 b389 .boolean 128 (fun k => .int (own_v ((fun k => ((fun _ => false) k || (fun k => (!((fun k => decide (la ≤ k ∧ k ≤ ha)) k))) k)) k))) := A_b389
          refine g_virtual (argsL := [(.ref b374)]) (rest := []) (W := 0) (a := b381) X392 C (rmA l Z a0 hw b381 b374 b389 b375 (own_add (0 : Int32) (own_neg (0 : Int32))) (own_neg (0 : Int32)) (fun k => ((fun _ => false) k || (fun k => (!((fun k => decide (la ≤ k ∧ k ≤ ha)) k))) k)) (fun k => (!((fun k => decide (lb ≤ k ∧ k ≤ hbb)) k))) h393 n0 hz396 ga_b381 ga_b389 ne_b381_b389 ne_b374_b389 ne_b375_b389 ne_b374_b381 ne_b375_b381 O_b381 O_b374 Af A_b375 []) O_b381.1 (hw _ (List.mem_of_getElem? (i := 18) rfl)) (hw _ (List.mem_of_getElem? (i := 19) rfl)) (hw _ (List.mem_of_getElem? (i := 21) rfl)) (hw _ (List.mem_of_getElem? (i := 20) rfl)) (hw _ (List.mem_of_getElem? (i := 3) rfl)) (hw _ (List.mem_of_getElem? (i := 22) rfl)) (by decide) pd_2 rfl rfl rfl rfl rfl (by decide) (by decide) (by decide) (by decide) at_129 rfl (fun r400 T397 h399 hQ401 X398 => ?_)
          obtain ⟨rfl, KA, O_b381, O_b374, A_b389, A_b375⟩ := hQ401
          have hz402 : Lo n0 h399.size := Lo.keep hz396 KA
          have O_b296 := O_b296.keep KA (ninN ne_b296_b381 (ninN ne_b296_b389 nin0))
          have A_b297 := A_b297.keep KA (ninN ne_b297_b381 (ninN ne_b297_b389 nin0))
          show Go p e below RS T397 (mkF m 132 #[.val (.int p1), .val (.int p2), .val (.int p3), .val (.int p4), .val (.int p5), .val (.int p6), .val (.int i134), .val (.int i135), .val (.int i136), .val (.int i137), .val (.int i138), .val (.int i140), .val (.int i142), .val (.ref b296), .val (.ref b374), .val (.ref b381), .unset, .unset, .unset, .unset, .unset] [])
          refine g_iload X398 C at_132 rfl rfl ?_
          refine g_iload X398 C at_134 rfl rfl ?_
          refine g_iload X398 C at_136 rfl rfl ?_
          refine g_iload X398 C at_138 rfl rfl ?_
          refine g_static (argsL := [(.int i134), (.int i135), (.int i138), (.int i142)]) (rest := []) (W := 0) X398 C (rmH l Z a0 hw i134 i135 i138 i142 h399 n0 hz402 hna []) (hw _ (List.mem_of_getElem? (i := 25) rfl)) (hw _ (List.mem_of_getElem? (i := 26) rfl)) (hw _ (List.mem_of_getElem? (i := 27) rfl)) (hw _ (List.mem_of_getElem? (i := 28) rfl)) (by decide) pd_3 rfl rfl rfl rfl rfl (by decide) (by decide) (by decide) (by decide) at_140 rfl (fun r406 T403 h405 hQ407 X404 => ?_)
          obtain ⟨i408, rfl, hinA, hh⟩ := hQ407; rw [hh] at X404
          show Go p e below RS T403 (mkF m 143 #[.val (.int p1), .val (.int p2), .val (.int p3), .val (.int p4), .val (.int p5), .val (.int p6), .val (.int i134), .val (.int i135), .val (.int i136), .val (.int i137), .val (.int i138), .val (.int i140), .val (.int i142), .val (.ref b296), .val (.ref b374), .val (.ref b381), .unset, .unset, .unset, .unset, .unset] [(.int i408)])
          refine g_istore (L' := #[.val (.int p1), .val (.int p2), .val (.int p3), .val (.int p4), .val (.int p5), .val (.int p6), .val (.int i134), .val (.int i135), .val (.int i136), .val (.int i137), .val (.int i138), .val (.int i140), .val (.int i142), .val (.ref b296), .val (.ref b374), .val (.ref b381), .val (.int i408), .unset, .unset, .unset, .unset]) X404 C at_143 rfl rfl rfl ?_
          refine g_iload X404 C at_145 rfl rfl ?_
          refine g_iload X404 C at_147 rfl rfl ?_
          refine g_iload X404 C at_149 rfl rfl ?_
          refine g_iload X404 C at_151 rfl rfl ?_
          refine g_static (argsL := [(.int i136), (.int i137), (.int i140), (.int i142)]) (rest := []) (W := 0) X404 C (rmH l Z a0 hw i136 i137 i140 i142 h399 n0 hz402 hnb []) (hw _ (List.mem_of_getElem? (i := 25) rfl)) (hw _ (List.mem_of_getElem? (i := 26) rfl)) (hw _ (List.mem_of_getElem? (i := 27) rfl)) (hw _ (List.mem_of_getElem? (i := 28) rfl)) (by decide) pd_3 rfl rfl rfl rfl rfl (by decide) (by decide) (by decide) (by decide) at_153 rfl (fun r412 T409 h411 hQ413 X410 => ?_)
          obtain ⟨i414, rfl, hinB, hh⟩ := hQ413; rw [hh] at X410
          show Go p e below RS T409 (mkF m 156 #[.val (.int p1), .val (.int p2), .val (.int p3), .val (.int p4), .val (.int p5), .val (.int p6), .val (.int i134), .val (.int i135), .val (.int i136), .val (.int i137), .val (.int i138), .val (.int i140), .val (.int i142), .val (.ref b296), .val (.ref b374), .val (.ref b381), .val (.int i408), .unset, .unset, .unset, .unset] [(.int i414)])
          refine g_istore (L' := #[.val (.int p1), .val (.int p2), .val (.int p3), .val (.int p4), .val (.int p5), .val (.int p6), .val (.int i134), .val (.int i135), .val (.int i136), .val (.int i137), .val (.int i138), .val (.int i140), .val (.int i142), .val (.ref b296), .val (.ref b374), .val (.ref b381), .val (.int i408), .val (.int i414), .unset, .unset, .unset]) X410 C at_156 rfl rfl rfl ?_
          refine g_iload X410 C at_158 rfl rfl ?_
          have J173_415 : ∀ (i415 : Int32) (_ : (i408.toInt ≠ 0 ∧ i415 = (1 : Int32) ∧ i415.toInt = 1) ∨ (i408.toInt = 0 ∧ i414.toInt = 0 ∧ i415 = (0 : Int32) ∧ i415.toInt = 0) ∨ (i408.toInt = 0 ∧ i414.toInt ≠ 0 ∧ i415 = (1 : Int32) ∧ i415.toInt = 1)), Go p e below RS T409 (mkF m 173 #[.val (.int p1), .val (.int p2), .val (.int p3), .val (.int p4), .val (.int p5), .val (.int p6), .val (.int i134), .val (.int i135), .val (.int i136), .val (.int i137), .val (.int i138), .val (.int i140), .val (.int i142), .val (.ref b296), .val (.ref b374), .val (.ref b381), .val (.int i408), .val (.int i414), .unset, .unset, .unset] [(.int i415)]) := by
            intro i415 hJ173
            refine g_istore (L' := #[.val (.int p1), .val (.int p2), .val (.int p3), .val (.int p4), .val (.int p5), .val (.int p6), .val (.int i134), .val (.int i135), .val (.int i136), .val (.int i137), .val (.int i138), .val (.int i140), .val (.int i142), .val (.ref b296), .val (.ref b374), .val (.ref b381), .val (.int i408), .val (.int i414), .val (.int i415), .unset, .unset]) X410 C at_173 rfl rfl rfl ?_
            refine g_iload X410 C at_175 rfl rfl ?_
            have J185_417 : ∀ (i417 : Int32) (_ : (i408.toInt = 0 ∧ i417 = (0 : Int32) ∧ i417.toInt = 0) ∨ (i408.toInt ≠ 0 ∧ i417 = (1 : Int32) ∧ i417.toInt = 1)), Go p e below RS T409 (mkF m 185 #[.val (.int p1), .val (.int p2), .val (.int p3), .val (.int p4), .val (.int p5), .val (.int p6), .val (.int i134), .val (.int i135), .val (.int i136), .val (.int i137), .val (.int i138), .val (.int i140), .val (.int i142), .val (.ref b296), .val (.ref b374), .val (.ref b381), .val (.int i408), .val (.int i414), .val (.int i415), .unset, .unset] [(.int i417)]) := by
              intro i417 hJ185
              refine g_istore (L' := #[.val (.int p1), .val (.int p2), .val (.int p3), .val (.int p4), .val (.int p5), .val (.int p6), .val (.int i134), .val (.int i135), .val (.int i136), .val (.int i137), .val (.int i138), .val (.int i140), .val (.int i142), .val (.ref b296), .val (.ref b374), .val (.ref b381), .val (.int i408), .val (.int i414), .val (.int i415), .val (.int i417), .unset]) X410 C at_185 rfl rfl rfl ?_
              refine g_iload X410 C at_187 rfl rfl ?_
              have J197_419 : ∀ (i419 : Int32) (_ : (i414.toInt = 0 ∧ i419 = (0 : Int32) ∧ i419.toInt = 0) ∨ (i414.toInt ≠ 0 ∧ i419 = (1 : Int32) ∧ i419.toInt = 1)), Go p e below RS T409 (mkF m 197 #[.val (.int p1), .val (.int p2), .val (.int p3), .val (.int p4), .val (.int p5), .val (.int p6), .val (.int i134), .val (.int i135), .val (.int i136), .val (.int i137), .val (.int i138), .val (.int i140), .val (.int i142), .val (.ref b296), .val (.ref b374), .val (.ref b381), .val (.int i408), .val (.int i414), .val (.int i415), .val (.int i417), .unset] [(.int i419)]) := by
                intro i419 hJ197
                refine g_istore (L' := #[.val (.int p1), .val (.int p2), .val (.int p3), .val (.int p4), .val (.int p5), .val (.int p6), .val (.int i134), .val (.int i135), .val (.int i136), .val (.int i137), .val (.int i138), .val (.int i140), .val (.int i142), .val (.ref b296), .val (.ref b374), .val (.ref b381), .val (.int i408), .val (.int i414), .val (.int i415), .val (.int i417), .val (.int i419)]) X410 C at_197 rfl rfl rfl ?_
                refine g_aload X410 C at_199 rfl rfl rfl ?_
                refine g_iload X410 C at_201 rfl rfl ?_
                refine g_virtual (argsL := [(.int i142)]) (rest := []) (W := 0) (a := b381) X410 C (rmT l Z a0 hw b381 b389 i142 (own_add (own_add (0 : Int32) (own_neg (0 : Int32))) (own_neg (0 : Int32))) (fun k => ((fun k => ((fun _ => false) k || (fun k => (!((fun k => decide (la ≤ k ∧ k ≤ ha)) k))) k)) k || (fun k => (!((fun k => decide (lb ≤ k ∧ k ≤ hbb)) k))) k)) sn h399 n0 hz402 hsn (by omega) O_b381 A_b389 []) O_b381.1 (hw _ (List.mem_of_getElem? (i := 29) rfl)) (hw _ (List.mem_of_getElem? (i := 30) rfl)) (hw _ (List.mem_of_getElem? (i := 32) rfl)) (hw _ (List.mem_of_getElem? (i := 31) rfl)) (hw _ (List.mem_of_getElem? (i := 3) rfl)) (hw _ (List.mem_of_getElem? (i := 33) rfl)) (by decide) pd_4 rfl rfl rfl rfl rfl (by decide) (by decide) (by decide) (by decide) at_203 rfl (fun r424 T421 h423 hQ425 X422 => ?_)
                obtain ⟨rfl, hh⟩ := hQ425; rw [hh] at X422
                obtain ⟨i426, h_i426⟩ : ∃ z, z = (if sn = 128 then (own_add (own_add (0 : Int32) (own_neg (0 : Int32))) (own_neg (0 : Int32))) else own_v ((fun k => ((fun k => ((fun _ => false) k || (fun k => (!((fun k => decide (la ≤ k ∧ k ≤ ha)) k))) k)) k || (fun k => (!((fun k => decide (lb ≤ k ∧ k ≤ hbb)) k))) k)) sn)) := ⟨_, rfl⟩
                rw [← h_i426]
                have hsR : i426.toInt = i415.toInt := by
                  have q0 : (0 : Int32).toInt = 0 := (by decide)
                  have q1 : (1 : Int32).toInt = 1 := (by decide)
                  rw [h_i426]; by_cases q : sn = 128
                  · rw [if_pos q, show (own_add (own_add (0 : Int32) (own_neg (0 : Int32))) (own_neg (0 : Int32))) = 1 by decide]; omega
                  · rw [if_neg q]
                    by_cases u : la ≤ sn ∧ sn ≤ ha <;> by_cases v : lb ≤ sn ∧ sn ≤ hbb <;> simp only [u, v, and_self, decide_true, decide_false, Bool.not_true, Bool.not_false, Bool.or_true, Bool.or_false, Bool.true_or, Bool.false_or]
                    all_goals first | rw [show own_v true = 1 from rfl] | rw [show own_v false = 0 from rfl]
                    all_goals omega
                show Go p e below RS T421 (mkF m 206 #[.val (.int p1), .val (.int p2), .val (.int p3), .val (.int p4), .val (.int p5), .val (.int p6), .val (.int i134), .val (.int i135), .val (.int i136), .val (.int i137), .val (.int i138), .val (.int i140), .val (.int i142), .val (.ref b296), .val (.ref b374), .val (.ref b381), .val (.int i408), .val (.int i414), .val (.int i415), .val (.int i417), .val (.int i419)] [(.int i426)])
                refine g_iload X422 C at_206 rfl rfl ?_
                refine g_icmp_ne (a := i426.toInt) (b := i415.toInt) X422 C at_208 rfl rfl (by decide) (pT := 239) (by decide) (pF := 211) rfl (fun hc208 => absurd hc208 (by omega)) (fun hc208 => ?_)
                refine g_aload X422 C at_211 rfl rfl rfl ?_
                refine g_iload X422 C at_213 rfl rfl ?_
                refine g_virtual (argsL := [(.int i142)]) (rest := []) (W := 0) (a := b296) X422 C (rmT l Z a0 hw b296 b297 i142 (own_neg (0 : Int32)) (fun k => (!((fun k => decide (la ≤ k ∧ k ≤ ha)) k))) sn h399 n0 hz402 hsn (by omega) O_b296 A_b297 []) O_b296.1 (hw _ (List.mem_of_getElem? (i := 29) rfl)) (hw _ (List.mem_of_getElem? (i := 30) rfl)) (hw _ (List.mem_of_getElem? (i := 32) rfl)) (hw _ (List.mem_of_getElem? (i := 31) rfl)) (hw _ (List.mem_of_getElem? (i := 3) rfl)) (hw _ (List.mem_of_getElem? (i := 33) rfl)) (by decide) pd_4 rfl rfl rfl rfl rfl (by decide) (by decide) (by decide) (by decide) at_215 rfl (fun r430 T427 h429 hQ431 X428 => ?_)
                obtain ⟨rfl, hh⟩ := hQ431; rw [hh] at X428
                obtain ⟨i432, h_i432⟩ : ∃ z, z = (if sn = 128 then (own_neg (0 : Int32)) else own_v ((fun k => (!((fun k => decide (la ≤ k ∧ k ≤ ha)) k))) sn)) := ⟨_, rfl⟩
                rw [← h_i432]
                have hsA : i432.toInt = i417.toInt := by
                  have q0 : (0 : Int32).toInt = 0 := (by decide)
                  have q1 : (1 : Int32).toInt = 1 := (by decide)
                  rw [h_i432]; by_cases q : sn = 128
                  · rw [if_pos q, show (own_neg (0 : Int32)) = 1 by decide]; omega
                  · rw [if_neg q]
                    by_cases u : la ≤ sn ∧ sn ≤ ha <;> by_cases v : lb ≤ sn ∧ sn ≤ hbb <;> simp only [u, v, and_self, decide_true, decide_false, Bool.not_true, Bool.not_false, Bool.or_true, Bool.or_false, Bool.true_or, Bool.false_or]
                    all_goals first | rw [show own_v true = 1 from rfl] | rw [show own_v false = 0 from rfl]
                    all_goals omega
                show Go p e below RS T427 (mkF m 218 #[.val (.int p1), .val (.int p2), .val (.int p3), .val (.int p4), .val (.int p5), .val (.int p6), .val (.int i134), .val (.int i135), .val (.int i136), .val (.int i137), .val (.int i138), .val (.int i140), .val (.int i142), .val (.ref b296), .val (.ref b374), .val (.ref b381), .val (.int i408), .val (.int i414), .val (.int i415), .val (.int i417), .val (.int i419)] [(.int i432)])
                refine g_iload X428 C at_218 rfl rfl ?_
                refine g_icmp_ne (a := i432.toInt) (b := i417.toInt) X428 C at_220 rfl rfl (by decide) (pT := 239) (by decide) (pF := 223) rfl (fun hc220 => absurd hc220 (by omega)) (fun hc220 => ?_)
                refine g_aload X428 C at_223 rfl rfl rfl ?_
                refine g_iload X428 C at_225 rfl rfl ?_
                refine g_virtual (argsL := [(.int i142)]) (rest := []) (W := 0) (a := b374) X428 C (rmT l Z a0 hw b374 b375 i142 (own_neg (0 : Int32)) (fun k => (!((fun k => decide (lb ≤ k ∧ k ≤ hbb)) k))) sn h399 n0 hz402 hsn (by omega) O_b374 A_b375 []) O_b374.1 (hw _ (List.mem_of_getElem? (i := 29) rfl)) (hw _ (List.mem_of_getElem? (i := 30) rfl)) (hw _ (List.mem_of_getElem? (i := 32) rfl)) (hw _ (List.mem_of_getElem? (i := 31) rfl)) (hw _ (List.mem_of_getElem? (i := 3) rfl)) (hw _ (List.mem_of_getElem? (i := 33) rfl)) (by decide) pd_4 rfl rfl rfl rfl rfl (by decide) (by decide) (by decide) (by decide) at_227 rfl (fun r436 T433 h435 hQ437 X434 => ?_)
                obtain ⟨rfl, hh⟩ := hQ437; rw [hh] at X434
                obtain ⟨i438, h_i438⟩ : ∃ z, z = (if sn = 128 then (own_neg (0 : Int32)) else own_v ((fun k => (!((fun k => decide (lb ≤ k ∧ k ≤ hbb)) k))) sn)) := ⟨_, rfl⟩
                rw [← h_i438]
                have hsB : i438.toInt = i419.toInt := by
                  have q0 : (0 : Int32).toInt = 0 := (by decide)
                  have q1 : (1 : Int32).toInt = 1 := (by decide)
                  rw [h_i438]; by_cases q : sn = 128
                  · rw [if_pos q, show (own_neg (0 : Int32)) = 1 by decide]; omega
                  · rw [if_neg q]
                    by_cases u : la ≤ sn ∧ sn ≤ ha <;> by_cases v : lb ≤ sn ∧ sn ≤ hbb <;> simp only [u, v, and_self, decide_true, decide_false, Bool.not_true, Bool.not_false, Bool.or_true, Bool.or_false, Bool.true_or, Bool.false_or]
                    all_goals first | rw [show own_v true = 1 from rfl] | rw [show own_v false = 0 from rfl]
                    all_goals omega
                show Go p e below RS T433 (mkF m 230 #[.val (.int p1), .val (.int p2), .val (.int p3), .val (.int p4), .val (.int p5), .val (.int p6), .val (.int i134), .val (.int i135), .val (.int i136), .val (.int i137), .val (.int i138), .val (.int i140), .val (.int i142), .val (.ref b296), .val (.ref b374), .val (.ref b381), .val (.int i408), .val (.int i414), .val (.int i415), .val (.int i417), .val (.int i419)] [(.int i438)])
                refine g_iload X434 C at_230 rfl rfl ?_
                refine g_icmp_ne (a := i438.toInt) (b := i419.toInt) X434 C at_232 rfl rfl (by decide) (pT := 239) (by decide) (pF := 235) rfl (fun hc232 => absurd hc232 (by omega)) (fun hc232 => ?_)
                refine g_iconst (v := 1) X434 C at_235 (by decide) rfl ?_
                refine g_goto (pc' := 240) X434 C at_236 (by decide) (by decide) ?_
                rw [hRS]
                refine g_retZ X434 C at_240 ?_ (by decide) (by decide)
                exact rfl
              refine g_if_eq (a := i414.toInt) X410 C at_189 rfl (by decide) (pT := 196) (by decide) (pF := 192) rfl (fun hc189 => ?_) (fun hc189 => ?_)
              ·
                refine g_iconst (v := 0) X410 C at_196 (by decide) rfl ?_
                exact J197_419 (0 : Int32) (Or.inl (⟨hc189, rfl, by decide⟩))
              ·
                refine g_iconst (v := 1) X410 C at_192 (by decide) rfl ?_
                refine g_goto (pc' := 197) X410 C at_193 (by decide) (by decide) ?_
                exact J197_419 (1 : Int32) (Or.inr (⟨hc189, rfl, by decide⟩))
            refine g_if_eq (a := i408.toInt) X410 C at_177 rfl (by decide) (pT := 184) (by decide) (pF := 180) rfl (fun hc177 => ?_) (fun hc177 => ?_)
            ·
              refine g_iconst (v := 0) X410 C at_184 (by decide) rfl ?_
              exact J185_417 (0 : Int32) (Or.inl (⟨hc177, rfl, by decide⟩))
            ·
              refine g_iconst (v := 1) X410 C at_180 (by decide) rfl ?_
              refine g_goto (pc' := 185) X410 C at_181 (by decide) (by decide) ?_
              exact J185_417 (1 : Int32) (Or.inr (⟨hc177, rfl, by decide⟩))
          refine g_if_ne (a := i408.toInt) X410 C at_160 rfl (by decide) (pT := 168) (by decide) (pF := 163) rfl (fun hc160 => ?_) (fun hc160 => ?_)
          ·
            refine g_iconst (v := 1) X410 C at_168 (by decide) rfl ?_
            refine g_goto (pc' := 173) X410 C at_169 (by decide) (by decide) ?_
            exact J173_415 (1 : Int32) (Or.inl (⟨hc160, rfl, by decide⟩))
          ·
            refine g_iload X410 C at_163 rfl rfl ?_
            refine g_if_eq (a := i414.toInt) X410 C at_165 rfl (by decide) (pT := 172) (by decide) (pF := 168) rfl (fun hc165 => ?_) (fun hc165 => ?_)
            ·
              refine g_iconst (v := 0) X410 C at_172 (by decide) rfl ?_
              exact J173_415 (0 : Int32) (Or.inr (Or.inl (⟨hc160, hc165, rfl, by decide⟩)))
            ·
              refine g_iconst (v := 1) X410 C at_168 (by decide) rfl ?_
              refine g_goto (pc' := 173) X410 C at_169 (by decide) (by decide) ?_
              exact J173_415 (1 : Int32) (Or.inr (Or.inr (⟨hc160, hc165, rfl, by decide⟩)))
    refine g_if_eq (a := (p5 &&& (2 : Int32)).toInt) X0 C at_42 rfl (by decide) (pT := 49) (by decide) (pF := 45) rfl (fun hc42 => ?_) (fun hc42 => ?_)
    ·
      refine g_iconst (v := 0) X0 C at_49 (by decide) rfl ?_
      exact J50_140 (0 : Int32) (Or.inl (⟨hc42, rfl, by decide⟩))
    ·
      refine g_iconst (v := 1) X0 C at_45 (by decide) rfl ?_
      refine g_goto (pc' := 50) X0 C at_46 (by decide) (by decide) ?_
      exact J50_140 (1 : Int32) (Or.inr (⟨hc42, rfl, by decide⟩))
  refine g_if_eq (a := (p5 &&& (1 : Int32)).toInt) X0 C at_28 rfl (by decide) (pT := 35) (by decide) (pF := 31) rfl (fun hc28 => ?_) (fun hc28 => ?_)
  ·
    refine g_iconst (v := 0) X0 C at_35 (by decide) rfl ?_
    exact J36_138 (0 : Int32) (Or.inl (⟨hc28, rfl, by decide⟩))
  ·
    refine g_iconst (v := 1) X0 C at_31 (by decide) rfl ?_
    refine g_goto (pc' := 36) X0 C at_32 (by decide) (by decide) ?_
    exact J36_138 (1 : Int32) (Or.inr (⟨hc28, rfl, by decide⟩))
set_option maxRecDepth 65536 in
set_option maxHeartbeats 40000000 in
theorem comes_1 {Post : Tables → Env → Array Value → State → Outcome → State → Prop} (hpost : ∀ tb e args s v u, (limb_1_1.after args s (.returned v) u = true ∧ limb_1_2.after args s (.returned v) u = true ∧ True) → FrameEnd s (.returned v) u (Jvm.fieldLocs frame_1_writes args s ++ Jvm.arrayLocs frame_1_arrays args s ++ Jvm.staticLocs frame_1_statics s) 32 1408 → Post tb e args s (.returned v) u) :
    ArmFor flags0 classFile x code maxLocals ret World_1 tables_1 room_1 Calls_1 rest_1 Pre_1 Post := by
  intro l hfl _ _ p e ha hc hk s m args below hf hA hF happ hP
  obtain ⟨hcalls, hrest, hpre⟩ := hP
  obtain ⟨-, -, -, hnamed, -, -, -, hat⟩ := (Spec.applies_iff hf).mp happ
  obtain ⟨hg, hn⟩ := and_e (Cond.before_iff.mp (show (Jvm.Cond.and given_1 narrow_1).before args s = true from hpre))
  obtain ⟨h1, h2⟩ := and_e hg
  obtain ⟨w0, w1, w2, w3, w4, w5, rfl⟩ : ∃ w0 w1 w2 w3 w4 w5 : Value, args = #[w0, w1, w2, w3, w4, w5] := by
    have hs : args.size = 6 := by simpa [Cond.value, given_1] using h1
    obtain ⟨L⟩ := args
    match L, hs with
    | [w0, w1, w2, w3, w4, w5], _ => exact ⟨w0, w1, w2, w3, w4, w5, rfl⟩
  have hw := fun d (hd : d ∈ tables_1) => atoms_spec (ws := Jvm.Cond.code x code maxLocals ret :: tables_1) hat d (List.mem_cons_of_mem _ hd)
  obtain ⟨g0, r0⟩ := and_e h2
  obtain ⟨k0, e0⟩ := is_v g0
  obtain rfl : w0 = (.int k0) := Option.some.inj e0
  obtain ⟨g1, r1⟩ := and_e r0
  obtain ⟨k1, e1⟩ := is_v g1
  obtain rfl : w1 = (.int k1) := Option.some.inj e1
  obtain ⟨g2, r2⟩ := and_e r1
  obtain ⟨k2, e2⟩ := is_v g2
  obtain rfl : w2 = (.int k2) := Option.some.inj e2
  obtain ⟨g3, r3⟩ := and_e r2
  obtain ⟨k3, e3⟩ := is_v g3
  obtain rfl : w3 = (.int k3) := Option.some.inj e3
  obtain ⟨g4, r4⟩ := and_e r3
  obtain ⟨k4, e4⟩ := is_v g4
  obtain rfl : w4 = (.int k4) := Option.some.inj e4
  obtain ⟨k5, e5⟩ := is_v r4
  obtain rfl : w5 = (.int k5) := Option.some.inj e5
  obtain ⟨n, o, h1, h2, h3, _, L, rfl, ⟨rfl, N⟩, hq⟩ := rm0 l s _ hw k0 k1 k2 k3 k4 k5 s.heap s.heap.size (show Lo s.heap.size s.heap.size from Nat.le_refl _) tables_1 p e ha hc hk s m _ below hf ((Spec.applies_iff_loose hf).mp happ).1 ⟨rfl, State.Warmed39.refl s, rfl⟩ trivial
  refine ⟨n, _, h1, h2, h3, hpost _ _ _ _ _ _ ⟨Cond.after_iff.mpr rfl, Cond.after_iff.mpr (eq_i res_at (Term.int_eval (1)) rfl), trivial⟩ ⟨hq.1, hq.2.1, (hq.2.2.sift fun y hy => Or.inr (N y hy)).mono (by decide) (by decide)⟩⟩
theorem main_1_1 : Claimed_1_1 := comes_1 fun _ _ _ _ _ _ h hF => ⟨h.1, hF⟩
theorem main_1_2 : Claimed_1_2 := comes_1 fun _ _ _ _ _ _ h hF => ⟨h.2.1, hF⟩
end Jvm.Pilot.@@N@@
namespace Jvm.Pilot.@@N@@
open Jvm Jvm.ClassFile Sem Op Lib Jvm.Free Jvm.Stand Jvm.Pilot.@@N@@.Jvm.D
/-! MADE BY PROGRAM (witnessworld.py) out of the Statement's table words and the real class files: 11 classes; the members and pool entries that the words name. The judged class is class 1, her method 1. -/
namespace start1
open Jvm.ClassFile
def u (s : String) : CpInfo := .utf8 (stringToUtf16 s)
/-- a pool by its gaps: so many unusable entries, then the entry; so many at the end -/
def gap : Nat → List CpInfo → List CpInfo
  | 0, r => r
  | n + 1, r => .unusable :: gap n r
def poolList (es : List (Nat × CpInfo)) (last : Nat) : List CpInfo := es.foldr (fun e r => gap e.1 (e.2 :: r)) (gap last [])
def pool (es : List (Nat × CpInfo)) (last : Nat) : Array CpInfo := ⟨poolList es last⟩
def fileOf (pool : Array CpInfo) (this : Nat) (attrs : Array Attribute := #[]) (ms : Array MethodInfo := #[]) (fl : Nat := 33) (sup : Nat := 0) (ifs : Array Nat := #[]) (fds : Array FieldInfo := #[]) : ClassFile where
  minorVersion := 0
  majorVersion := 65
  constantPool := pool
  accessFlags := fl
  thisClass := this
  superClass := sup
  interfaces := ifs
  fields := fds
  methods := ms
  attributes := attrs
def plain (name : String) (sup : Option ClassId) : Class where
  name := name
  kind := .ordinary
  loader := none
  accessFlags := 33
  super := sup
  interfaces := #[]
  cf := none
  fields := #[]
  methods := #[]
  instanceTypes := #[]
  staticTypes := #[]
  resolved := #[]
  callSites := []
  init := .initialized
  statics := none
  mirror := none

def pool0 : Array CpInfo := pool [(5, u "<init>"), (0, u "()V"), (1, .class_ 10), (1, u "java/lang/Object")] 113

def k0c0 : Code := { maxStack := 0, maxLocals := 1, code := object_method_1_code, exceptionTable := #[], attributes := #[] }
def k0m0 : Method := { name := "<init>", desc := "()V", sig := { parameters := [], returnType := none }, accessFlags := 1, code := some k0c0 }
/-- java/lang/Object -/
def k0 : Class := { plain "java/lang/Object" none with
  accessFlags := 33
  interfaces := #[]
  cf := some (fileOf pool0 8 #[] #[{ accessFlags := 1, nameIndex := 5, descriptorIndex := 6, attributes := #[] }] 33 0 #[] #[])
  fields := #[]
  methods := #[k0m0]
  instanceTypes := #[]
  staticTypes := #[]
  resolved := Array.replicate 124 none
  statics := none }

def pool1 : Array CpInfo := pool [(2, .class_ 4), (0, .nameAndType 5 6), (0, u "java/lang/Object"), (0, u "<init>"), (0, u "()V"), (0, .integer 2147483647), (0, .methodref 9 10), (0, .class_ 11), (0, .nameAndType 12 13), (0, u "com/example/feuillet/feuillet/rules/XsdPattern$CharClass"), (0, u "range"), (0, u "(CC)Lcom/example/feuillet/feuillet/rules/XsdPattern$CharClass;"), (0, .methodref 9 15), (0, .nameAndType 16 17), (0, u "negated"), (0, u "()Lcom/example/feuillet/feuillet/rules/XsdPattern$CharClass;"), (0, .methodref 9 3), (0, .methodref 9 20), (0, .nameAndType 21 22), (0, u "add"), (0, u "(Lcom/example/feuillet/feuillet/rules/XsdPattern$CharClass;)V"), (0, .methodref 24 25), (0, .class_ 26), (0, .nameAndType 27 28), (0, u "com/example/feuillet/feuillet/rules/CharClassAddPinLaw"), (0, u "holds"), (0, u "(IIZI)Z"), (0, .methodref 9 30), (0, .nameAndType 31 32), (0, u "takes"), (0, u "(I)I"), (2, u "law"), (0, u "(IIIIII)Z")] 7

def k1m0 : Method := { name := "<init>", desc := "()V", sig := { parameters := [], returnType := none }, accessFlags := 1, code := none }
def k1c1 : Code := { maxStack := 4, maxLocals := 21, code := code, exceptionTable := #[], attributes := #[] }
def k1m1 : Method := { name := "law", desc := "(IIIIII)Z", sig := { parameters := [.int, .int, .int, .int, .int, .int], returnType := some .boolean }, accessFlags := 9, code := some k1c1 }
def k1c2 : Code := { maxStack := 2, maxLocals := 5, code := method_3_code, exceptionTable := #[], attributes := #[] }
def k1m2 : Method := { name := "holds", desc := "(IIZI)Z", sig := { parameters := [.int, .int, .boolean, .int], returnType := some .boolean }, accessFlags := 10, code := some k1c2 }
/-- com/example/feuillet/feuillet/rules/CharClassAddPinLaw -/
def k1 : Class := { plain "com/example/feuillet/feuillet/rules/CharClassAddPinLaw" (some 0) with
  accessFlags := 49
  interfaces := #[]
  cf := some (fileOf pool1 24 #[] #[{ accessFlags := 1, nameIndex := 5, descriptorIndex := 6, attributes := #[] }, { accessFlags := 9, nameIndex := 35, descriptorIndex := 36, attributes := #[] }, { accessFlags := 10, nameIndex := 27, descriptorIndex := 28, attributes := #[] }] 49 2 #[] #[])
  fields := #[]
  methods := #[k1m0, k1m1, k1m2]
  instanceTypes := #[]
  staticTypes := #[]
  resolved := Array.replicate 44 none
  statics := none }

def pool2 : Array CpInfo := pool [(1, .class_ 2), (0, u "com/example/feuillet/feuillet/rules/XsdPattern"), (0, .methodref 4 5), (0, .class_ 6), (0, .nameAndType 7 8), (0, u "java/lang/Object"), (0, u "<init>"), (0, u "()V"), (0, .fieldref 10 11), (0, .class_ 12), (0, .nameAndType 13 14), (0, u "com/example/feuillet/feuillet/rules/XsdPattern$CharClass"), (0, u "ascii"), (0, u "[Z"), (0, .fieldref 10 16), (0, .nameAndType 17 18), (0, u "others"), (0, u "I"), (0, .methodref 10 5), (2, u "range"), (0, u "(CC)Lcom/example/feuillet/feuillet/rules/XsdPattern$CharClass;"), (2, u "negated"), (0, u "()Lcom/example/feuillet/feuillet/rules/XsdPattern$CharClass;"), (0, u "NONE"), (2, u "ALL"), (1, u "UNKNOWN"), (3, u "takes"), (0, u "(I)I"), (3, u "add"), (0, u "(Lcom/example/feuillet/feuillet/rules/XsdPattern$CharClass;)V")] 13

def k2c0 : Code := { maxStack := 2, maxLocals := 1, code := prog_136_method_1_code, exceptionTable := #[], attributes := #[] }
def k2m0 : Method := { name := "<init>", desc := "()V", sig := { parameters := [], returnType := none }, accessFlags := 0, code := some k2c0 }
def k2c1 : Code := { maxStack := 2, maxLocals := 2, code := prog_136_method_2_code, exceptionTable := #[], attributes := #[] }
def k2m1 : Method := { name := "takes", desc := "(I)I", sig := { parameters := [.int], returnType := some .int }, accessFlags := 0, code := some k2c1 }
def k2c2 : Code := { maxStack := 3, maxLocals := 4, code := prog_136_method_4_code, exceptionTable := #[], attributes := #[] }
def k2m2 : Method := { name := "range", desc := "(CC)Lcom/example/feuillet/feuillet/rules/XsdPattern$CharClass;", sig := { parameters := [.char, .char], returnType := some (.object "com/example/feuillet/feuillet/rules/XsdPattern$CharClass") }, accessFlags := 8, code := some k2c2 }
def k2c3 : Code := { maxStack := 5, maxLocals := 3, code := prog_136_method_5_code, exceptionTable := #[], attributes := #[] }
def k2m3 : Method := { name := "add", desc := "(Lcom/example/feuillet/feuillet/rules/XsdPattern$CharClass;)V", sig := { parameters := [(.object "com/example/feuillet/feuillet/rules/XsdPattern$CharClass")], returnType := none }, accessFlags := 0, code := some k2c3 }
def k2c4 : Code := { maxStack := 4, maxLocals := 3, code := prog_136_method_6_code, exceptionTable := #[], attributes := #[] }
def k2m4 : Method := { name := "negated", desc := "()Lcom/example/feuillet/feuillet/rules/XsdPattern$CharClass;", sig := { parameters := [], returnType := some (.object "com/example/feuillet/feuillet/rules/XsdPattern$CharClass") }, accessFlags := 0, code := some k2c4 }
/-- com/example/feuillet/feuillet/rules/XsdPattern$CharClass -/
def k2 : Class := { plain "com/example/feuillet/feuillet/rules/XsdPattern$CharClass" (some 0) with
  accessFlags := 48
  interfaces := #[]
  cf := some (fileOf pool2 10 #[.nestHost 1] #[{ accessFlags := 0, nameIndex := 7, descriptorIndex := 8, attributes := #[] }, { accessFlags := 0, nameIndex := 37, descriptorIndex := 38, attributes := #[] }, { accessFlags := 8, nameIndex := 22, descriptorIndex := 23, attributes := #[] }, { accessFlags := 0, nameIndex := 42, descriptorIndex := 43, attributes := #[] }, { accessFlags := 0, nameIndex := 26, descriptorIndex := 27, attributes := #[] }] 48 4 #[] #[{ accessFlags := 24, nameIndex := 28, descriptorIndex := 18, attributes := #[] }, { accessFlags := 24, nameIndex := 31, descriptorIndex := 18, attributes := #[] }, { accessFlags := 24, nameIndex := 33, descriptorIndex := 18, attributes := #[] }, { accessFlags := 18, nameIndex := 13, descriptorIndex := 14, attributes := #[] }, { accessFlags := 2, nameIndex := 17, descriptorIndex := 18, attributes := #[] }])
  fields := #[{ name := "NONE", type := .int, accessFlags := 24, slot := 0, constantValue := 0 }, { name := "ALL", type := .int, accessFlags := 24, slot := 1, constantValue := 0 }, { name := "UNKNOWN", type := .int, accessFlags := 24, slot := 2, constantValue := 0 }, { name := "ascii", type := (.array .boolean), accessFlags := 18, slot := 0, constantValue := 0 }, { name := "others", type := .int, accessFlags := 2, slot := 1, constantValue := 0 }]
  methods := #[k2m0, k2m1, k2m2, k2m3, k2m4]
  instanceTypes := #[(.array .boolean), .int]
  staticTypes := #[.int, .int, .int]
  resolved := Array.replicate 57 none
  statics := none }

def pool3 : Array CpInfo := pool [(1, u "java/lang/Cloneable"), (0, .class_ 1), (0, u "java/lang/Object"), (0, .class_ 3)] 3

/-- java/lang/Cloneable -/
def k3 : Class := { plain "java/lang/Cloneable" (some 0) with
  accessFlags := 1537
  interfaces := #[]
  cf := some (fileOf pool3 2 #[] #[] 1537 4 #[] #[])
  fields := #[]
  methods := #[]
  instanceTypes := #[]
  staticTypes := #[]
  resolved := Array.replicate 8 none
  statics := none }

def pool4 : Array CpInfo := pool [(1, u "java/io/Serializable"), (0, .class_ 1), (0, u "java/lang/Object"), (0, .class_ 3)] 3

/-- java/io/Serializable -/
def k4 : Class := { plain "java/io/Serializable" (some 0) with
  accessFlags := 1537
  interfaces := #[]
  cf := some (fileOf pool4 2 #[] #[] 1537 4 #[] #[])
  fields := #[]
  methods := #[]
  instanceTypes := #[]
  staticTypes := #[]
  resolved := Array.replicate 8 none
  statics := none }

/-- the primitive boolean -/
def k5 : Class := { plain "boolean" none with kind := .primitive 'Z', accessFlags := 0x411 }
/-- [Z -/
def k6 : Class := { plain "[Z" (some 0) with kind := .array 5 .boolean, interfaces := #[3, 4], accessFlags := 1041 }

/-- the primitive byte -/
def k7 : Class := { plain "byte" none with kind := .primitive 'B', accessFlags := 0x411 }
/-- [B -/
def k8 : Class := { plain "[B" (some 0) with kind := .array 7 .byte, interfaces := #[3, 4], accessFlags := 1041 }

/-- the primitive int -/
def k9 : Class := { plain "int" none with kind := .primitive 'I', accessFlags := 0x411 }
/-- [I -/
def k10 : Class := { plain "[I" (some 0) with kind := .array 9 .int, interfaces := #[3, 4], accessFlags := 1041 }

def heap : Heap := #[]
def classes : Array Class := #[k0, k1, k2, k3, k4, k5, k6, k7, k8, k9, k10]
def interned : List (Array UInt16 × Addr) := []
def slotsUsed : Nat := 0
def theMethod : MethodId := ⟨1, 1⟩
def args0 : Array Value := #[.int 5, .int 7, .int 9, .int 3, .int 1, .int 6]
def aboutOver (below : List Frame) : State where
  vm := { classes := classes, interned := interned.toArray }
  heap := heap
  slotsUsed := slotsUsed
  threads := #[{ frames := .invoking theMethod args0 :: below }]
def below0 : List Frame := [.native { method := ⟨0, 0⟩, args := #[] }]
def about1 : State := aboutOver below0
def p0 : Program := .bare "" "" ""
def e0 : Env := launch0.env 0 0 0
theorem w_frames : about1.frames = Frame.invoking theMethod args0 :: below0 := rfl
set_option maxRecDepth 65536 in
theorem w_args : argsFit about1.vm theMethod args0 = true := by decide +kernel
set_option maxRecDepth 65536 in
theorem w_heap : heapFits about1 = true := by decide +kernel
set_option maxRecDepth 65536 in
theorem w_runnable : about1.curStatus? = some .runnable := by decide +kernel
set_option maxRecDepth 65536 in
theorem w_alone : about1.alone = true := by decide +kernel
set_option maxRecDepth 65536 in
theorem w_named : about1.methodNamed? x = some theMethod := by decide +kernel
set_option maxRecDepth 65536 in
theorem w_hears : about1.hears theMethod below0 = true := by decide +kernel
set_option maxRecDepth 65536 in
theorem w_ripe : about1.ripe theMethod args0 below0 = true := by decide +kernel
theorem w_running : about1.status = .running := rfl
set_option maxRecDepth 65536 in
theorem w_room : about1.hasRoom e0.platform room_1 = true :=
  launch0.hasRoom_least _ room_1 (by decide +kernel) (by decide +kernel) (by decide +kernel) (by decide +kernel) (by decide +kernel) (by decide +kernel)
theorem allAtoms_all (ts : List Jvm.Cond) (a : Array Jvm.Value) (st : Jvm.State) : (allAtoms ts).before a st = ts.all (fun c => c.before a st) := by
  induction ts with
  | nil => rfl
  | cons c t ih =>
    show (Jvm.Cond.and c (allAtoms t)).before a st = _
    rw [Jvm.Cond.before_and, ih, List.all_cons]
def words1 : List Jvm.Cond := Jvm.Cond.code x code maxLocals ret :: tables_1
/-- a 'code' word, met by the world's own term for the bytes: nothing is compared byte by byte -/
theorem code_word {y : MethodName} {bytes : ByteArray} {mx : Nat} {rt : Option FieldType} {a : Array Value} {s : State} {m : MethodId} {meth : Method} {c : Code} (h1 : s.methodNamed? y = some m) (h2 : s.vm.method? m = some meth) (h3 : meth.code = some c) (h4 : c.code = bytes)
    (h5 : (c.maxLocals == mx && c.exceptionTable.isEmpty && decide (c.maxStack ≤ mostOperands) && decide (meth.sig.returnType = rt) && !meth.locks && decide (parseMethodDescriptor y.desc = some meth.sig)) = true) : (Jvm.Cond.code y bytes mx rt).before a s = true := by
  simp only [Bool.and_eq_true, beq_iff_eq, Bool.not_eq_true', decide_eq_true_eq] at h5
  obtain ⟨⟨⟨⟨⟨g1, g2⟩, g3⟩, g4⟩, g5⟩, g6⟩ := h5
  simp [Cond.before, Cond.holds, Cond.value, h1, h2, h3, h4, g1, g2, g3, g4, g5, g6]
def isCode : Jvm.Cond → Bool
  | .code _ _ _ _ => true
  | _ => false
theorem all_split {L : List Jvm.Cond} {P : Jvm.Cond → Bool} (h1 : L.all (fun c => isCode c || P c) = true) (h2 : ∀ c ∈ L.filter isCode, P c = true) : L.all P = true := by
  refine List.all_eq_true.mpr fun c hc => ?_
  have h := List.all_eq_true.mp h1 c hc
  rcases Bool.eq_false_or_eq_true (isCode c) with hi | hi
  · exact h2 c (List.mem_filter.mpr ⟨hc, hi⟩)
  · simpa [hi] using h
set_option maxRecDepth 65536 in
theorem w_c0 : (Jvm.Cond.code x code maxLocals ret).before args0 about1 = true := code_word (m := ⟨1, 1⟩) (meth := k1m1) (c := k1c1) (by decide +kernel) rfl rfl rfl (by decide +kernel)
set_option maxRecDepth 65536 in
theorem w_c1 : (Jvm.Cond.code ({ cls := "com/example/feuillet/feuillet/rules/XsdPattern$CharClass", name := "range", desc := "(CC)Lcom/example/feuillet/feuillet/rules/XsdPattern$CharClass;" } : Jvm.MethodName) prog_136_method_4_code (4 : Nat) (Option.some (Jvm.ClassFile.FieldType.object "com/example/feuillet/feuillet/rules/XsdPattern$CharClass"))).before args0 about1 = true := code_word (m := ⟨2, 2⟩) (meth := k2m2) (c := k2c2) (by decide +kernel) rfl rfl rfl (by decide +kernel)
set_option maxRecDepth 65536 in
theorem w_c2 : (Jvm.Cond.code ({ cls := "com/example/feuillet/feuillet/rules/XsdPattern$CharClass", name := "<init>", desc := "()V" } : Jvm.MethodName) prog_136_method_1_code (1 : Nat) (Option.none : Option Jvm.ClassFile.FieldType)).before args0 about1 = true := code_word (m := ⟨2, 0⟩) (meth := k2m0) (c := k2c0) (by decide +kernel) rfl rfl rfl (by decide +kernel)
set_option maxRecDepth 65536 in
theorem w_c3 : (Jvm.Cond.code ({ cls := "java/lang/Object", name := "<init>", desc := "()V" } : Jvm.MethodName) object_method_1_code (1 : Nat) (Option.none : Option Jvm.ClassFile.FieldType)).before args0 about1 = true := code_word (m := ⟨0, 0⟩) (meth := k0m0) (c := k0c0) (by decide +kernel) rfl rfl rfl (by decide +kernel)
set_option maxRecDepth 65536 in
theorem w_c4 : (Jvm.Cond.code ({ cls := "com/example/feuillet/feuillet/rules/XsdPattern$CharClass", name := "add", desc := "(Lcom/example/feuillet/feuillet/rules/XsdPattern$CharClass;)V" } : Jvm.MethodName) prog_136_method_5_code (3 : Nat) (Option.none : Option Jvm.ClassFile.FieldType)).before args0 about1 = true := code_word (m := ⟨2, 3⟩) (meth := k2m3) (c := k2c3) (by decide +kernel) rfl rfl rfl (by decide +kernel)
set_option maxRecDepth 65536 in
theorem w_c5 : (Jvm.Cond.code ({ cls := "com/example/feuillet/feuillet/rules/CharClassAddPinLaw", name := "holds", desc := "(IIZI)Z" } : Jvm.MethodName) method_3_code (5 : Nat) (Option.some Jvm.ClassFile.FieldType.boolean)).before args0 about1 = true := code_word (m := ⟨1, 2⟩) (meth := k1m2) (c := k1c2) (by decide +kernel) rfl rfl rfl (by decide +kernel)
set_option maxRecDepth 65536 in
theorem w_c6 : (Jvm.Cond.code ({ cls := "com/example/feuillet/feuillet/rules/XsdPattern$CharClass", name := "takes", desc := "(I)I" } : Jvm.MethodName) prog_136_method_2_code (2 : Nat) (Option.some Jvm.ClassFile.FieldType.int)).before args0 about1 = true := code_word (m := ⟨2, 1⟩) (meth := k2m1) (c := k2c1) (by decide +kernel) rfl rfl rfl (by decide +kernel)
set_option maxRecDepth 65536 in
theorem w_c7 : (Jvm.Cond.code ({ cls := "com/example/feuillet/feuillet/rules/XsdPattern$CharClass", name := "negated", desc := "()Lcom/example/feuillet/feuillet/rules/XsdPattern$CharClass;" } : Jvm.MethodName) prog_136_method_6_code (3 : Nat) (Option.some (Jvm.ClassFile.FieldType.object "com/example/feuillet/feuillet/rules/XsdPattern$CharClass"))).before args0 about1 = true := code_word (m := ⟨2, 4⟩) (meth := k2m4) (c := k2c4) (by decide +kernel) rfl rfl rfl (by decide +kernel)
def codes1 : List Jvm.Cond := [Jvm.Cond.code x code maxLocals ret, Jvm.Cond.code ({ cls := "com/example/feuillet/feuillet/rules/XsdPattern$CharClass", name := "range", desc := "(CC)Lcom/example/feuillet/feuillet/rules/XsdPattern$CharClass;" } : Jvm.MethodName) prog_136_method_4_code (4 : Nat) (Option.some (Jvm.ClassFile.FieldType.object "com/example/feuillet/feuillet/rules/XsdPattern$CharClass")), Jvm.Cond.code ({ cls := "com/example/feuillet/feuillet/rules/XsdPattern$CharClass", name := "<init>", desc := "()V" } : Jvm.MethodName) prog_136_method_1_code (1 : Nat) (Option.none : Option Jvm.ClassFile.FieldType), Jvm.Cond.code ({ cls := "java/lang/Object", name := "<init>", desc := "()V" } : Jvm.MethodName) object_method_1_code (1 : Nat) (Option.none : Option Jvm.ClassFile.FieldType), Jvm.Cond.code ({ cls := "com/example/feuillet/feuillet/rules/XsdPattern$CharClass", name := "add", desc := "(Lcom/example/feuillet/feuillet/rules/XsdPattern$CharClass;)V" } : Jvm.MethodName) prog_136_method_5_code (3 : Nat) (Option.none : Option Jvm.ClassFile.FieldType), Jvm.Cond.code ({ cls := "com/example/feuillet/feuillet/rules/CharClassAddPinLaw", name := "holds", desc := "(IIZI)Z" } : Jvm.MethodName) method_3_code (5 : Nat) (Option.some Jvm.ClassFile.FieldType.boolean), Jvm.Cond.code ({ cls := "com/example/feuillet/feuillet/rules/XsdPattern$CharClass", name := "takes", desc := "(I)I" } : Jvm.MethodName) prog_136_method_2_code (2 : Nat) (Option.some Jvm.ClassFile.FieldType.int), Jvm.Cond.code ({ cls := "com/example/feuillet/feuillet/rules/XsdPattern$CharClass", name := "negated", desc := "()Lcom/example/feuillet/feuillet/rules/XsdPattern$CharClass;" } : Jvm.MethodName) prog_136_method_6_code (3 : Nat) (Option.some (Jvm.ClassFile.FieldType.object "com/example/feuillet/feuillet/rules/XsdPattern$CharClass"))]
set_option maxRecDepth 65536 in
theorem codes_eq : words1.filter isCode = codes1 := rfl
theorem w_codes : ∀ c ∈ words1.filter isCode, c.before args0 about1 = true := by
  rw [codes_eq]
  intro c hc
  simp only [codes1, List.mem_cons, List.not_mem_nil, or_false] at hc
  rcases hc with rfl | rfl | rfl | rfl | rfl | rfl | rfl | rfl
  · exact w_c0
  · exact w_c1
  · exact w_c2
  · exact w_c3
  · exact w_c4
  · exact w_c5
  · exact w_c6
  · exact w_c7
set_option maxRecDepth 65536 in
theorem w_t1 : (words1.take 24).all (fun c => isCode c || c.before args0 about1) = true := by decide +kernel
set_option maxRecDepth 65536 in
theorem w_t2 : (words1.drop 24).all (fun c => isCode c || c.before args0 about1) = true := by decide +kernel
theorem w_tables : (allAtoms (Jvm.Cond.code x code maxLocals ret :: tables_1)).before args0 about1 = true := by
  rw [allAtoms_all]
  show words1.all (fun c => c.before args0 about1) = true
  refine all_split ?_ w_codes
  rw [← List.take_append_drop 24 words1, List.all_append, w_t1, w_t2]
  rfl
set_option maxRecDepth 65536 in
theorem w_case : (Jvm.Cond.and given_1 narrow_1).before args0 about1 = true := by decide +kernel
theorem w_applies : (headSpec (Jvm.Cond.code x code maxLocals ret :: tables_1) room_1).applies x e0.platform about1 = true :=
  (Spec.applies_iff w_frames).mpr ⟨w_running, w_runnable, w_alone, w_named, w_hears, w_ripe, w_room, w_tables⟩
theorem atStart : AtStart classFile x code maxLocals ret World_1 tables_1 room_1 Calls_1 rest_1 Pre_1 launch0 p0 e0 about1 theMethod args0 below0 :=
  ⟨lists_1, trivial, launch0.admits_env _ _ _, launch0.least_env, fairChoices_fair.cas, fairChoices_fair.clock, w_frames, w_args, w_heap, w_applies, trivial, trivial, w_case⟩
end start1
theorem witness_1 : WitnessClaimed_1 := ⟨start1.p0, start1.e0, start1.about1, start1.theMethod, start1.args0, start1.below0, start1.atStart⟩
end Jvm.Pilot.@@N@@
