import JvmDerived
import JvmDerived.Pilot.@@N@@Statement
import JvmDerived.Pilot.@@N@@Code
set_option linter.unusedVariables false
set_option linter.unusedSimpArgs false
namespace Jvm.Own
open Sem ClassFile Op Lib Jvm.Stand Jvm.Free Jvm.LawKit Jvm.RoadKit
section Lay
variable {p : Program} {l : Launch} {e : Env} {R : Room} {s : State} {m : MethodId} {args : Array Value} {below : List Frame} {meth : Method} {c : Code} {T T' : State} {cells slots n0 : Nat} {Z : State} {a0 : Array Value} {h h' : Heap} {Rest : State → Outcome → Prop} {pc pc' : Nat} {L L' : Array Slot} {S : List Value} {f f' : JFrame} {bytes : ByteArray} {maxL : Nat} {ret : Option FieldType} {own nme : String}
/-- the run stands here: a Stand whose written places are all new -/
def St (p : Program) (l : Launch) (e : Env) (R : Room) (s : State) (m : MethodId) (args : Array Value) (below : List Frame) (meth : Method) (c : Code) (n0 : Nat) (T : State) (h : Heap) (cells slots : Nat) : Prop := ∃ locs, Stand p l e R s m args below meth c T locs cells slots ∧ Fr n0 locs ∧ T.heap = h
def Cx (p : Program) (s : State) (m : MethodId) (meth : Method) (c : Code) (Z : State) (bytes : ByteArray) (maxL : Nat) (ret : Option FieldType) (own nme : String) : Prop := p.tables.exec = Jvm.exec ∧ c.code = bytes ∧ c.maxLocals = maxL ∧ meth.sig.returnType = ret ∧ meth.locks = false ∧ s.vm.findClass own = some m.cls ∧ meth.name = nme ∧ Z.Warmed39 s.vm
def Go (p : Program) (e : Env) (below : List Frame) (Rest : State → Outcome → Prop) (T : State) (f : JFrame) : Prop := ∃ t o, Steps p.tables e below (T.setTop f) t ∧ Rest t o
theorem go_by (st : ∀ t, Steps p.tables e below (T'.setTop f') t → Steps p.tables e below (T.setTop f) t) (k : Go p e below Rest T' f') : Go p e below Rest T f := by
  obtain ⟨t, o, h1, h2⟩ := k; exact ⟨t, o, st t h1, h2⟩
theorem go_tr (st : Steps p.tables e below (T.setTop f) (T'.setTop f')) (k : Go p e below Rest T' f') : Go p e below Rest T f := by
  obtain ⟨t, o, h1, h2⟩ := k; exact ⟨t, o, st.trans h1, h2⟩
theorem go_cast (q : f = f') (k : Go p e below Rest T f') : Go p e below Rest T f := q ▸ k
abbrev Rs (s : State) (below : List Frame) (n0 : Nat) (Q : Option Value → Heap → Prop) (k n : Nat) : State → Outcome → Prop := fun t o => t.status = .running ∧ Ended t below o ∧ ∃ v L, o = .returned v ∧ (Q v t.heap ∧ Fr n0 L) ∧ FrameEnd s o t L k n
abbrev Ctr (l : Launch) (y : MethodName) (bytes : ByteArray) (maxL : Nat) (ret : Option FieldType) (rm : Room) (Z : State) (n0 : Nat) (as : Array Value) (h : Heap) (Q : Option Value → Heap → Prop) (ws : List Jvm.Cond) : Prop :=
  MetFree l y (head1 (Jvm.Cond.code y bytes maxL ret :: ws) rm) (fun a U => a = as ∧ Z.Warmed39 U.vm ∧ U.heap = h) (fun _ _ _ _ _ => True) (fun _ U o U' => ∃ v L, o = .returned v ∧ (Q v U'.heap ∧ Fr n0 L) ∧ FrameEnd U o U' L rm.cells rm.slots)
theorem ctr_of {y : MethodName} {rm : Room} {as : Array Value} {Q : Option Value → Heap → Prop} {ws : List Jvm.Cond} (hpn : plainFor y = true)
    (body : ∀ p e s m below meth c s₁, St p l e rm s m as below meth c n0 s₁ h 0 0 → Cx p s m meth c Z bytes maxL ret y.cls y.name → Go p e below (Rs s below n0 Q rm.cells rm.slots) s₁ (entryFrame m as maxL)) :
    Ctr l y bytes maxL ret rm Z n0 as h Q ws := by
  refine MetFree.of_bodySF hpn hisR ?_
  intro p e s m args below meth c s₁ Bd hml0 hP hK
  obtain ⟨rfl, hZ, hh⟩ := hP
  have hown := findClass_of_methodNamed Bd.named
  have hnm := (name_of_methodNamed Bd.named Bd.method).1
  have X0 : Stand p l e rm s m args below meth c s₁ [] 0 0 := Stand.of_body Bd
  have e0 : s₁.heap = h := by rw [← hh, Bd.state]; rfl
  obtain ⟨t, o, h1, h2, h3, h4⟩ := body p e s m below meth c s₁ ⟨[], X0, Fr.nil n0, e0⟩ ⟨Bd.exec, Bd.bytes, hml0, Bd.returns, Bd.notSynchronized, hown, hnm, hZ⟩
  exact ⟨t, o, h1, h2, h3, h4⟩
theorem g_iload (X : St p l e R s m args below meth c n0 T h cells slots) (C : Cx p s m meth c Z bytes maxL ret own nme) {k : Nat} {v : Int32} (hd : decode bytes pc = .ok (.iload k, 2)) (hl : L[k]? = some (.val (.int v))) (hp : pc + 2 = pc') (r : Go p e below Rest T (mkF m pc' L (.int v :: S))) : Go p e below Rest T (mkF m pc L S) := by
  obtain ⟨_, X, -, -⟩ := X; obtain ⟨hx, hby, -⟩ := C; subst hp
  exact go_by (fun t k => XS.iload X.here hx rfl (hb hby hd) hl k) r
theorem g_iloadN (X : St p l e R s m args below meth c n0 T h cells slots) (C : Cx p s m meth c Z bytes maxL ret own nme) {k : Fin 4} {v : Int32} (hd : decode bytes pc = .ok (.iload_n k, 1)) (hl : L[k.val]? = some (.val (.int v))) (hp : pc + 1 = pc') (r : Go p e below Rest T (mkF m pc' L (.int v :: S))) : Go p e below Rest T (mkF m pc L S) := by
  obtain ⟨_, X, -, -⟩ := X; obtain ⟨hx, hby, -⟩ := C; subst hp
  exact go_by (fun t k => XS.iloadN X.here hx rfl (hb hby hd) hl k) r
theorem g_istore (X : St p l e R s m args below meth c n0 T h cells slots) (C : Cx p s m meth c Z bytes maxL ret own nme) {k : Nat} {v v' : Int32} (hd : decode bytes pc = .ok (.istore k, 2)) (hv : v' = v) (hl : storeLocals L k (.int v') = some L') (hp : pc + 2 = pc') (r : Go p e below Rest T (mkF m pc' L' S)) : Go p e below Rest T (mkF m pc L (.int v :: S)) := by
  obtain ⟨_, X, -, -⟩ := X; obtain ⟨hx, hby, -⟩ := C; subst hp
  exact go_by (fun t k => XS.istore X.here hx rfl (hb hby hd) rfl (hv ▸ hl) k) r
theorem g_istoreN (X : St p l e R s m args below meth c n0 T h cells slots) (C : Cx p s m meth c Z bytes maxL ret own nme) {k : Fin 4} {v v' : Int32} (hd : decode bytes pc = .ok (.istore_n k, 1)) (hv : v' = v) (hl : storeLocals L k.val (.int v') = some L') (hp : pc + 1 = pc') (r : Go p e below Rest T (mkF m pc' L' S)) : Go p e below Rest T (mkF m pc L (.int v :: S)) := by
  obtain ⟨_, X, -, -⟩ := X; obtain ⟨hx, hby, -⟩ := C; subst hp
  exact go_by (fun t k => XS.istoreN X.here hx rfl (hb hby hd) rfl (hv ▸ hl) k) r
theorem g_lload (X : St p l e R s m args below meth c n0 T h cells slots) (C : Cx p s m meth c Z bytes maxL ret own nme) {k : Nat} {v : Int64} (hd : decode bytes pc = .ok (.lload k, 2)) (hl : L[k]? = some (.val (.long v))) (hp : pc + 2 = pc') (r : Go p e below Rest T (mkF m pc' L (.long v :: S))) : Go p e below Rest T (mkF m pc L S) := by
  obtain ⟨_, X, -, -⟩ := X; obtain ⟨hx, hby, -⟩ := C; subst hp
  exact go_by (fun t k => XS.lload X.here hx rfl (hb hby hd) hl k) r
theorem g_lloadN (X : St p l e R s m args below meth c n0 T h cells slots) (C : Cx p s m meth c Z bytes maxL ret own nme) {k : Fin 4} {v : Int64} (hd : decode bytes pc = .ok (.lload_n k, 1)) (hl : L[k.val]? = some (.val (.long v))) (hp : pc + 1 = pc') (r : Go p e below Rest T (mkF m pc' L (.long v :: S))) : Go p e below Rest T (mkF m pc L S) := by
  obtain ⟨_, X, -, -⟩ := X; obtain ⟨hx, hby, -⟩ := C; subst hp
  exact go_by (fun t k => XS.lloadN X.here hx rfl (hb hby hd) hl k) r
theorem g_lstore (X : St p l e R s m args below meth c n0 T h cells slots) (C : Cx p s m meth c Z bytes maxL ret own nme) {k : Nat} {v v' : Int64} (hd : decode bytes pc = .ok (.lstore k, 2)) (hv : v' = v) (hl : storeLocals L k (.long v') = some L') (hp : pc + 2 = pc') (r : Go p e below Rest T (mkF m pc' L' S)) : Go p e below Rest T (mkF m pc L (.long v :: S)) := by
  obtain ⟨_, X, -, -⟩ := X; obtain ⟨hx, hby, -⟩ := C; subst hp
  exact go_by (fun t k => XS.lstore X.here hx rfl (hb hby hd) rfl (hv ▸ hl) k) r
theorem g_lstoreN (X : St p l e R s m args below meth c n0 T h cells slots) (C : Cx p s m meth c Z bytes maxL ret own nme) {k : Fin 4} {v v' : Int64} (hd : decode bytes pc = .ok (.lstore_n k, 1)) (hv : v' = v) (hl : storeLocals L k.val (.long v') = some L') (hp : pc + 1 = pc') (r : Go p e below Rest T (mkF m pc' L' S)) : Go p e below Rest T (mkF m pc L (.long v :: S)) := by
  obtain ⟨_, X, -, -⟩ := X; obtain ⟨hx, hby, -⟩ := C; subst hp
  exact go_by (fun t k => XS.lstoreN X.here hx rfl (hb hby hd) rfl (hv ▸ hl) k) r
theorem g_aload (X : St p l e R s m args below meth c n0 T h cells slots) (C : Cx p s m meth c Z bytes maxL ret own nme) {k : Nat} {v : Value} (hd : decode bytes pc = .ok (.aload k, 2)) (hl : L[k]? = some (.val v)) (hv : v.isRef = true) (hp : pc + 2 = pc') (r : Go p e below Rest T (mkF m pc' L (v :: S))) : Go p e below Rest T (mkF m pc L S) := by
  obtain ⟨_, X, -, -⟩ := X; obtain ⟨hx, hby, -⟩ := C; subst hp
  exact go_by (fun t k => XS.aload X.here hx rfl (hb hby hd) hl hv k) r
theorem g_aloadN (X : St p l e R s m args below meth c n0 T h cells slots) (C : Cx p s m meth c Z bytes maxL ret own nme) {k : Fin 4} {v : Value} (hd : decode bytes pc = .ok (.aload_n k, 1)) (hl : L[k.val]? = some (.val v)) (hv : v.isRef = true) (hp : pc + 1 = pc') (r : Go p e below Rest T (mkF m pc' L (v :: S))) : Go p e below Rest T (mkF m pc L S) := by
  obtain ⟨_, X, -, -⟩ := X; obtain ⟨hx, hby, -⟩ := C; subst hp
  exact go_by (fun t k => XS.aloadN X.here hx rfl (hb hby hd) hl hv k) r
theorem g_astore (X : St p l e R s m args below meth c n0 T h cells slots) (C : Cx p s m meth c Z bytes maxL ret own nme) {k : Nat} {v : Value} (hd : decode bytes pc = .ok (.astore k, 2)) (hv : v.isRef = true) (hl : storeLocals L k v = some L') (hp : pc + 2 = pc') (r : Go p e below Rest T (mkF m pc' L' S)) : Go p e below Rest T (mkF m pc L (v :: S)) := by
  obtain ⟨_, X, -, -⟩ := X; obtain ⟨hx, hby, -⟩ := C; subst hp
  exact go_by (fun t k => XS.astore X.here hx rfl (hb hby hd) rfl hv hl k) r
theorem g_astoreN (X : St p l e R s m args below meth c n0 T h cells slots) (C : Cx p s m meth c Z bytes maxL ret own nme) {k : Fin 4} {v : Value} (hd : decode bytes pc = .ok (.astore_n k, 1)) (hv : v.isRef = true) (hl : storeLocals L k.val v = some L') (hp : pc + 1 = pc') (r : Go p e below Rest T (mkF m pc' L' S)) : Go p e below Rest T (mkF m pc L (v :: S)) := by
  obtain ⟨_, X, -, -⟩ := X; obtain ⟨hx, hby, -⟩ := C; subst hp
  exact go_by (fun t k => XS.astoreN X.here hx rfl (hb hby hd) rfl hv hl k) r
theorem g_iconst (X : St p l e R s m args below meth c n0 T h cells slots) (C : Cx p s m meth c Z bytes maxL ret own nme) {i : Int} {v : Int32} (hd : decode bytes pc = .ok (.iconst i, 1)) (hv : Int32.ofInt i = v) (hp : pc + 1 = pc') (r : Go p e below Rest T (mkF m pc' L (.int v :: S))) : Go p e below Rest T (mkF m pc L S) := by
  obtain ⟨_, X, -, -⟩ := X; obtain ⟨hx, hby, -⟩ := C; subst hp hv
  exact go_by (fun t k => XS.iconst X.here hx rfl (hb hby hd) k) r
theorem g_bipush (X : St p l e R s m args below meth c n0 T h cells slots) (C : Cx p s m meth c Z bytes maxL ret own nme) {i : Int} {v : Int32} (hd : decode bytes pc = .ok (.bipush i, 2)) (hv : (Int8.ofInt i).toInt32 = v) (hp : pc + 2 = pc') (r : Go p e below Rest T (mkF m pc' L (.int v :: S))) : Go p e below Rest T (mkF m pc L S) := by
  obtain ⟨_, X, -, -⟩ := X; obtain ⟨hx, hby, -⟩ := C; subst hp hv
  exact go_by (fun t k => XS.bipush X.here hx rfl (hb hby hd) k) r
theorem g_sipush (X : St p l e R s m args below meth c n0 T h cells slots) (C : Cx p s m meth c Z bytes maxL ret own nme) {i : Int} {v : Int32} (hd : decode bytes pc = .ok (.sipush i, 3)) (hv : (Int16.ofInt i).toInt32 = v) (hp : pc + 3 = pc') (r : Go p e below Rest T (mkF m pc' L (.int v :: S))) : Go p e below Rest T (mkF m pc L S) := by
  obtain ⟨_, X, -, -⟩ := X; obtain ⟨hx, hby, -⟩ := C; subst hp hv
  exact go_by (fun t k => XS.sipush X.here hx rfl (hb hby hd) k) r
theorem g_lconst (X : St p l e R s m args below meth c n0 T h cells slots) (C : Cx p s m meth c Z bytes maxL ret own nme) {i : Fin 2} {v : Int64} (hd : decode bytes pc = .ok (.lconst i, 1)) (hv : Int64.ofNat i = v) (hp : pc + 1 = pc') (r : Go p e below Rest T (mkF m pc' L (.long v :: S))) : Go p e below Rest T (mkF m pc L S) := by
  obtain ⟨_, X, -, -⟩ := X; obtain ⟨hx, hby, -⟩ := C; subst hp hv
  exact go_by (fun t k => XS.lconst X.here hx rfl (hb hby hd) k) r
theorem g_aconst (X : St p l e R s m args below meth c n0 T h cells slots) (C : Cx p s m meth c Z bytes maxL ret own nme)  (hd : decode bytes pc = .ok (.aconst_null, 1))  (hp : pc + 1 = pc') (r : Go p e below Rest T (mkF m pc' L (.null :: S))) : Go p e below Rest T (mkF m pc L S) := by
  obtain ⟨_, X, -, -⟩ := X; obtain ⟨hx, hby, -⟩ := C; subst hp
  exact go_by (fun t k => XS.aconstNull X.here hx rfl (hb hby hd)  k) r
theorem g_iadd (X : St p l e R s m args below meth c n0 T h cells slots) (C : Cx p s m meth c Z bytes maxL ret own nme) {x y : Int32} (hd : decode bytes pc = .ok (.iadd, 1))  (hp : pc + 1 = pc') (r : Go p e below Rest T (mkF m pc' L (.int (x + y) :: S))) : Go p e below Rest T (mkF m pc L (.int y :: .int x :: S)) := by
  obtain ⟨_, X, -, -⟩ := X; obtain ⟨hx, hby, -⟩ := C; subst hp
  exact go_by (fun t k => XS.iadd X.here hx rfl (hb hby hd) rfl k) r
theorem g_ladd (X : St p l e R s m args below meth c n0 T h cells slots) (C : Cx p s m meth c Z bytes maxL ret own nme) {x y : Int64} (hd : decode bytes pc = .ok (.ladd, 1))  (hp : pc + 1 = pc') (r : Go p e below Rest T (mkF m pc' L (.long (x + y) :: S))) : Go p e below Rest T (mkF m pc L (.long y :: .long x :: S)) := by
  obtain ⟨_, X, -, -⟩ := X; obtain ⟨hx, hby, -⟩ := C; subst hp
  exact go_by (fun t k => XS.ladd X.here hx rfl (hb hby hd) rfl k) r
theorem g_isub (X : St p l e R s m args below meth c n0 T h cells slots) (C : Cx p s m meth c Z bytes maxL ret own nme) {x y : Int32} (hd : decode bytes pc = .ok (.isub, 1))  (hp : pc + 1 = pc') (r : Go p e below Rest T (mkF m pc' L (.int (x - y) :: S))) : Go p e below Rest T (mkF m pc L (.int y :: .int x :: S)) := by
  obtain ⟨_, X, -, -⟩ := X; obtain ⟨hx, hby, -⟩ := C; subst hp
  exact go_by (fun t k => XS.isub X.here hx rfl (hb hby hd) rfl k) r
theorem g_lsub (X : St p l e R s m args below meth c n0 T h cells slots) (C : Cx p s m meth c Z bytes maxL ret own nme) {x y : Int64} (hd : decode bytes pc = .ok (.lsub, 1))  (hp : pc + 1 = pc') (r : Go p e below Rest T (mkF m pc' L (.long (x - y) :: S))) : Go p e below Rest T (mkF m pc L (.long y :: .long x :: S)) := by
  obtain ⟨_, X, -, -⟩ := X; obtain ⟨hx, hby, -⟩ := C; subst hp
  exact go_by (fun t k => XS.lsub X.here hx rfl (hb hby hd) rfl k) r
theorem g_imul (X : St p l e R s m args below meth c n0 T h cells slots) (C : Cx p s m meth c Z bytes maxL ret own nme) {x y : Int32} (hd : decode bytes pc = .ok (.imul, 1))  (hp : pc + 1 = pc') (r : Go p e below Rest T (mkF m pc' L (.int (x * y) :: S))) : Go p e below Rest T (mkF m pc L (.int y :: .int x :: S)) := by
  obtain ⟨_, X, -, -⟩ := X; obtain ⟨hx, hby, -⟩ := C; subst hp
  exact go_by (fun t k => XS.imul X.here hx rfl (hb hby hd) rfl k) r
theorem g_lmul (X : St p l e R s m args below meth c n0 T h cells slots) (C : Cx p s m meth c Z bytes maxL ret own nme) {x y : Int64} (hd : decode bytes pc = .ok (.lmul, 1))  (hp : pc + 1 = pc') (r : Go p e below Rest T (mkF m pc' L (.long (x * y) :: S))) : Go p e below Rest T (mkF m pc L (.long y :: .long x :: S)) := by
  obtain ⟨_, X, -, -⟩ := X; obtain ⟨hx, hby, -⟩ := C; subst hp
  exact go_by (fun t k => XS.lmul X.here hx rfl (hb hby hd) rfl k) r
theorem g_iand (X : St p l e R s m args below meth c n0 T h cells slots) (C : Cx p s m meth c Z bytes maxL ret own nme) {x y : Int32} (hd : decode bytes pc = .ok (.iand, 1))  (hp : pc + 1 = pc') (r : Go p e below Rest T (mkF m pc' L (.int (x &&& y) :: S))) : Go p e below Rest T (mkF m pc L (.int y :: .int x :: S)) := by
  obtain ⟨_, X, -, -⟩ := X; obtain ⟨hx, hby, -⟩ := C; subst hp
  exact go_by (fun t k => XS.iand X.here hx rfl (hb hby hd) rfl k) r
theorem g_land (X : St p l e R s m args below meth c n0 T h cells slots) (C : Cx p s m meth c Z bytes maxL ret own nme) {x y : Int64} (hd : decode bytes pc = .ok (.land, 1))  (hp : pc + 1 = pc') (r : Go p e below Rest T (mkF m pc' L (.long (x &&& y) :: S))) : Go p e below Rest T (mkF m pc L (.long y :: .long x :: S)) := by
  obtain ⟨_, X, -, -⟩ := X; obtain ⟨hx, hby, -⟩ := C; subst hp
  exact go_by (fun t k => XS.land X.here hx rfl (hb hby hd) rfl k) r
theorem g_ior (X : St p l e R s m args below meth c n0 T h cells slots) (C : Cx p s m meth c Z bytes maxL ret own nme) {x y : Int32} (hd : decode bytes pc = .ok (.ior, 1))  (hp : pc + 1 = pc') (r : Go p e below Rest T (mkF m pc' L (.int (x ||| y) :: S))) : Go p e below Rest T (mkF m pc L (.int y :: .int x :: S)) := by
  obtain ⟨_, X, -, -⟩ := X; obtain ⟨hx, hby, -⟩ := C; subst hp
  exact go_by (fun t k => XS.ior X.here hx rfl (hb hby hd) rfl k) r
theorem g_lor (X : St p l e R s m args below meth c n0 T h cells slots) (C : Cx p s m meth c Z bytes maxL ret own nme) {x y : Int64} (hd : decode bytes pc = .ok (.lor, 1))  (hp : pc + 1 = pc') (r : Go p e below Rest T (mkF m pc' L (.long (x ||| y) :: S))) : Go p e below Rest T (mkF m pc L (.long y :: .long x :: S)) := by
  obtain ⟨_, X, -, -⟩ := X; obtain ⟨hx, hby, -⟩ := C; subst hp
  exact go_by (fun t k => XS.lor X.here hx rfl (hb hby hd) rfl k) r
theorem g_ixor (X : St p l e R s m args below meth c n0 T h cells slots) (C : Cx p s m meth c Z bytes maxL ret own nme) {x y : Int32} (hd : decode bytes pc = .ok (.ixor, 1))  (hp : pc + 1 = pc') (r : Go p e below Rest T (mkF m pc' L (.int (x ^^^ y) :: S))) : Go p e below Rest T (mkF m pc L (.int y :: .int x :: S)) := by
  obtain ⟨_, X, -, -⟩ := X; obtain ⟨hx, hby, -⟩ := C; subst hp
  exact go_by (fun t k => XS.ixor X.here hx rfl (hb hby hd) rfl k) r
theorem g_lxor (X : St p l e R s m args below meth c n0 T h cells slots) (C : Cx p s m meth c Z bytes maxL ret own nme) {x y : Int64} (hd : decode bytes pc = .ok (.lxor, 1))  (hp : pc + 1 = pc') (r : Go p e below Rest T (mkF m pc' L (.long (x ^^^ y) :: S))) : Go p e below Rest T (mkF m pc L (.long y :: .long x :: S)) := by
  obtain ⟨_, X, -, -⟩ := X; obtain ⟨hx, hby, -⟩ := C; subst hp
  exact go_by (fun t k => XS.lxor X.here hx rfl (hb hby hd) rfl k) r
theorem g_ishl (X : St p l e R s m args below meth c n0 T h cells slots) (C : Cx p s m meth c Z bytes maxL ret own nme) {x : Int32} {y : Int32} (hd : decode bytes pc = .ok (.ishl, 1))  (hp : pc + 1 = pc') (r : Go p e below Rest T (mkF m pc' L (.int (x <<< (y &&& 31)) :: S))) : Go p e below Rest T (mkF m pc L (.int y :: .int x :: S)) := by
  obtain ⟨_, X, -, -⟩ := X; obtain ⟨hx, hby, -⟩ := C; subst hp
  exact go_by (fun t k => XS.ishl X.here hx rfl (hb hby hd) rfl k) r
theorem g_ishr (X : St p l e R s m args below meth c n0 T h cells slots) (C : Cx p s m meth c Z bytes maxL ret own nme) {x : Int32} {y : Int32} (hd : decode bytes pc = .ok (.ishr, 1))  (hp : pc + 1 = pc') (r : Go p e below Rest T (mkF m pc' L (.int (x >>> (y &&& 31)) :: S))) : Go p e below Rest T (mkF m pc L (.int y :: .int x :: S)) := by
  obtain ⟨_, X, -, -⟩ := X; obtain ⟨hx, hby, -⟩ := C; subst hp
  exact go_by (fun t k => XS.ishr X.here hx rfl (hb hby hd) rfl k) r
theorem g_iushr (X : St p l e R s m args below meth c n0 T h cells slots) (C : Cx p s m meth c Z bytes maxL ret own nme) {x : Int32} {y : Int32} (hd : decode bytes pc = .ok (.iushr, 1))  (hp : pc + 1 = pc') (r : Go p e below Rest T (mkF m pc' L (.int ((x.toUInt32 >>> (y &&& 31).toUInt32).toInt32) :: S))) : Go p e below Rest T (mkF m pc L (.int y :: .int x :: S)) := by
  obtain ⟨_, X, -, -⟩ := X; obtain ⟨hx, hby, -⟩ := C; subst hp
  exact go_by (fun t k => XS.iushr X.here hx rfl (hb hby hd) rfl k) r
theorem g_lshl (X : St p l e R s m args below meth c n0 T h cells slots) (C : Cx p s m meth c Z bytes maxL ret own nme) {x : Int64} {y : Int32} (hd : decode bytes pc = .ok (.lshl, 1))  (hp : pc + 1 = pc') (r : Go p e below Rest T (mkF m pc' L (.long (x <<< (y &&& 0x3f).toInt64) :: S))) : Go p e below Rest T (mkF m pc L (.int y :: .long x :: S)) := by
  obtain ⟨_, X, -, -⟩ := X; obtain ⟨hx, hby, -⟩ := C; subst hp
  exact go_by (fun t k => XS.lshl X.here hx rfl (hb hby hd) rfl k) r
theorem g_lshr (X : St p l e R s m args below meth c n0 T h cells slots) (C : Cx p s m meth c Z bytes maxL ret own nme) {x : Int64} {y : Int32} (hd : decode bytes pc = .ok (.lshr, 1))  (hp : pc + 1 = pc') (r : Go p e below Rest T (mkF m pc' L (.long (x >>> (y &&& 0x3f).toInt64) :: S))) : Go p e below Rest T (mkF m pc L (.int y :: .long x :: S)) := by
  obtain ⟨_, X, -, -⟩ := X; obtain ⟨hx, hby, -⟩ := C; subst hp
  exact go_by (fun t k => XS.lshr X.here hx rfl (hb hby hd) rfl k) r
theorem g_lushr (X : St p l e R s m args below meth c n0 T h cells slots) (C : Cx p s m meth c Z bytes maxL ret own nme) {x : Int64} {y : Int32} (hd : decode bytes pc = .ok (.lushr, 1))  (hp : pc + 1 = pc') (r : Go p e below Rest T (mkF m pc' L (.long ((x.toUInt64 >>> (y &&& 0x3f).toInt64.toUInt64).toInt64) :: S))) : Go p e below Rest T (mkF m pc L (.int y :: .long x :: S)) := by
  obtain ⟨_, X, -, -⟩ := X; obtain ⟨hx, hby, -⟩ := C; subst hp
  exact go_by (fun t k => XS.lushr X.here hx rfl (hb hby hd) rfl k) r
theorem g_idiv (X : St p l e R s m args below meth c n0 T h cells slots) (C : Cx p s m meth c Z bytes maxL ret own nme) {x y : Int32} (hd : decode bytes pc = .ok (.idiv, 1)) (hy : y ≠ 0) (hp : pc + 1 = pc') (r : Go p e below Rest T (mkF m pc' L (.int (x / y) :: S))) : Go p e below Rest T (mkF m pc L (.int y :: .int x :: S)) := by
  obtain ⟨_, X, -, -⟩ := X; obtain ⟨hx, hby, -⟩ := C; subst hp
  exact go_by (fun t k => XS.idiv X.here hx rfl (hb hby hd) rfl hy k) r
theorem g_ldiv (X : St p l e R s m args below meth c n0 T h cells slots) (C : Cx p s m meth c Z bytes maxL ret own nme) {x y : Int64} (hd : decode bytes pc = .ok (.ldiv, 1)) (hy : y ≠ 0) (hp : pc + 1 = pc') (r : Go p e below Rest T (mkF m pc' L (.long (x / y) :: S))) : Go p e below Rest T (mkF m pc L (.long y :: .long x :: S)) := by
  obtain ⟨_, X, -, -⟩ := X; obtain ⟨hx, hby, -⟩ := C; subst hp
  exact go_by (fun t k => XS.ldiv X.here hx rfl (hb hby hd) rfl hy k) r
theorem g_ineg (X : St p l e R s m args below meth c n0 T h cells slots) (C : Cx p s m meth c Z bytes maxL ret own nme) {x : Int32} (hd : decode bytes pc = .ok (.ineg, 1))  (hp : pc + 1 = pc') (r : Go p e below Rest T (mkF m pc' L (.int ((-x)) :: S))) : Go p e below Rest T (mkF m pc L (.int x :: S)) := by
  obtain ⟨_, X, -, -⟩ := X; obtain ⟨hx, hby, -⟩ := C; subst hp
  exact go_by (fun t k => XS.ineg X.here hx rfl (hb hby hd) rfl k) r
theorem g_lneg (X : St p l e R s m args below meth c n0 T h cells slots) (C : Cx p s m meth c Z bytes maxL ret own nme) {x : Int64} (hd : decode bytes pc = .ok (.lneg, 1))  (hp : pc + 1 = pc') (r : Go p e below Rest T (mkF m pc' L (.long ((-x)) :: S))) : Go p e below Rest T (mkF m pc L (.long x :: S)) := by
  obtain ⟨_, X, -, -⟩ := X; obtain ⟨hx, hby, -⟩ := C; subst hp
  exact go_by (fun t k => XS.lneg X.here hx rfl (hb hby hd) rfl k) r
theorem g_i2l (X : St p l e R s m args below meth c n0 T h cells slots) (C : Cx p s m meth c Z bytes maxL ret own nme) {x : Int32} (hd : decode bytes pc = .ok (.i2l, 1))  (hp : pc + 1 = pc') (r : Go p e below Rest T (mkF m pc' L (.long (x.toInt64) :: S))) : Go p e below Rest T (mkF m pc L (.int x :: S)) := by
  obtain ⟨_, X, -, -⟩ := X; obtain ⟨hx, hby, -⟩ := C; subst hp
  exact go_by (fun t k => XS.i2l X.here hx rfl (hb hby hd) rfl k) r
theorem g_l2i (X : St p l e R s m args below meth c n0 T h cells slots) (C : Cx p s m meth c Z bytes maxL ret own nme) {x : Int64} (hd : decode bytes pc = .ok (.l2i, 1))  (hp : pc + 1 = pc') (r : Go p e below Rest T (mkF m pc' L (.int (x.toInt32) :: S))) : Go p e below Rest T (mkF m pc L (.long x :: S)) := by
  obtain ⟨_, X, -, -⟩ := X; obtain ⟨hx, hby, -⟩ := C; subst hp
  exact go_by (fun t k => XS.l2i X.here hx rfl (hb hby hd) rfl k) r
theorem g_i2b (X : St p l e R s m args below meth c n0 T h cells slots) (C : Cx p s m meth c Z bytes maxL ret own nme) {x : Int32} (hd : decode bytes pc = .ok (.i2b, 1))  (hp : pc + 1 = pc') (r : Go p e below Rest T (mkF m pc' L (.int (x.toInt8.toInt32) :: S))) : Go p e below Rest T (mkF m pc L (.int x :: S)) := by
  obtain ⟨_, X, -, -⟩ := X; obtain ⟨hx, hby, -⟩ := C; subst hp
  exact go_by (fun t k => XS.i2b X.here hx rfl (hb hby hd) rfl k) r
theorem g_i2s (X : St p l e R s m args below meth c n0 T h cells slots) (C : Cx p s m meth c Z bytes maxL ret own nme) {x : Int32} (hd : decode bytes pc = .ok (.i2s, 1))  (hp : pc + 1 = pc') (r : Go p e below Rest T (mkF m pc' L (.int (x.toInt16.toInt32) :: S))) : Go p e below Rest T (mkF m pc L (.int x :: S)) := by
  obtain ⟨_, X, -, -⟩ := X; obtain ⟨hx, hby, -⟩ := C; subst hp
  exact go_by (fun t k => XS.i2s X.here hx rfl (hb hby hd) rfl k) r
theorem g_i2c (X : St p l e R s m args below meth c n0 T h cells slots) (C : Cx p s m meth c Z bytes maxL ret own nme) {x : Int32} (hd : decode bytes pc = .ok (.i2c, 1))  (hp : pc + 1 = pc') (r : Go p e below Rest T (mkF m pc' L (.int (x.toUInt32.toUInt16.toUInt32.toInt32) :: S))) : Go p e below Rest T (mkF m pc L (.int x :: S)) := by
  obtain ⟨_, X, -, -⟩ := X; obtain ⟨hx, hby, -⟩ := C; subst hp
  exact go_by (fun t k => XS.i2c X.here hx rfl (hb hby hd) rfl k) r
theorem g_lcmp (X : St p l e R s m args below meth c n0 T h cells slots) (C : Cx p s m meth c Z bytes maxL ret own nme) {x y : Int64} (hd : decode bytes pc = .ok (.lcmp, 1))  (hp : pc + 1 = pc') (r : Go p e below Rest T (mkF m pc' L (.int (lcmpW x y) :: S))) : Go p e below Rest T (mkF m pc L (.long y :: .long x :: S)) := by
  obtain ⟨_, X, -, -⟩ := X; obtain ⟨hx, hby, -⟩ := C; subst hp
  exact go_by (fun t k => XS.lcmp X.here hx rfl (hb hby hd) rfl k) r
theorem g_dup (X : St p l e R s m args below meth c n0 T h cells slots) (C : Cx p s m meth c Z bytes maxL ret own nme) {x : Value} (hd : decode bytes pc = .ok (.dup, 1)) (hc : x.category = 1) (hp : pc + 1 = pc') (r : Go p e below Rest T (mkF m pc' L (x :: x :: S))) : Go p e below Rest T (mkF m pc L (x :: S)) := by
  obtain ⟨_, X, -, -⟩ := X; obtain ⟨hx, hby, -⟩ := C; subst hp
  exact go_by (fun t k => XS.dup X.here hx rfl (hb hby hd) rfl hc k) r
theorem g_pop (X : St p l e R s m args below meth c n0 T h cells slots) (C : Cx p s m meth c Z bytes maxL ret own nme) {x : Value} (hd : decode bytes pc = .ok (.pop, 1)) (hc : x.category = 1) (hp : pc + 1 = pc') (r : Go p e below Rest T (mkF m pc' L S)) : Go p e below Rest T (mkF m pc L (x :: S)) := by
  obtain ⟨_, X, -, -⟩ := X; obtain ⟨hx, hby, -⟩ := C; subst hp
  exact go_by (fun t k => XS.pop X.here hx rfl (hb hby hd) rfl hc k) r
theorem g_dupx1 (X : St p l e R s m args below meth c n0 T h cells slots) (C : Cx p s m meth c Z bytes maxL ret own nme) {x y : Value} (hd : decode bytes pc = .ok (.dup_x1, 1)) (hc : x.category = 1) (hc' : y.category = 1) (hp : pc + 1 = pc') (r : Go p e below Rest T (mkF m pc' L (x :: y :: x :: S))) : Go p e below Rest T (mkF m pc L (x :: y :: S)) := by
  obtain ⟨_, X, -, -⟩ := X; obtain ⟨hx, hby, -⟩ := C; subst hp
  exact go_by (fun t k => XS.dupX1 X.here hx rfl (hb hby hd) rfl hc hc' k) r
theorem g_dup2 (X : St p l e R s m args below meth c n0 T h cells slots) (C : Cx p s m meth c Z bytes maxL ret own nme) {x y : Value} (hd : decode bytes pc = .ok (.dup2, 1)) (hc : x.category = 1) (hc' : y.category = 1) (hp : pc + 1 = pc') (r : Go p e below Rest T (mkF m pc' L (x :: y :: x :: y :: S))) : Go p e below Rest T (mkF m pc L (x :: y :: S)) := by
  obtain ⟨_, X, -, -⟩ := X; obtain ⟨hx, hby, -⟩ := C; subst hp
  exact go_by (fun t k => XT.dup2 X.here hx rfl (hb hby hd) rfl hc hc' k) r
theorem g_dup2L (X : St p l e R s m args below meth c n0 T h cells slots) (C : Cx p s m meth c Z bytes maxL ret own nme) {x : Int64} (hd : decode bytes pc = .ok (.dup2, 1))  (hp : pc + 1 = pc') (r : Go p e below Rest T (mkF m pc' L (.long x :: .long x :: S))) : Go p e below Rest T (mkF m pc L (.long x :: S)) := by
  obtain ⟨_, X, -, -⟩ := X; obtain ⟨hx, hby, -⟩ := C; subst hp
  exact go_by (fun t k => XT.dup2L X.here hx rfl (hb hby hd) rfl k) r
theorem g_iinc (X : St p l e R s m args below meth c n0 T h cells slots) (C : Cx p s m meth c Z bytes maxL ret own nme) {k : Nat} {i : Int} {v v' : Int32} (hd : decode bytes pc = .ok (.iinc k i, 3)) (hl : L[k]? = some (.val (.int v))) (hv : v' = v + Int32.ofInt i) (hs : storeLocals L k (.int v') = some L') (hp : pc + 3 = pc') (r : Go p e below Rest T (mkF m pc' L' S)) : Go p e below Rest T (mkF m pc L S) := by
  obtain ⟨_, X, -, -⟩ := X; obtain ⟨hx, hby, -⟩ := C; subst hp
  exact go_by (fun t k => XS.iinc X.here hx rfl (hb hby hd) hl (hv ▸ hs) k) r
theorem g_goto (X : St p l e R s m args below meth c n0 T h cells slots) (C : Cx p s m meth c Z bytes maxL ret own nme) {o : Int} (hd : decode bytes pc = .ok (.goto o, 3)) (h0 : 0 ≤ (pc : Int) + o) (hp : ((pc : Int) + o).toNat = pc') (r : Go p e below Rest T (mkF m pc' L S)) : Go p e below Rest T (mkF m pc L S) := by
  obtain ⟨_, X, -, -⟩ := X; obtain ⟨hx, hby, -⟩ := C
  exact go_by (fun t k => XS.goto X.here hx rfl (pc0 := pc) rfl (hb hby hd) h0 hp k) r
theorem g_icmp (X : St p l e R s m args below meth c n0 T h cells slots) (C : Cx p s m meth c Z bytes maxL ret own nme) {cd : ClassFile.Cond} {o : Int} {x y : Int32} {pT pF : Nat} (hd : decode bytes pc = .ok (.if_icmp cd o, 3)) (h0 : 0 ≤ (pc : Int) + o) (hT : ((pc : Int) + o).toNat = pT) (hF : pc + 3 = pF) (r1 : if_icmp.holds cd x y = true → Go p e below Rest T (mkF m pT L S)) (r2 : if_icmp.holds cd x y = false → Go p e below Rest T (mkF m pF L S)) : Go p e below Rest T (mkF m pc L (.int y :: .int x :: S)) := by
  obtain ⟨_, X, -, -⟩ := X; obtain ⟨hx, hby, -⟩ := C
  rcases Bool.eq_false_or_eq_true (if_icmp.holds cd x y) with q | q
  · exact go_by (fun t k => XS.icmpYes X.here hx rfl (pc0 := pc) rfl (hb hby hd) rfl q h0 hT k) (r1 q)
  · subst hF; exact go_by (fun t k => XS.icmpNo X.here hx rfl (hb hby hd) rfl q k) (r2 q)
theorem g_if (X : St p l e R s m args below meth c n0 T h cells slots) (C : Cx p s m meth c Z bytes maxL ret own nme) {cd : ClassFile.Cond} {o : Int} {x : Int32} {pT pF : Nat} (hd : decode bytes pc = .ok (.ifCond cd o, 3)) (h0 : 0 ≤ (pc : Int) + o) (hT : ((pc : Int) + o).toNat = pT) (hF : pc + 3 = pF) (r1 : if_icmp.holds cd x 0 = true → Go p e below Rest T (mkF m pT L S)) (r2 : if_icmp.holds cd x 0 = false → Go p e below Rest T (mkF m pF L S)) : Go p e below Rest T (mkF m pc L (.int x :: S)) := by
  obtain ⟨_, X, -, -⟩ := X; obtain ⟨hx, hby, -⟩ := C
  rcases Bool.eq_false_or_eq_true (if_icmp.holds cd x 0) with q | q
  · exact go_by (fun t k => XS.ifYes X.here hx rfl (pc0 := pc) rfl (hb hby hd) rfl ((if0 _ _).trans q) h0 hT k) (r1 q)
  · subst hF; exact go_by (fun t k => XS.ifNo X.here hx rfl (hb hby hd) rfl ((if0 _ _).trans q) k) (r2 q)
theorem hold_lt {x y : Int32} {a b : Int} (ha : x.toInt = a) (hb' : y.toInt = b) : (if_icmp.holds .lt x y = true → a < b) ∧ (if_icmp.holds .lt x y = false → b ≤ a) := by
  subst ha hb'
  constructor <;> intro q <;> simp [if_icmp.holds, Int32.lt_iff_toInt_lt, Int32.le_iff_toInt_le, ← Int32.toInt_inj] at q <;> omega
theorem g_icmp_lt (X : St p l e R s m args below meth c n0 T h cells slots) (C : Cx p s m meth c Z bytes maxL ret own nme) {o : Int} {x y : Int32} {a b : Int} {pT pF : Nat} (hd : decode bytes pc = .ok (.if_icmp .lt o, 3)) (ha : x.toInt = a) (hb' : y.toInt = b) (h0 : 0 ≤ (pc : Int) + o) (hT : ((pc : Int) + o).toNat = pT) (hF : pc + 3 = pF) (r1 : a < b → Go p e below Rest T (mkF m pT L S)) (r2 : b ≤ a → Go p e below Rest T (mkF m pF L S)) : Go p e below Rest T (mkF m pc L (.int y :: .int x :: S)) :=
  g_icmp X C hd h0 hT hF (fun q => r1 ((hold_lt ha hb').1 q)) (fun q => r2 ((hold_lt ha hb').2 q))
theorem g_if_lt (X : St p l e R s m args below meth c n0 T h cells slots) (C : Cx p s m meth c Z bytes maxL ret own nme) {o : Int} {x : Int32} {a : Int} {pT pF : Nat} (hd : decode bytes pc = .ok (.ifCond .lt o, 3)) (ha : x.toInt = a) (h0 : 0 ≤ (pc : Int) + o) (hT : ((pc : Int) + o).toNat = pT) (hF : pc + 3 = pF) (r1 : a < 0 → Go p e below Rest T (mkF m pT L S)) (r2 : 0 ≤ a → Go p e below Rest T (mkF m pF L S)) : Go p e below Rest T (mkF m pc L (.int x :: S)) :=
  g_if X C hd h0 hT hF (fun q => r1 ((hold_lt ha (by decide)).1 q)) (fun q => r2 ((hold_lt ha (by decide)).2 q))
theorem hlc_lt {x y : Int64} {a b : Int} (ha : x.toInt = a) (hb' : y.toInt = b) : (if_icmp.holds .lt (lcmpW x y) 0 = true → a < b) ∧ (if_icmp.holds .lt (lcmpW x y) 0 = false → b ≤ a) := by
  have h1 := c_lcmp x y; subst ha hb'
  have h3 := hold_lt (x := lcmpW x y) (y := 0) rfl (b := 0) (by decide)
  refine ⟨fun q => ?_, fun q => ?_⟩
  · have := h3.1 q; omega
  · have := h3.2 q; omega
theorem g_lif_lt (X : St p l e R s m args below meth c n0 T h cells slots) (C : Cx p s m meth c Z bytes maxL ret own nme) {o : Int} {x y : Int64} {a b : Int} {pT pF : Nat} (hd : decode bytes pc = .ok (.ifCond .lt o, 3)) (ha : x.toInt = a) (hb' : y.toInt = b) (h0 : 0 ≤ (pc : Int) + o) (hT : ((pc : Int) + o).toNat = pT) (hF : pc + 3 = pF) (r1 : a < b → Go p e below Rest T (mkF m pT L S)) (r2 : b ≤ a → Go p e below Rest T (mkF m pF L S)) : Go p e below Rest T (mkF m pc L (.int (lcmpW x y) :: S)) :=
  g_if X C hd h0 hT hF (fun q => r1 ((hlc_lt ha hb').1 q)) (fun q => r2 ((hlc_lt ha hb').2 q))
theorem hold_ge {x y : Int32} {a b : Int} (ha : x.toInt = a) (hb' : y.toInt = b) : (if_icmp.holds .ge x y = true → b ≤ a) ∧ (if_icmp.holds .ge x y = false → a < b) := by
  subst ha hb'
  constructor <;> intro q <;> simp [if_icmp.holds, Int32.lt_iff_toInt_lt, Int32.le_iff_toInt_le, ← Int32.toInt_inj] at q <;> omega
theorem g_icmp_ge (X : St p l e R s m args below meth c n0 T h cells slots) (C : Cx p s m meth c Z bytes maxL ret own nme) {o : Int} {x y : Int32} {a b : Int} {pT pF : Nat} (hd : decode bytes pc = .ok (.if_icmp .ge o, 3)) (ha : x.toInt = a) (hb' : y.toInt = b) (h0 : 0 ≤ (pc : Int) + o) (hT : ((pc : Int) + o).toNat = pT) (hF : pc + 3 = pF) (r1 : b ≤ a → Go p e below Rest T (mkF m pT L S)) (r2 : a < b → Go p e below Rest T (mkF m pF L S)) : Go p e below Rest T (mkF m pc L (.int y :: .int x :: S)) :=
  g_icmp X C hd h0 hT hF (fun q => r1 ((hold_ge ha hb').1 q)) (fun q => r2 ((hold_ge ha hb').2 q))
theorem g_if_ge (X : St p l e R s m args below meth c n0 T h cells slots) (C : Cx p s m meth c Z bytes maxL ret own nme) {o : Int} {x : Int32} {a : Int} {pT pF : Nat} (hd : decode bytes pc = .ok (.ifCond .ge o, 3)) (ha : x.toInt = a) (h0 : 0 ≤ (pc : Int) + o) (hT : ((pc : Int) + o).toNat = pT) (hF : pc + 3 = pF) (r1 : 0 ≤ a → Go p e below Rest T (mkF m pT L S)) (r2 : a < 0 → Go p e below Rest T (mkF m pF L S)) : Go p e below Rest T (mkF m pc L (.int x :: S)) :=
  g_if X C hd h0 hT hF (fun q => r1 ((hold_ge ha (by decide)).1 q)) (fun q => r2 ((hold_ge ha (by decide)).2 q))
theorem hlc_ge {x y : Int64} {a b : Int} (ha : x.toInt = a) (hb' : y.toInt = b) : (if_icmp.holds .ge (lcmpW x y) 0 = true → b ≤ a) ∧ (if_icmp.holds .ge (lcmpW x y) 0 = false → a < b) := by
  have h1 := c_lcmp x y; subst ha hb'
  have h3 := hold_ge (x := lcmpW x y) (y := 0) rfl (b := 0) (by decide)
  refine ⟨fun q => ?_, fun q => ?_⟩
  · have := h3.1 q; omega
  · have := h3.2 q; omega
theorem g_lif_ge (X : St p l e R s m args below meth c n0 T h cells slots) (C : Cx p s m meth c Z bytes maxL ret own nme) {o : Int} {x y : Int64} {a b : Int} {pT pF : Nat} (hd : decode bytes pc = .ok (.ifCond .ge o, 3)) (ha : x.toInt = a) (hb' : y.toInt = b) (h0 : 0 ≤ (pc : Int) + o) (hT : ((pc : Int) + o).toNat = pT) (hF : pc + 3 = pF) (r1 : b ≤ a → Go p e below Rest T (mkF m pT L S)) (r2 : a < b → Go p e below Rest T (mkF m pF L S)) : Go p e below Rest T (mkF m pc L (.int (lcmpW x y) :: S)) :=
  g_if X C hd h0 hT hF (fun q => r1 ((hlc_ge ha hb').1 q)) (fun q => r2 ((hlc_ge ha hb').2 q))
theorem hold_gt {x y : Int32} {a b : Int} (ha : x.toInt = a) (hb' : y.toInt = b) : (if_icmp.holds .gt x y = true → b < a) ∧ (if_icmp.holds .gt x y = false → a ≤ b) := by
  subst ha hb'
  constructor <;> intro q <;> simp [if_icmp.holds, Int32.lt_iff_toInt_lt, Int32.le_iff_toInt_le, ← Int32.toInt_inj] at q <;> omega
theorem g_icmp_gt (X : St p l e R s m args below meth c n0 T h cells slots) (C : Cx p s m meth c Z bytes maxL ret own nme) {o : Int} {x y : Int32} {a b : Int} {pT pF : Nat} (hd : decode bytes pc = .ok (.if_icmp .gt o, 3)) (ha : x.toInt = a) (hb' : y.toInt = b) (h0 : 0 ≤ (pc : Int) + o) (hT : ((pc : Int) + o).toNat = pT) (hF : pc + 3 = pF) (r1 : b < a → Go p e below Rest T (mkF m pT L S)) (r2 : a ≤ b → Go p e below Rest T (mkF m pF L S)) : Go p e below Rest T (mkF m pc L (.int y :: .int x :: S)) :=
  g_icmp X C hd h0 hT hF (fun q => r1 ((hold_gt ha hb').1 q)) (fun q => r2 ((hold_gt ha hb').2 q))
theorem g_if_gt (X : St p l e R s m args below meth c n0 T h cells slots) (C : Cx p s m meth c Z bytes maxL ret own nme) {o : Int} {x : Int32} {a : Int} {pT pF : Nat} (hd : decode bytes pc = .ok (.ifCond .gt o, 3)) (ha : x.toInt = a) (h0 : 0 ≤ (pc : Int) + o) (hT : ((pc : Int) + o).toNat = pT) (hF : pc + 3 = pF) (r1 : 0 < a → Go p e below Rest T (mkF m pT L S)) (r2 : a ≤ 0 → Go p e below Rest T (mkF m pF L S)) : Go p e below Rest T (mkF m pc L (.int x :: S)) :=
  g_if X C hd h0 hT hF (fun q => r1 ((hold_gt ha (by decide)).1 q)) (fun q => r2 ((hold_gt ha (by decide)).2 q))
theorem hlc_gt {x y : Int64} {a b : Int} (ha : x.toInt = a) (hb' : y.toInt = b) : (if_icmp.holds .gt (lcmpW x y) 0 = true → b < a) ∧ (if_icmp.holds .gt (lcmpW x y) 0 = false → a ≤ b) := by
  have h1 := c_lcmp x y; subst ha hb'
  have h3 := hold_gt (x := lcmpW x y) (y := 0) rfl (b := 0) (by decide)
  refine ⟨fun q => ?_, fun q => ?_⟩
  · have := h3.1 q; omega
  · have := h3.2 q; omega
theorem g_lif_gt (X : St p l e R s m args below meth c n0 T h cells slots) (C : Cx p s m meth c Z bytes maxL ret own nme) {o : Int} {x y : Int64} {a b : Int} {pT pF : Nat} (hd : decode bytes pc = .ok (.ifCond .gt o, 3)) (ha : x.toInt = a) (hb' : y.toInt = b) (h0 : 0 ≤ (pc : Int) + o) (hT : ((pc : Int) + o).toNat = pT) (hF : pc + 3 = pF) (r1 : b < a → Go p e below Rest T (mkF m pT L S)) (r2 : a ≤ b → Go p e below Rest T (mkF m pF L S)) : Go p e below Rest T (mkF m pc L (.int (lcmpW x y) :: S)) :=
  g_if X C hd h0 hT hF (fun q => r1 ((hlc_gt ha hb').1 q)) (fun q => r2 ((hlc_gt ha hb').2 q))
theorem hold_le {x y : Int32} {a b : Int} (ha : x.toInt = a) (hb' : y.toInt = b) : (if_icmp.holds .le x y = true → a ≤ b) ∧ (if_icmp.holds .le x y = false → b < a) := by
  subst ha hb'
  constructor <;> intro q <;> simp [if_icmp.holds, Int32.lt_iff_toInt_lt, Int32.le_iff_toInt_le, ← Int32.toInt_inj] at q <;> omega
theorem g_icmp_le (X : St p l e R s m args below meth c n0 T h cells slots) (C : Cx p s m meth c Z bytes maxL ret own nme) {o : Int} {x y : Int32} {a b : Int} {pT pF : Nat} (hd : decode bytes pc = .ok (.if_icmp .le o, 3)) (ha : x.toInt = a) (hb' : y.toInt = b) (h0 : 0 ≤ (pc : Int) + o) (hT : ((pc : Int) + o).toNat = pT) (hF : pc + 3 = pF) (r1 : a ≤ b → Go p e below Rest T (mkF m pT L S)) (r2 : b < a → Go p e below Rest T (mkF m pF L S)) : Go p e below Rest T (mkF m pc L (.int y :: .int x :: S)) :=
  g_icmp X C hd h0 hT hF (fun q => r1 ((hold_le ha hb').1 q)) (fun q => r2 ((hold_le ha hb').2 q))
theorem g_if_le (X : St p l e R s m args below meth c n0 T h cells slots) (C : Cx p s m meth c Z bytes maxL ret own nme) {o : Int} {x : Int32} {a : Int} {pT pF : Nat} (hd : decode bytes pc = .ok (.ifCond .le o, 3)) (ha : x.toInt = a) (h0 : 0 ≤ (pc : Int) + o) (hT : ((pc : Int) + o).toNat = pT) (hF : pc + 3 = pF) (r1 : a ≤ 0 → Go p e below Rest T (mkF m pT L S)) (r2 : 0 < a → Go p e below Rest T (mkF m pF L S)) : Go p e below Rest T (mkF m pc L (.int x :: S)) :=
  g_if X C hd h0 hT hF (fun q => r1 ((hold_le ha (by decide)).1 q)) (fun q => r2 ((hold_le ha (by decide)).2 q))
theorem hlc_le {x y : Int64} {a b : Int} (ha : x.toInt = a) (hb' : y.toInt = b) : (if_icmp.holds .le (lcmpW x y) 0 = true → a ≤ b) ∧ (if_icmp.holds .le (lcmpW x y) 0 = false → b < a) := by
  have h1 := c_lcmp x y; subst ha hb'
  have h3 := hold_le (x := lcmpW x y) (y := 0) rfl (b := 0) (by decide)
  refine ⟨fun q => ?_, fun q => ?_⟩
  · have := h3.1 q; omega
  · have := h3.2 q; omega
theorem g_lif_le (X : St p l e R s m args below meth c n0 T h cells slots) (C : Cx p s m meth c Z bytes maxL ret own nme) {o : Int} {x y : Int64} {a b : Int} {pT pF : Nat} (hd : decode bytes pc = .ok (.ifCond .le o, 3)) (ha : x.toInt = a) (hb' : y.toInt = b) (h0 : 0 ≤ (pc : Int) + o) (hT : ((pc : Int) + o).toNat = pT) (hF : pc + 3 = pF) (r1 : a ≤ b → Go p e below Rest T (mkF m pT L S)) (r2 : b < a → Go p e below Rest T (mkF m pF L S)) : Go p e below Rest T (mkF m pc L (.int (lcmpW x y) :: S)) :=
  g_if X C hd h0 hT hF (fun q => r1 ((hlc_le ha hb').1 q)) (fun q => r2 ((hlc_le ha hb').2 q))
theorem hold_eq {x y : Int32} {a b : Int} (ha : x.toInt = a) (hb' : y.toInt = b) : (if_icmp.holds .eq x y = true → a = b) ∧ (if_icmp.holds .eq x y = false → a ≠ b) := by
  subst ha hb'
  constructor <;> intro q <;> simp [if_icmp.holds, Int32.lt_iff_toInt_lt, Int32.le_iff_toInt_le, ← Int32.toInt_inj] at q <;> omega
theorem g_icmp_eq (X : St p l e R s m args below meth c n0 T h cells slots) (C : Cx p s m meth c Z bytes maxL ret own nme) {o : Int} {x y : Int32} {a b : Int} {pT pF : Nat} (hd : decode bytes pc = .ok (.if_icmp .eq o, 3)) (ha : x.toInt = a) (hb' : y.toInt = b) (h0 : 0 ≤ (pc : Int) + o) (hT : ((pc : Int) + o).toNat = pT) (hF : pc + 3 = pF) (r1 : a = b → Go p e below Rest T (mkF m pT L S)) (r2 : a ≠ b → Go p e below Rest T (mkF m pF L S)) : Go p e below Rest T (mkF m pc L (.int y :: .int x :: S)) :=
  g_icmp X C hd h0 hT hF (fun q => r1 ((hold_eq ha hb').1 q)) (fun q => r2 ((hold_eq ha hb').2 q))
theorem g_if_eq (X : St p l e R s m args below meth c n0 T h cells slots) (C : Cx p s m meth c Z bytes maxL ret own nme) {o : Int} {x : Int32} {a : Int} {pT pF : Nat} (hd : decode bytes pc = .ok (.ifCond .eq o, 3)) (ha : x.toInt = a) (h0 : 0 ≤ (pc : Int) + o) (hT : ((pc : Int) + o).toNat = pT) (hF : pc + 3 = pF) (r1 : a = 0 → Go p e below Rest T (mkF m pT L S)) (r2 : a ≠ 0 → Go p e below Rest T (mkF m pF L S)) : Go p e below Rest T (mkF m pc L (.int x :: S)) :=
  g_if X C hd h0 hT hF (fun q => r1 ((hold_eq ha (by decide)).1 q)) (fun q => r2 ((hold_eq ha (by decide)).2 q))
theorem hlc_eq {x y : Int64} {a b : Int} (ha : x.toInt = a) (hb' : y.toInt = b) : (if_icmp.holds .eq (lcmpW x y) 0 = true → a = b) ∧ (if_icmp.holds .eq (lcmpW x y) 0 = false → a ≠ b) := by
  have h1 := c_lcmp x y; subst ha hb'
  have h3 := hold_eq (x := lcmpW x y) (y := 0) rfl (b := 0) (by decide)
  refine ⟨fun q => ?_, fun q => ?_⟩
  · have := h3.1 q; omega
  · have := h3.2 q; omega
theorem g_lif_eq (X : St p l e R s m args below meth c n0 T h cells slots) (C : Cx p s m meth c Z bytes maxL ret own nme) {o : Int} {x y : Int64} {a b : Int} {pT pF : Nat} (hd : decode bytes pc = .ok (.ifCond .eq o, 3)) (ha : x.toInt = a) (hb' : y.toInt = b) (h0 : 0 ≤ (pc : Int) + o) (hT : ((pc : Int) + o).toNat = pT) (hF : pc + 3 = pF) (r1 : a = b → Go p e below Rest T (mkF m pT L S)) (r2 : a ≠ b → Go p e below Rest T (mkF m pF L S)) : Go p e below Rest T (mkF m pc L (.int (lcmpW x y) :: S)) :=
  g_if X C hd h0 hT hF (fun q => r1 ((hlc_eq ha hb').1 q)) (fun q => r2 ((hlc_eq ha hb').2 q))
theorem hold_ne {x y : Int32} {a b : Int} (ha : x.toInt = a) (hb' : y.toInt = b) : (if_icmp.holds .ne x y = true → a ≠ b) ∧ (if_icmp.holds .ne x y = false → a = b) := by
  subst ha hb'
  constructor <;> intro q <;> simp [if_icmp.holds, Int32.lt_iff_toInt_lt, Int32.le_iff_toInt_le, ← Int32.toInt_inj] at q <;> omega
theorem g_icmp_ne (X : St p l e R s m args below meth c n0 T h cells slots) (C : Cx p s m meth c Z bytes maxL ret own nme) {o : Int} {x y : Int32} {a b : Int} {pT pF : Nat} (hd : decode bytes pc = .ok (.if_icmp .ne o, 3)) (ha : x.toInt = a) (hb' : y.toInt = b) (h0 : 0 ≤ (pc : Int) + o) (hT : ((pc : Int) + o).toNat = pT) (hF : pc + 3 = pF) (r1 : a ≠ b → Go p e below Rest T (mkF m pT L S)) (r2 : a = b → Go p e below Rest T (mkF m pF L S)) : Go p e below Rest T (mkF m pc L (.int y :: .int x :: S)) :=
  g_icmp X C hd h0 hT hF (fun q => r1 ((hold_ne ha hb').1 q)) (fun q => r2 ((hold_ne ha hb').2 q))
theorem g_if_ne (X : St p l e R s m args below meth c n0 T h cells slots) (C : Cx p s m meth c Z bytes maxL ret own nme) {o : Int} {x : Int32} {a : Int} {pT pF : Nat} (hd : decode bytes pc = .ok (.ifCond .ne o, 3)) (ha : x.toInt = a) (h0 : 0 ≤ (pc : Int) + o) (hT : ((pc : Int) + o).toNat = pT) (hF : pc + 3 = pF) (r1 : a ≠ 0 → Go p e below Rest T (mkF m pT L S)) (r2 : a = 0 → Go p e below Rest T (mkF m pF L S)) : Go p e below Rest T (mkF m pc L (.int x :: S)) :=
  g_if X C hd h0 hT hF (fun q => r1 ((hold_ne ha (by decide)).1 q)) (fun q => r2 ((hold_ne ha (by decide)).2 q))
theorem hlc_ne {x y : Int64} {a b : Int} (ha : x.toInt = a) (hb' : y.toInt = b) : (if_icmp.holds .ne (lcmpW x y) 0 = true → a ≠ b) ∧ (if_icmp.holds .ne (lcmpW x y) 0 = false → a = b) := by
  have h1 := c_lcmp x y; subst ha hb'
  have h3 := hold_ne (x := lcmpW x y) (y := 0) rfl (b := 0) (by decide)
  refine ⟨fun q => ?_, fun q => ?_⟩
  · have := h3.1 q; omega
  · have := h3.2 q; omega
theorem g_lif_ne (X : St p l e R s m args below meth c n0 T h cells slots) (C : Cx p s m meth c Z bytes maxL ret own nme) {o : Int} {x y : Int64} {a b : Int} {pT pF : Nat} (hd : decode bytes pc = .ok (.ifCond .ne o, 3)) (ha : x.toInt = a) (hb' : y.toInt = b) (h0 : 0 ≤ (pc : Int) + o) (hT : ((pc : Int) + o).toNat = pT) (hF : pc + 3 = pF) (r1 : a ≠ b → Go p e below Rest T (mkF m pT L S)) (r2 : a = b → Go p e below Rest T (mkF m pF L S)) : Go p e below Rest T (mkF m pc L (.int (lcmpW x y) :: S)) :=
  g_if X C hd h0 hT hF (fun q => r1 ((hlc_ne ha hb').1 q)) (fun q => r2 ((hlc_ne ha hb').2 q))
theorem g_nullY (X : St p l e R s m args below meth c n0 T h cells slots) (C : Cx p s m meth c Z bytes maxL ret own nme) {o : Int} {pT : Nat} (hd : decode bytes pc = .ok (.ifnull o, 3)) (h0 : 0 ≤ (pc : Int) + o) (hT : ((pc : Int) + o).toNat = pT) (r : Go p e below Rest T (mkF m pT L S)) : Go p e below Rest T (mkF m pc L (.null :: S)) := by
  obtain ⟨_, X, -, -⟩ := X; obtain ⟨hx, hby, -⟩ := C
  exact go_by (fun t k => XS.ifnullYes X.here hx rfl (pc0 := pc) rfl (hb hby hd) rfl h0 hT k) r
theorem g_nullN (X : St p l e R s m args below meth c n0 T h cells slots) (C : Cx p s m meth c Z bytes maxL ret own nme) {o : Int} {b : Addr} {pF : Nat} (hd : decode bytes pc = .ok (.ifnull o, 3)) (hF : pc + 3 = pF) (r : Go p e below Rest T (mkF m pF L S)) : Go p e below Rest T (mkF m pc L (.ref b :: S)) := by
  obtain ⟨_, X, -, -⟩ := X; obtain ⟨hx, hby, -⟩ := C; subst hF
  exact go_by (fun t k => XS.ifnullNo X.here hx rfl (hb hby hd) rfl k) r
theorem g_nonnullY (X : St p l e R s m args below meth c n0 T h cells slots) (C : Cx p s m meth c Z bytes maxL ret own nme) {o : Int} {b : Addr} {pT : Nat} (hd : decode bytes pc = .ok (.ifnonnull o, 3)) (h0 : 0 ≤ (pc : Int) + o) (hT : ((pc : Int) + o).toNat = pT) (r : Go p e below Rest T (mkF m pT L S)) : Go p e below Rest T (mkF m pc L (.ref b :: S)) := by
  obtain ⟨_, X, -, -⟩ := X; obtain ⟨hx, hby, -⟩ := C
  exact go_by (fun t k => XS.ifnonnullYes X.here hx rfl (pc0 := pc) rfl (hb hby hd) rfl h0 hT k) r
theorem g_nonnullN (X : St p l e R s m args below meth c n0 T h cells slots) (C : Cx p s m meth c Z bytes maxL ret own nme) {o : Int} {pF : Nat} (hd : decode bytes pc = .ok (.ifnonnull o, 3)) (hF : pc + 3 = pF) (r : Go p e below Rest T (mkF m pF L S)) : Go p e below Rest T (mkF m pc L (.null :: S)) := by
  obtain ⟨_, X, -, -⟩ := X; obtain ⟨hx, hby, -⟩ := C; subst hF
  exact go_by (fun t k => XS.ifnonnullNo X.here hx rfl (hb hby hd) rfl k) r
theorem g_irem (X : St p l e R s m args below meth c n0 T h cells slots) (C : Cx p s m meth c Z bytes maxL ret own nme) {x y : Int32} (hd : decode bytes pc = .ok (.irem, 1)) (hy : y ≠ 0) (hp : pc + 1 = pc') (r : Go p e below Rest T (mkF m pc' L (.int (x % y) :: S))) : Go p e below Rest T (mkF m pc L (.int y :: .int x :: S)) := by
  obtain ⟨_, X, -, -⟩ := X; obtain ⟨hx, hby, -⟩ := C; subst hp
  exact go_by (fun t k => iremM X hx rfl (hb hby hd) rfl hy k) r
theorem g_lrem (X : St p l e R s m args below meth c n0 T h cells slots) (C : Cx p s m meth c Z bytes maxL ret own nme) {x y : Int64} (hd : decode bytes pc = .ok (.lrem, 1)) (hy : y ≠ 0) (hp : pc + 1 = pc') (r : Go p e below Rest T (mkF m pc' L (.long (x % y) :: S))) : Go p e below Rest T (mkF m pc L (.long y :: .long x :: S)) := by
  obtain ⟨_, X, -, -⟩ := X; obtain ⟨hx, hby, -⟩ := C; subst hp
  rw [← lrem_mod] at r
  exact go_by (fun t k => XS.lrem X.here hx rfl (hb hby hd) rfl hy k) r
theorem g_ldcI (X : St p l e R s m args below meth c n0 T h cells slots) (C : Cx p s m meth c Z bytes maxL ret own nme) {index : Nat} {v : Int32} (w : (Jvm.Cond.constant own index v).before a0 Z = true) (hd : decode bytes pc = .ok (.ldc index, 2)) (hp : pc + 2 = pc') (r : Go p e below Rest T (mkF m pc' L (.int v :: S))) : Go p e below Rest T (mkF m pc L S) := by
  obtain ⟨_, X, -, -⟩ := X; obtain ⟨hx, hby, -, -, -, hown, -, hZ⟩ := C; subst hp
  exact go_by (X.ldcInt hx hown (mvT hZ w) (g := mkF m pc L S) rfl (hb hby hd)) r
theorem g_ldcJ (X : St p l e R s m args below meth c n0 T h cells slots) (C : Cx p s m meth c Z bytes maxL ret own nme) {index : Nat} {v : Int64} (w : (Jvm.Cond.constantLong own index v).before a0 Z = true) (hd : decode bytes pc = .ok (.ldc2_w index, 3)) (hp : pc + 3 = pc') (r : Go p e below Rest T (mkF m pc' L (.long v :: S))) : Go p e below Rest T (mkF m pc L S) := by
  obtain ⟨_, X, -, -⟩ := X; obtain ⟨hx, hby, -, -, -, hown, -, hZ⟩ := C; subst hp
  exact go_by (X.ldc2Long hx hown (mvT hZ w) (g := mkF m pc L S) rfl (hb hby hd)) r
/-- an array: its kind, its length, what each place holds -/
def Ar (Z : State) (h : Heap) (a : Addr) (ty : FieldType) (n : Nat) (fn : Nat → Value) : Prop := ∃ cl : Cell, Arr Z h a cl ty ∧ cl.slots.size = n ∧ ∀ j, j < n → cl.slots[j]? = some (fn j)
theorem Ar.lt {a : Addr} {ty : FieldType} {n : Nat} {fn : Nat → Value} (A : Ar Z h a ty n fn) : a < h.size := by obtain ⟨_, A, -⟩ := A; exact A.lt
theorem Ar.keep {a : Addr} {ty : FieldType} {n : Nat} {fn : Nat → Value} {ws : List Addr} (A : Ar Z h a ty n fn) (K : Keep h h' ws) (q : a ∉ ws) : Ar Z h' a ty n fn := by
  obtain ⟨cl, A, r⟩ := A; exact ⟨cl, ⟨K.2.1 a cl A.1 q, A.2⟩, r⟩
theorem Ar.congr {a : Addr} {ty : FieldType} {n : Nat} {fn gn : Nat → Value} (A : Ar Z h a ty n fn) (q : ∀ j, j < n → fn j = gn j) : Ar Z h a ty n gn := by
  obtain ⟨cl, A, r1, r2⟩ := A; exact ⟨cl, A, r1, fun j hj => by rw [r2 j hj, q j hj]⟩
theorem Ar.set {a : Addr} {ty : FieldType} {n i : Nat} {fn : Nat → Value} {v : Value} (A : Ar Z h a ty n fn) (hi : i < n) (W : Wr h h' a i v) : Ar Z h' a ty n (fun k => if k = i then v else fn k) := by
  obtain ⟨cl, A, r1, r2⟩ := A
  refine ⟨_, A.same W, by rw [sz_set]; exact r1, fun j hj => ?_⟩
  by_cases q : j = i
  · subst q; simp [Cell.setSlot, Array.getElem?_setIfInBounds, r1, hi]
  · have := r2 j hj; simp [Cell.setSlot, Array.getElem?_setIfInBounds, q, Ne.symm q, this]
theorem keepE (E : Ext h h') : Keep h h' [] := (Keep.refl _ _).ext E
theorem keepE' {ws : List Addr} (E : Ext h h') : Keep h h' ws := (Keep.refl _ _).ext E
theorem nneg {z : Int32} {n : Nat} (hz : z.toInt = n) : ¬ z < 0 := by
  rw [Int32.lt_iff_toInt_lt, hz]; have : (0 : Int32).toInt = 0 := by decide
  omega
theorem clamp_of {j : Int32} {i : Nat} (hi : j.toInt = i) : j.toNatClampNeg = i := by
  rw [Int32.toNatClampNeg, hi]; simp
theorem inb {j : Int32} {i n : Nat} {cl : Cell} (hi : j.toInt = i) (hlt : i < n) (hs : cl.slots.size = n) : ¬ (j < 0 ∨ cl.slots.size ≤ j.toNatClampNeg) := by
  rw [clamp_of hi, hs]
  rintro (q | q)
  · rw [Int32.lt_iff_toInt_lt, hi] at q; have : (0 : Int32).toInt = 0 := by decide
    omega
  · omega
def Ob (Z : State) (h : Heap) (a : Addr) (K : String) (NS : List (String × String)) (vs : List Value) : Prop := Exa Z h a K ∧ ∀ (i : Nat) (n d : String) (v : Value), NS[i]? = some (n, d) → vs[i]? = some v → Fld Z h a K n d v
def CF (Z : State) (a0 : Array Value) (K : String) (NS : List (String × String)) (k : Nat) : Prop := (NS.map (·.1)).Nodup ∧ (∀ x ∈ NS, Laid Z a0 K K x.1 x.2 ∧ (parseFieldDescriptor x.2).isSome = true) ∧ (Jvm.Cond.instantiable K k).before a0 Z = true
theorem Ob.lt {a : Addr} {K : String} {NS : List (String × String)} {vs : List Value} (O : Ob Z h a K NS vs) : a < h.size := O.1.lt
theorem Ob.keep {a : Addr} {K : String} {NS : List (String × String)} {vs : List Value} {ws : List Addr} (O : Ob Z h a K NS vs) (K' : Keep h h' ws) (q : a ∉ ws) : Ob Z h' a K NS vs := ⟨O.1.keep K', fun i n d v h1 h2 => (O.2 i n d v h1 h2).keep K' q⟩
theorem Ob.put {a : Addr} {K : String} {NS : List (String × String)} {vs vs' : List Value} {k i : Nat} {n d : String} {v old : Value} (O : Ob Z h a K NS vs) (F : CF Z a0 K NS k) (hN : NS[i]? = some (n, d)) (ho : vs[i]? = some old) (hvs : vs.set i v = vs') (W : Wr h h' a (Jvm.RoadKit.slotOf Z K n d) v) : Ob Z h' a K NS vs' := by
  subst hvs
  refine ⟨O.1.wr W, fun j n' d' w h1 h2 => ?_⟩
  by_cases q : j = i
  · subst q
    rw [hN] at h1; obtain ⟨rfl, rfl⟩ := Prod.mk.inj (Option.some.inj h1)
    rw [List.getElem?_set_self (by exact (List.getElem?_eq_some_iff.mp ho).1)] at h2
    obtain rfl := Option.some.inj h2
    exact (O.2 _ _ _ _ hN ho).same W
  · rw [List.getElem?_set_ne (Ne.symm q)] at h2
    have hne : n' ≠ n := by
      intro e
      have h3 : (NS.map (·.1))[j]? = some n' := by rw [List.getElem?_map, h1]; rfl
      have h4 : (NS.map (·.1))[i]? = some n := by rw [List.getElem?_map, hN]; rfl
      obtain ⟨l1, e1⟩ := List.getElem?_eq_some_iff.mp h3
      obtain ⟨l2, e2⟩ := List.getElem?_eq_some_iff.mp h4
      rcases Nat.lt_or_gt_of_ne q with u | u
      · exact (List.pairwise_iff_getElem.mp F.1) j i l1 l2 u (by rw [e1, e2, e])
      · exact (List.pairwise_iff_getElem.mp F.1) i j l2 l1 u (by rw [e1, e2, e])
    obtain ⟨p1, p2⟩ := F.2.1 _ (List.mem_of_getElem? h1)
    obtain ⟨p3, p4⟩ := F.2.1 _ (List.mem_of_getElem? hN)
    obtain ⟨t1, q1⟩ := Option.isSome_iff_exists.mp p2
    obtain ⟨t2, q2⟩ := Option.isSome_iff_exists.mp p4
    exact (O.2 _ _ _ _ h1 h2).other W (Or.inr (slot_ne p1 p3 hne q1 q2))
theorem g_getO (X : St p l e R s m args below meth c n0 T h cells slots) (C : Cx p s m meth c Z bytes maxL ret own nme) {a : Addr} {K n d host : String} {NS : List (String × String)} {vs : List Value} {i index : Nat} {v : Value} (O : Ob Z h a K NS vs) (hN : NS[i]? = some (n, d)) (hv : vs[i]? = some v) (w : (Jvm.Cond.fieldLink own index K n d).before a0 Z = true ∨ (Jvm.Cond.fieldLinkNest own index K n d host).before a0 Z = true) (hd : decode bytes pc = .ok (.getfield index, 3)) (hp : pc + 3 = pc') (r : ∀ T', St p l e R s m args below meth c n0 T' h cells slots → Go p e below Rest T' (mkF m pc' L (v :: S))) : Go p e below Rest T (mkF m pc L (.ref a :: S)) := by
  obtain ⟨locs, X, N, eT⟩ := X; obtain ⟨hx, hby, -, -, -, hown, -, hZ⟩ := C; subst hp
  obtain ⟨T', X', e', st⟩ := getF X hx hZ hown w Via.refl eT (O.2 _ _ _ _ hN hv) (g := mkF m pc L (.ref a :: S)) rfl rfl (hb hby hd)
  exact go_by st (r T' ⟨locs, X', N, e'⟩)
theorem g_putO (X : St p l e R s m args below meth c n0 T h cells slots) (C : Cx p s m meth c Z bytes maxL ret own nme) {a : Addr} {K n d host : String} {NS : List (String × String)} {vs vs' : List Value} {i k index : Nat} {v old : Value} {ty : FieldType} (O : Ob Z h a K NS vs) (F : CF Z a0 K NS k) (hN : NS[i]? = some (n, d)) (ho : vs[i]? = some old) (hvs : vs.set i v = vs') (ga : n0 ≤ a) (w : (Jvm.Cond.fieldLink own index K n d).before a0 Z = true ∨ (Jvm.Cond.fieldLinkNest own index K n d host).before a0 Z = true) (Ly : (Jvm.Cond.lays K K n d).before a0 Z = true ∨ ((Jvm.Cond.laysFinal K K n d).before a0 Z = true ∧ own = K ∧ nme = "<init>")) (hty : parseFieldDescriptor d = some ty) (hn : narrow ty v = v) (hf : fits ty v = true) (hd : decode bytes pc = .ok (.putfield index, 3)) (hp : pc + 3 = pc') (r : ∀ T' h', St p l e R s m args below meth c n0 T' h' cells slots → Ob Z h' a K NS vs' → Keep h h' [a] → Go p e below Rest T' (mkF m pc' L S)) : Go p e below Rest T (mkF m pc L (v :: .ref a :: S)) := by
  obtain ⟨locs, X, N, eT⟩ := X; obtain ⟨hx, hby, -, -, -, hown, hnm, hZ⟩ := C; subst hp
  obtain ⟨T', h', X', e', W, st⟩ := putF X hx hZ hown w Via.refl eT (O.2 _ _ _ _ hN ho) O.1 (Ly.imp id fun q => ⟨q.1, q.2.1, by rw [hnm]; exact q.2.2⟩) F.2.2 hty hn hf (g := mkF m pc L (v :: .ref a :: S)) rfl rfl (hb hby hd)
  exact go_by st (r T' h' ⟨_, X', Fr.snoc X' N ga, e'⟩ (O.put F hN ho hvs W) (Keep.of_wr W))
theorem g_putN (X : St p l e R s m args below meth c n0 T h cells slots) (C : Cx p s m meth c Z bytes maxL ret own nme) {a : Addr} {K n d : String} {NS : List (String × String)} {vs vs' : List Value} {i k index : Nat} {v v' old : Value} {ty : FieldType} (O : Ob Z h a K NS vs) (F : CF Z a0 K NS k) (hN : NS[i]? = some (n, d)) (ho : vs[i]? = some old) (hvs : vs.set i v' = vs') (ga : n0 ≤ a) (w : (Jvm.Cond.fieldLink own index K n d).before a0 Z = true) (Ly : (Jvm.Cond.lays K K n d).before a0 Z = true ∨ ((Jvm.Cond.laysFinal K K n d).before a0 Z = true ∧ own = K ∧ nme = "<init>")) (hty : parseFieldDescriptor d = some ty) (hn : narrow ty v = v') (hf : fits ty v' = true) (hd : decode bytes pc = .ok (.putfield index, 3)) (hp : pc + 3 = pc') (r : ∀ T' h', St p l e R s m args below meth c n0 T' h' cells slots → Ob Z h' a K NS vs' → Keep h h' [a] → Go p e below Rest T' (mkF m pc' L S)) : Go p e below Rest T (mkF m pc L (v :: .ref a :: S)) := by
  obtain ⟨locs, X, N, eT⟩ := X; obtain ⟨hx, hby, -, -, -, hown, hnm, hZ⟩ := C; subst hp
  obtain ⟨T', h', X', e', W, st⟩ := putFN X hx hZ hown w Via.refl eT (O.2 _ _ _ _ hN ho) O.1 (Ly.imp id fun q => ⟨q.1, q.2.1, by rw [hnm]; exact q.2.2⟩) F.2.2 hty hn hf (g := mkF m pc L (v :: .ref a :: S)) rfl rfl (hb hby hd)
  exact go_by st (r T' h' ⟨_, X', Fr.snoc X' N ga, e'⟩ (O.put F hN ho hvs W) (Keep.of_wr W))
def dflt (d : String) : Value := match parseFieldDescriptor d with | some ty => defaultValue ty | none => .null
theorem g_newO (X : St p l e R s m args below meth c n0 T h cells slots) (C : Cx p s m meth c Z bytes maxL ret own nme) {K : String} {NS : List (String × String)} {vs : List Value} {index k : Nat} (w : (Jvm.Cond.classLink own index K).before a0 Z = true) (F : CF Z a0 K NS k) (wz : (Jvm.Cond.initialized K).before a0 Z = true) (hvs : NS.map (fun x => dflt x.2) = vs) (hc : cells + 1 ≤ R.cells) (hl : slots + k ≤ R.slots) (hd : decode bytes pc = .ok (.new index, 3)) (hp : pc + 3 = pc') (r : ∀ T' h' b, b = h.size → St p l e R s m args below meth c n0 T' h' (cells + 1) (slots + k) → Ob Z h' b K NS vs → Keep h h' [] → Go p e below Rest T' (mkF m pc' L (.ref b :: S))) : Go p e below Rest T (mkF m pc L S) := by
  obtain ⟨locs, X, N, eT⟩ := X; obtain ⟨hx, hby, -, -, -, hown, hnm, hZ⟩ := C; subst hp hvs
  obtain ⟨T', h', X', e', E, A, D, -, st⟩ := newO X hx hZ hown w F.2.2 wz eT (g := mkF m pc L S) rfl (hb hby hd) hc hl
  refine go_by st (r T' h' _ rfl ⟨_, X', N, e'⟩ ⟨A, fun i n d v h1 h2 => ?_⟩ (keepE E))
  obtain ⟨p1, p2⟩ := F.2.1 _ (List.mem_of_getElem? h1)
  obtain ⟨t1, q1⟩ := Option.isSome_iff_exists.mp p2
  rw [List.getElem?_map, h1] at h2
  obtain rfl := Option.some.inj h2
  have := D p1 q1
  simp only [dflt, q1]
  exact this
theorem g_newarr (X : St p l e R s m args below meth c n0 T h cells slots) (C : Cx p s m meth c Z bytes maxL ret own nme) {aty : ArrayType} {z : Int32} {n cap : Nat} (w : (Jvm.Cond.arrayClass (newarray.typeOf aty)).before a0 Z = true) (hz : z.toInt = n) (hcap : n ≤ cap) (hcb : cap * 8 ≤ 536870912) (hc : cells + 1 ≤ R.cells) (hl : slots + cap ≤ R.slots) (hd : decode bytes pc = .ok (.newarray aty, 2)) (hp : pc + 2 = pc') (r : ∀ T' h' b, b = h.size → St p l e R s m args below meth c n0 T' h' (cells + 1) (slots + cap) → Ar Z h' b (newarray.typeOf aty) n (fun _ => defaultValue (newarray.typeOf aty)) → Keep h h' [] → Go p e below Rest T' (mkF m pc' L (.ref b :: S))) : Go p e below Rest T (mkF m pc L (.int z :: S)) := by
  obtain ⟨locs, X, N, eT⟩ := X; obtain ⟨hx, hby, -, -, -, hown, hnm, hZ⟩ := C; subst hp
  have hneg : ¬ z < 0 := nneg hz
  obtain ⟨T', h', cA, X', e', E, A, st⟩ := newP X hx hZ w eT (g := mkF m pc L (.int z :: S)) rfl (hb hby hd) rfl hneg (cap := cap) (by rw [clamp_of hz]; exact hcap) hcb hc hl
  refine go_by st (r T' h' _ rfl ⟨_, X', N, e'⟩ ⟨_, A, by rw [sz_new, clamp_of hz], fun j hj => ?_⟩ (keepE E))
  simp [newA, clamp_of hz, hj]
def ArR (Z : State) (h : Heap) (a : Addr) (K : String) (n : Nat) (fn : Nat → Value) : Prop := ∃ cl : Cell, Arr Z h a cl (.object K) ∧ Ovr Z cl.cls K ∧ cl.slots.size = n ∧ ∀ j, j < n → cl.slots[j]? = some (fn j)
theorem ArR.lt {a : Addr} {K : String} {n : Nat} {fn : Nat → Value} (A : ArR Z h a K n fn) : a < h.size := by obtain ⟨_, A, -⟩ := A; exact A.lt
theorem ArR.keep {a : Addr} {K : String} {n : Nat} {fn : Nat → Value} {ws : List Addr} (A : ArR Z h a K n fn) (K' : Keep h h' ws) (q : a ∉ ws) : ArR Z h' a K n fn := by
  obtain ⟨cl, A, r⟩ := A; exact ⟨cl, ⟨K'.2.1 a cl A.1 q, A.2⟩, r⟩
theorem g_newR (X : St p l e R s m args below meth c n0 T h cells slots) (C : Cx p s m meth c Z bytes maxL ret own nme) {K : String} {index : Nat} {z : Int32} {n cap : Nat} (w1 : (Jvm.Cond.classLink own index K).before a0 Z = true) (w2 : (Jvm.Cond.arrayOver (.object K)).before a0 Z = true) (hz : z.toInt = n) (hcap : n ≤ cap) (hcb : cap * 8 ≤ 536870912) (hc : cells + 1 ≤ R.cells) (hl : slots + cap ≤ R.slots) (hd : decode bytes pc = .ok (.anewarray index, 3)) (hp : pc + 3 = pc') (r : ∀ T' h' b, b = h.size → St p l e R s m args below meth c n0 T' h' (cells + 1) (slots + cap) → ArR Z h' b K n (fun _ => .null) → Keep h h' [] → Go p e below Rest T' (mkF m pc' L (.ref b :: S))) : Go p e below Rest T (mkF m pc L (.int z :: S)) := by
  obtain ⟨locs, X, N, eT⟩ := X; obtain ⟨hx, hby, -, -, -, hown, hnm, hZ⟩ := C; subst hp
  have hneg : ¬ z < 0 := nneg hz
  obtain ⟨T', h', cA, X', e', E, A, Ov, st⟩ := newR X hx hZ hown w1 w2 eT (g := mkF m pc L (.int z :: S)) rfl (hb hby hd) rfl hneg (cap := cap) (by rw [clamp_of hz]; exact hcap) hcb hc hl
  refine go_by st (r T' h' _ rfl ⟨_, X', N, e'⟩ ⟨_, A, Ov, by rw [sz_new, clamp_of hz], fun j hj => ?_⟩ (keepE E))
  simp [newA, clamp_of hz, hj, defaultValue]
theorem g_arrlen (X : St p l e R s m args below meth c n0 T h cells slots) (C : Cx p s m meth c Z bytes maxL ret own nme) {a : Addr} {ty : FieldType} {n : Nat} {fn : Nat → Value} {z : Int32} (A : Ar Z h a ty n fn) (hz : n.toInt32 = z) (hd : decode bytes pc = .ok (.arraylength, 1)) (hp : pc + 1 = pc') (r : Go p e below Rest T (mkF m pc' L (.int z :: S))) : Go p e below Rest T (mkF m pc L (.ref a :: S)) := by
  obtain ⟨locs, X, N, eT⟩ := X; obtain ⟨hx, hby, -, -, -, hown, hnm, hZ⟩ := C; subst hp hz
  obtain ⟨cl, A, r1, r2⟩ := A; subst r1
  exact go_by (fun t k => X.arraylength hx (by rw [eT]; exact A.1) (State.isArrayOf_alike hZ.alike A.2.1) (g := mkF m pc L (.ref a :: S)) rfl rfl (hb hby hd) t k) r
theorem g_iaload (X : St p l e R s m args below meth c n0 T h cells slots) (C : Cx p s m meth c Z bytes maxL ret own nme) {a : Addr} {n i : Nat} {fn : Nat → Value} {j : Int32} {v : Value} (A : Ar Z h a .int n fn) (hi : j.toInt = i) (hlt : i < n) (hv : fn i = v) (hd : decode bytes pc = .ok (.iaload, 1)) (hp : pc + 1 = pc') (r : Go p e below Rest T (mkF m pc' L (v :: S))) : Go p e below Rest T (mkF m pc L (.int j :: .ref a :: S)) := by
  obtain ⟨locs, X, N, eT⟩ := X; obtain ⟨hx, hby, -, -, -, hown, hnm, hZ⟩ := C; subst hp hv
  obtain ⟨cl, A, r1, r2⟩ := A
  exact go_by (fun t k => X.iaload hx (j := j) (by rw [eT]; exact A.1) (State.isArrayOf_alike hZ.alike A.2.1) A.2.2 (inb hi hlt r1) (by rw [clamp_of hi]; exact r2 i hlt) (g := mkF m pc L (.int j :: .ref a :: S)) rfl rfl (hb hby hd) t k) r
theorem g_laload (X : St p l e R s m args below meth c n0 T h cells slots) (C : Cx p s m meth c Z bytes maxL ret own nme) {a : Addr} {n i : Nat} {fn : Nat → Value} {j : Int32} {v : Value} (A : Ar Z h a .long n fn) (hi : j.toInt = i) (hlt : i < n) (hv : fn i = v) (hd : decode bytes pc = .ok (.laload, 1)) (hp : pc + 1 = pc') (r : Go p e below Rest T (mkF m pc' L (v :: S))) : Go p e below Rest T (mkF m pc L (.int j :: .ref a :: S)) := by
  obtain ⟨locs, X, N, eT⟩ := X; obtain ⟨hx, hby, -, -, -, hown, hnm, hZ⟩ := C; subst hp hv
  obtain ⟨cl, A, r1, r2⟩ := A
  exact go_by (fun t k => X.laload hx (j := j) (by rw [eT]; exact A.1) (State.isArrayOf_alike hZ.alike A.2.1) A.2.2 (inb hi hlt r1) (by rw [clamp_of hi]; exact r2 i hlt) (g := mkF m pc L (.int j :: .ref a :: S)) rfl rfl (hb hby hd) t k) r
theorem g_baloadB (X : St p l e R s m args below meth c n0 T h cells slots) (C : Cx p s m meth c Z bytes maxL ret own nme) {a : Addr} {n i : Nat} {fn : Nat → Value} {j : Int32} {v : Value} (A : Ar Z h a .byte n fn) (hi : j.toInt = i) (hlt : i < n) (hv : fn i = v) (hd : decode bytes pc = .ok (.baload, 1)) (hp : pc + 1 = pc') (r : Go p e below Rest T (mkF m pc' L (v :: S))) : Go p e below Rest T (mkF m pc L (.int j :: .ref a :: S)) := by
  obtain ⟨locs, X, N, eT⟩ := X; obtain ⟨hx, hby, -, -, -, hown, hnm, hZ⟩ := C; subst hp hv
  obtain ⟨cl, A, r1, r2⟩ := A
  exact go_by (fun t k => X.baloadBytes hx (j := j) (by rw [eT]; exact A.1) (State.isArrayOf_alike hZ.alike A.2.1) A.2.2 (inb hi hlt r1) (by rw [clamp_of hi]; exact r2 i hlt) (g := mkF m pc L (.int j :: .ref a :: S)) rfl rfl (hb hby hd) t k) r
theorem g_baloadZ (X : St p l e R s m args below meth c n0 T h cells slots) (C : Cx p s m meth c Z bytes maxL ret own nme) {a : Addr} {n i : Nat} {fn : Nat → Value} {j : Int32} {v : Value} (A : Ar Z h a .boolean n fn) (hi : j.toInt = i) (hlt : i < n) (hv : fn i = v) (hd : decode bytes pc = .ok (.baload, 1)) (hp : pc + 1 = pc') (r : Go p e below Rest T (mkF m pc' L (v :: S))) : Go p e below Rest T (mkF m pc L (.int j :: .ref a :: S)) := by
  obtain ⟨locs, X, N, eT⟩ := X; obtain ⟨hx, hby, -, -, -, hown, hnm, hZ⟩ := C; subst hp hv
  obtain ⟨cl, A, r1, r2⟩ := A
  exact go_by (fun t k => X.baloadBooleans hx (j := j) (by rw [eT]; exact A.1) (State.isArrayOf_alike hZ.alike A.2.1) A.2.2 (inb hi hlt r1) (by rw [clamp_of hi]; exact r2 i hlt) (g := mkF m pc L (.int j :: .ref a :: S)) rfl rfl (hb hby hd) t k) r
theorem g_aaload (X : St p l e R s m args below meth c n0 T h cells slots) (C : Cx p s m meth c Z bytes maxL ret own nme) {a : Addr} {n i : Nat} {K : String} {fn : Nat → Value} {j : Int32} {v : Value} (A : ArR Z h a K n fn) (hi : j.toInt = i) (hlt : i < n) (hv : fn i = v) (hd : decode bytes pc = .ok (.aaload, 1)) (hp : pc + 1 = pc') (r : Go p e below Rest T (mkF m pc' L (v :: S))) : Go p e below Rest T (mkF m pc L (.int j :: .ref a :: S)) := by
  obtain ⟨locs, X, N, eT⟩ := X; obtain ⟨hx, hby, -, -, -, hown, hnm, hZ⟩ := C; subst hp hv
  obtain ⟨cl, A, -, r1, r2⟩ := A
  exact go_by (fun t k => X.aaload hx (j := j) (by rw [eT]; exact A.1) (State.isArrayOf_alike hZ.alike A.2.1) rfl A.2.2 (inb hi hlt r1) (by rw [clamp_of hi]; exact r2 i hlt) (g := mkF m pc L (.int j :: .ref a :: S)) rfl rfl (hb hby hd) t k) r
theorem g_iastore (X : St p l e R s m args below meth c n0 T h cells slots) (C : Cx p s m meth c Z bytes maxL ret own nme) {a : Addr} {n i : Nat} {fn : Nat → Value} {j : Int32} {x : Int32} (A : Ar Z h a .int n fn) (hi : j.toInt = i) (hlt : i < n) (ga : n0 ≤ a) (hd : decode bytes pc = .ok (.iastore, 1)) (hp : pc + 1 = pc') (r : ∀ T' h', St p l e R s m args below meth c n0 T' h' cells slots → Ar Z h' a .int n (fun k => if k = i then (.int x) else fn k) → Keep h h' [a] → Go p e below Rest T' (mkF m pc' L S)) : Go p e below Rest T (mkF m pc L (.int x :: .int j :: .ref a :: S)) := by
  obtain ⟨locs, X, N, eT⟩ := X; obtain ⟨hx, hby, -, -, -, hown, hnm, hZ⟩ := C; subst hp
  have A0 := A
  obtain ⟨cl, A, r1, r2⟩ := A
  obtain ⟨T', h', X', e', W, st⟩ := stI X hx hZ eT A (j := j) (inb hi hlt r1) (g := mkF m pc L (.int x :: .int j :: .ref a :: S)) rfl rfl (hb hby hd)
  rw [clamp_of hi] at W
  exact go_by st (r T' h' ⟨_, X', Fr.snoc X' N ga, e'⟩ (A0.set hlt W) (Keep.of_wr W))
theorem g_lastore (X : St p l e R s m args below meth c n0 T h cells slots) (C : Cx p s m meth c Z bytes maxL ret own nme) {a : Addr} {n i : Nat} {fn : Nat → Value} {j : Int32} {x : Int64} (A : Ar Z h a .long n fn) (hi : j.toInt = i) (hlt : i < n) (ga : n0 ≤ a) (hd : decode bytes pc = .ok (.lastore, 1)) (hp : pc + 1 = pc') (r : ∀ T' h', St p l e R s m args below meth c n0 T' h' cells slots → Ar Z h' a .long n (fun k => if k = i then (.long x) else fn k) → Keep h h' [a] → Go p e below Rest T' (mkF m pc' L S)) : Go p e below Rest T (mkF m pc L (.long x :: .int j :: .ref a :: S)) := by
  obtain ⟨locs, X, N, eT⟩ := X; obtain ⟨hx, hby, -, -, -, hown, hnm, hZ⟩ := C; subst hp
  have A0 := A
  obtain ⟨cl, A, r1, r2⟩ := A
  obtain ⟨T', h', X', e', W, st⟩ := stJ X hx hZ eT A (j := j) (inb hi hlt r1) (g := mkF m pc L (.long x :: .int j :: .ref a :: S)) rfl rfl (hb hby hd)
  rw [clamp_of hi] at W
  exact go_by st (r T' h' ⟨_, X', Fr.snoc X' N ga, e'⟩ (A0.set hlt W) (Keep.of_wr W))
theorem g_bastoreB (X : St p l e R s m args below meth c n0 T h cells slots) (C : Cx p s m meth c Z bytes maxL ret own nme) {a : Addr} {n i : Nat} {fn : Nat → Value} {j : Int32} {x : Int32} (A : Ar Z h a .byte n fn) (hi : j.toInt = i) (hlt : i < n) (ga : n0 ≤ a) (hd : decode bytes pc = .ok (.bastore, 1)) (hp : pc + 1 = pc') (r : ∀ T' h', St p l e R s m args below meth c n0 T' h' cells slots → Ar Z h' a .byte n (fun k => if k = i then (.int (nar .byte x)) else fn k) → Keep h h' [a] → Go p e below Rest T' (mkF m pc' L S)) : Go p e below Rest T (mkF m pc L (.int x :: .int j :: .ref a :: S)) := by
  obtain ⟨locs, X, N, eT⟩ := X; obtain ⟨hx, hby, -, -, -, hown, hnm, hZ⟩ := C; subst hp
  have A0 := A
  obtain ⟨cl, A, r1, r2⟩ := A
  obtain ⟨T', h', X', e', W, st⟩ := stB X hx hZ eT A (j := j) (inb hi hlt r1) (g := mkF m pc L (.int x :: .int j :: .ref a :: S)) rfl rfl (hb hby hd)
  rw [clamp_of hi] at W
  exact go_by st (r T' h' ⟨_, X', Fr.snoc X' N ga, e'⟩ (A0.set hlt W) (Keep.of_wr W))
theorem g_bastoreZ (X : St p l e R s m args below meth c n0 T h cells slots) (C : Cx p s m meth c Z bytes maxL ret own nme) {a : Addr} {n i : Nat} {fn : Nat → Value} {j : Int32} {x : Int32} (A : Ar Z h a .boolean n fn) (hi : j.toInt = i) (hlt : i < n) (ga : n0 ≤ a) (hd : decode bytes pc = .ok (.bastore, 1)) (hp : pc + 1 = pc') (r : ∀ T' h', St p l e R s m args below meth c n0 T' h' cells slots → Ar Z h' a .boolean n (fun k => if k = i then (.int (nar .boolean x)) else fn k) → Keep h h' [a] → Go p e below Rest T' (mkF m pc' L S)) : Go p e below Rest T (mkF m pc L (.int x :: .int j :: .ref a :: S)) := by
  obtain ⟨locs, X, N, eT⟩ := X; obtain ⟨hx, hby, -, -, -, hown, hnm, hZ⟩ := C; subst hp
  have A0 := A
  obtain ⟨cl, A, r1, r2⟩ := A
  obtain ⟨T', h', X', e', W, st⟩ := stZ X hx hZ eT A (j := j) (inb hi hlt r1) (g := mkF m pc L (.int x :: .int j :: .ref a :: S)) rfl rfl (hb hby hd)
  rw [clamp_of hi] at W
  exact go_by st (r T' h' ⟨_, X', Fr.snoc X' N ga, e'⟩ (A0.set hlt W) (Keep.of_wr W))
theorem g_initO (X : St p l e R s m args below meth c n0 T h cells slots) (C : Cx p s m meth c Z bytes maxL ret own nme) {index : Nat} {a : Addr} {W : Nat} (w1 : (Jvm.Cond.methodLink own index Lib.objectInit).before a0 Z = true) (w2 : (Jvm.Cond.instanceMethod Lib.objectInit).before a0 Z = true) (w3 : (Jvm.Cond.code Lib.objectInit ⟨#[0xb1]⟩ 1 none).before a0 Z = true) (hsz : L.size = maxL) (hW : (S.map fun v => v.category).sum = W) (hf : 1 ≤ R.frames) (hl : W + 12 ≤ R.locals) (hd : decode bytes pc = .ok (.invokespecial index, 3)) (hp : pc + 3 = pc') (r : ∀ T', St p l e R s m args below meth c n0 T' h cells slots → Go p e below Rest T' (mkF m pc' L S)) : Go p e below Rest T (mkF m pc L (.ref a :: S)) := by
  obtain ⟨locs, X, N, eT⟩ := X; obtain ⟨hx, hby, hml, -, -, hown, hnm, hZ⟩ := C; subst hp
  obtain ⟨T', X', e', st⟩ := initO X hx hZ hown w1 w2 w3 eT (g := mkF m pc L (.ref a :: S)) rfl (by rw [hml]; exact hsz) rfl (hb hby hd) hf (W := W) (by show 2 * 0 + _ ≤ _; omega) hl
  exact go_by st (r T' ⟨locs, X', N, e'⟩)
theorem g_static (X : St p l e R s m args below meth c n0 T h cells slots) (C : Cx p s m meth c Z bytes maxL ret own nme) {y : MethodName} {bytes' : ByteArray} {maxL' : Nat} {ret' : Option FieldType} {rm : Room} {as : Array Value} {Q : Option Value → Heap → Prop} {index : Nat} {W : Nat} {argsL rest : List Value} {ps : List FieldType} {rt : Option FieldType} (hM : Ctr l y bytes' maxL' ret' rm Z n0 as h Q []) (w1 : (Jvm.Cond.methodLink own index y).before a0 Z = true) (w2 : (Jvm.Cond.static y).before a0 Z = true) (w3 : (Jvm.Cond.initialized y.cls).before a0 Z = true) (w4 : (Jvm.Cond.code y bytes' maxL' ret').before a0 Z = true) (hy : y.cls ≠ "java/lang/invoke/MethodHandle" ∧ y.cls ≠ "java/lang/invoke/VarHandle") (pd : parseMethodDescriptor y.desc = some ⟨ps, rt⟩) (hal : argsL.length = ps.length) (has : argsL.toArray = as) (hs : S = argsL.reverse ++ rest) (hsz : L.size = maxL) (hW : (rest.map fun v => v.category).sum = W) (hf : rm.frames + 1 ≤ R.frames) (hl : W + (maxL' + 11) + rm.locals ≤ R.locals) (hc : cells + rm.cells ≤ R.cells) (hsl : slots + rm.slots ≤ R.slots) (hd : decode bytes pc = .ok (.invokestatic index, 3)) (hp : pc + 3 = pc') (r : ∀ v T' h', Q v h' → St p l e R s m args below meth c n0 T' h' (cells + rm.cells) (slots + rm.slots) → Go p e below Rest T' (mkF m pc' L (v.toList ++ rest))) : Go p e below Rest T (mkF m pc L S) := by
  obtain ⟨locs, X, N, eT⟩ := X; obtain ⟨hx, hby, hml, -, -, hown, hnm, hZ⟩ := C; subst hp
  obtain ⟨v, _, ⟨T', L1, k1, n1⟩, -, X', ⟨Lc, ⟨hQ, hN⟩, l1, y1, z1⟩, st⟩ := Jvm.LawKit.callS X hx (y := y) hown (mvT hZ w1) (mvT hZ w2) (mvT hZ w3) (mvT hZ w4) hy (backOf (W := W) (Q := fun v h L => Q v h ∧ Fr n0 L) hM hZ w4 w3 hf hl) (g := mkF m pc L S) rfl (by rw [hml]; exact hsz) (argsL := argsL) (rest := rest) (lenOf pd hal) hs (by show 2 * 0 + _ ≤ _; omega) (hb hby hd) (fun _ _ => ⟨has, eT, hc, hsl⟩)
  dsimp only [Pt.U, Pt.locs, Pt.cells, Pt.slots] at X' l1 y1 z1 st hQ
  subst l1 y1 z1
  exact go_by st (r v T' _ hQ ⟨_, X', Fr.app N hN, rfl⟩)
theorem g_special (X : St p l e R s m args below meth c n0 T h cells slots) (C : Cx p s m meth c Z bytes maxL ret own nme) {y : MethodName} {bytes' : ByteArray} {maxL' : Nat} {ret' : Option FieldType} {rm : Room} {as : Array Value} {Q : Option Value → Heap → Prop} {index : Nat} {W : Nat} {argsL rest : List Value} {ps : List FieldType} {rt : Option FieldType} (hM : Ctr l y bytes' maxL' ret' rm Z n0 as h Q []) {a : Addr} (hy1 : y.name = "<init>") (hret : ret' = none) (w1 : (Jvm.Cond.methodLink own index y).before a0 Z = true) (w2 : (Jvm.Cond.instanceMethod y).before a0 Z = true) (w3 : (Jvm.Cond.initialized y.cls).before a0 Z = true) (w4 : (Jvm.Cond.code y bytes' maxL' ret').before a0 Z = true) (hy : y.cls ≠ "java/lang/invoke/MethodHandle" ∧ y.cls ≠ "java/lang/invoke/VarHandle") (pd : parseMethodDescriptor y.desc = some ⟨ps, rt⟩) (hal : argsL.length = ps.length) (has : (.ref a :: argsL).toArray = as) (hs : S = argsL.reverse ++ .ref a :: rest) (hsz : L.size = maxL) (hW : (rest.map fun v => v.category).sum = W) (hf : rm.frames + 1 ≤ R.frames) (hl : W + (maxL' + 11) + rm.locals ≤ R.locals) (hc : cells + rm.cells ≤ R.cells) (hsl : slots + rm.slots ≤ R.slots) (hd : decode bytes pc = .ok (.invokespecial index, 3)) (hp : pc + 3 = pc') (r : ∀ v T' h', Q v h' → St p l e R s m args below meth c n0 T' h' (cells + rm.cells) (slots + rm.slots) → Go p e below Rest T' (mkF m pc' L (v.toList ++ rest))) : Go p e below Rest T (mkF m pc L S) := by
  obtain ⟨locs, X, N, eT⟩ := X; obtain ⟨hx, hby, hml, -, -, hown, hnm, hZ⟩ := C; subst hp hret
  obtain ⟨v, _, ⟨T', L1, k1, n1⟩, -, X', ⟨Lc, ⟨hQ, hN⟩, l1, y1, z1⟩, st⟩ := X.specialBack hx (y := y) hy1 hown (mvT hZ w1) (mvT hZ w2) (mvT hZ w4) hy (backOf (W := W) (Q := fun v h L => Q v h ∧ Fr n0 L) hM hZ w4 w3 hf hl) (g := mkF m pc L S) rfl (by rw [hml]; exact hsz) (Steps.refl _) (a := a) (argsL := argsL) (rest := rest) (lenOf pd hal) hs (by show 2 * 0 + _ ≤ _; omega) (hb hby hd) (fun _ _ => ⟨has, eT, hc, hsl⟩)
  dsimp only [Pt.U, Pt.locs, Pt.cells, Pt.slots] at X' l1 y1 z1 st hQ
  subst l1 y1 z1
  exact go_tr st (r v T' _ hQ ⟨_, X', Fr.app N hN, rfl⟩)
theorem g_virtual (X : St p l e R s m args below meth c n0 T h cells slots) (C : Cx p s m meth c Z bytes maxL ret own nme) {y : MethodName} {bytes' : ByteArray} {maxL' : Nat} {ret' : Option FieldType} {rm : Room} {as : Array Value} {Q : Option Value → Heap → Prop} {index : Nat} {W : Nat} {argsL rest : List Value} {ps : List FieldType} {rt : Option FieldType} (hM : Ctr l y bytes' maxL' ret' rm Z n0 as h Q []) {a : Addr} (Ex : Exa Z h a y.cls) (w1 : (Jvm.Cond.methodLink own index y).before a0 Z = true) (w2 : (Jvm.Cond.declares y).before a0 Z = true) (ws : (Jvm.Cond.selects y.cls y y).before a0 Z = true) (wi : (Jvm.Cond.instanceMethod y).before a0 Z = true) (w3 : (Jvm.Cond.initialized y.cls).before a0 Z = true) (w4 : (Jvm.Cond.code y bytes' maxL' ret').before a0 Z = true) (hy : y.cls ≠ "java/lang/invoke/MethodHandle" ∧ y.cls ≠ "java/lang/invoke/VarHandle") (pd : parseMethodDescriptor y.desc = some ⟨ps, rt⟩) (hal : argsL.length = ps.length) (has : (.ref a :: argsL).toArray = as) (hs : S = argsL.reverse ++ .ref a :: rest) (hsz : L.size = maxL) (hW : (rest.map fun v => v.category).sum = W) (hf : rm.frames + 1 ≤ R.frames) (hl : W + (maxL' + 11) + rm.locals ≤ R.locals) (hc : cells + rm.cells ≤ R.cells) (hsl : slots + rm.slots ≤ R.slots) (hd : decode bytes pc = .ok (.invokevirtual index, 3)) (hp : pc + 3 = pc') (r : ∀ v T' h', Q v h' → St p l e R s m args below meth c n0 T' h' (cells + rm.cells) (slots + rm.slots) → Go p e below Rest T' (mkF m pc' L (v.toList ++ rest))) : Go p e below Rest T (mkF m pc L S) := by
  obtain ⟨locs, X, N, eT⟩ := X; obtain ⟨hx, hby, hml, -, -, hown, hnm, hZ⟩ := C; subst hp
  obtain ⟨cq, kq, qa, qb, qc⟩ := isOf hZ eT Ex
  obtain ⟨v, _, ⟨T', L1, k1, n1⟩, -, X', ⟨Lc, ⟨hQ, hN⟩, l1, y1, z1⟩, st⟩ := X.virtualBack hx (y := y) (z := y) hown (mvT hZ w1) (mvT hZ w2) (notFace_of_selects (args := #[]) (mvT hZ ws)) (mvT hZ ws) (mvT hZ wi) hy (backOf (W := W) (Q := fun v h L => Q v h ∧ Fr n0 L) hM hZ w4 w3 hf hl) qa qc (g := mkF m pc L S) rfl (by rw [hml]; exact hsz) (Steps.refl _) (argsL := argsL) (rest := rest) (lenOf pd hal) hs (by show 2 * 0 + _ ≤ _; omega) (hb hby hd) (fun _ _ => ⟨has, eT, hc, hsl⟩)
  dsimp only [Pt.U, Pt.locs, Pt.cells, Pt.slots] at X' l1 y1 z1 st hQ
  subst l1 y1 z1
  exact go_tr st (r v T' _ hQ ⟨_, X', Fr.app N hN, rfl⟩)
theorem g_retI {z : Int32} (X : St p l e R s m args below meth c n0 T h cells slots) (C : Cx p s m meth c Z bytes maxL (some .int) own nme) {Q : Option Value → Heap → Prop} {k n : Nat} (hd : decode bytes pc = .ok (.ireturn, 1)) (hQ : Q (some (.int z)) h) (hk : cells ≤ k) (hn : slots ≤ n) : Go p e below (Rs s below n0 Q k n) T (mkF m pc L (.int z :: S)) := by
  obtain ⟨locs, X, N, eT⟩ := X; obtain ⟨hx, hby, -, hret, hlk, -⟩ := C
  obtain ⟨fs, hr, hrun, hended, hW, hsame⟩ := X.leave (v := (some (.int z))) (fun q => by first | rfl | (rw [hret] at q; cases q)) hlk
  refine ⟨_, _, ?_, hrun, hended, _, _, rfl, ⟨?_, N⟩, ⟨_, rfl⟩, hW, hsame.mono hk hn⟩
  · exact retOut X hx hret rfl (Or.inl ⟨rfl, Or.inl rfl, z, rfl⟩) (hb hby hd) hr
  · show Q _ T.heap; rw [eT]; exact hQ
theorem g_retJ {z : Int64} (X : St p l e R s m args below meth c n0 T h cells slots) (C : Cx p s m meth c Z bytes maxL (some .long) own nme) {Q : Option Value → Heap → Prop} {k n : Nat} (hd : decode bytes pc = .ok (.lreturn, 1)) (hQ : Q (some (.long z)) h) (hk : cells ≤ k) (hn : slots ≤ n) : Go p e below (Rs s below n0 Q k n) T (mkF m pc L (.long z :: S)) := by
  obtain ⟨locs, X, N, eT⟩ := X; obtain ⟨hx, hby, -, hret, hlk, -⟩ := C
  obtain ⟨fs, hr, hrun, hended, hW, hsame⟩ := X.leave (v := (some (.long z))) (fun q => by first | rfl | (rw [hret] at q; cases q)) hlk
  refine ⟨_, _, ?_, hrun, hended, _, _, rfl, ⟨?_, N⟩, ⟨_, rfl⟩, hW, hsame.mono hk hn⟩
  · exact retOut X hx hret rfl (Or.inr (Or.inl ⟨rfl, rfl, z, rfl⟩)) (hb hby hd) hr
  · show Q _ T.heap; rw [eT]; exact hQ
theorem g_retZ {z : Int32} (X : St p l e R s m args below meth c n0 T h cells slots) (C : Cx p s m meth c Z bytes maxL (some .boolean) own nme) {Q : Option Value → Heap → Prop} {k n : Nat} (hd : decode bytes pc = .ok (.ireturn, 1)) (hQ : Q (some (.int (nar .boolean z))) h) (hk : cells ≤ k) (hn : slots ≤ n) : Go p e below (Rs s below n0 Q k n) T (mkF m pc L (.int z :: S)) := by
  obtain ⟨locs, X, N, eT⟩ := X; obtain ⟨hx, hby, -, hret, hlk, -⟩ := C
  obtain ⟨fs, hr, hrun, hended, hW, hsame⟩ := X.leave (v := (some (.int (nar .boolean z)))) (fun q => by first | rfl | (rw [hret] at q; cases q)) hlk
  refine ⟨_, _, ?_, hrun, hended, _, _, rfl, ⟨?_, N⟩, ⟨_, rfl⟩, hW, hsame.mono hk hn⟩
  · exact retN X hx (t := .boolean) hret (by simp) (hb hby hd) hr
  · show Q _ T.heap; rw [eT]; exact hQ
theorem g_retB {z : Int32} (X : St p l e R s m args below meth c n0 T h cells slots) (C : Cx p s m meth c Z bytes maxL (some .byte) own nme) {Q : Option Value → Heap → Prop} {k n : Nat} (hd : decode bytes pc = .ok (.ireturn, 1)) (hQ : Q (some (.int (nar .byte z))) h) (hk : cells ≤ k) (hn : slots ≤ n) : Go p e below (Rs s below n0 Q k n) T (mkF m pc L (.int z :: S)) := by
  obtain ⟨locs, X, N, eT⟩ := X; obtain ⟨hx, hby, -, hret, hlk, -⟩ := C
  obtain ⟨fs, hr, hrun, hended, hW, hsame⟩ := X.leave (v := (some (.int (nar .byte z)))) (fun q => by first | rfl | (rw [hret] at q; cases q)) hlk
  refine ⟨_, _, ?_, hrun, hended, _, _, rfl, ⟨?_, N⟩, ⟨_, rfl⟩, hW, hsame.mono hk hn⟩
  · exact retN X hx (t := .byte) hret (by simp) (hb hby hd) hr
  · show Q _ T.heap; rw [eT]; exact hQ
theorem g_retV  (X : St p l e R s m args below meth c n0 T h cells slots) (C : Cx p s m meth c Z bytes maxL none own nme) {Q : Option Value → Heap → Prop} {k n : Nat} (hd : decode bytes pc = .ok (.return_, 1)) (hQ : Q none h) (hk : cells ≤ k) (hn : slots ≤ n) : Go p e below (Rs s below n0 Q k n) T (mkF m pc L []) := by
  obtain ⟨locs, X, N, eT⟩ := X; obtain ⟨hx, hby, -, hret, hlk, -⟩ := C
  obtain ⟨fs, hr, hrun, hended, hW, hsame⟩ := X.leave (v := none) (fun q => by first | rfl | (rw [hret] at q; cases q)) hlk
  refine ⟨_, _, ?_, hrun, hended, _, _, rfl, ⟨?_, N⟩, ⟨_, rfl⟩, hW, hsame.mono hk hn⟩
  · exact X.returnOut hx hret (hb hby hd) hr
  · show Q _ T.heap; rw [eT]; exact hQ
theorem g_retA {v : Value} {ty : FieldType} (X : St p l e R s m args below meth c n0 T h cells slots) (C : Cx p s m meth c Z bytes maxL (some ty) own nme) {Q : Option Value → Heap → Prop} {k n : Nat} (hd : decode bytes pc = .ok (.areturn, 1)) (ht : ty.isReference = true) (hv : v.isRef = true) (hQ : Q (some v) h) (hk : cells ≤ k) (hn : slots ≤ n) : Go p e below (Rs s below n0 Q k n) T (mkF m pc L (v :: S)) := by
  obtain ⟨locs, X, N, eT⟩ := X; obtain ⟨hx, hby, -, hret, hlk, -⟩ := C
  obtain ⟨fs, hr, hrun, hended, hW, hsame⟩ := X.leave (v := (some v)) (fun q => by first | rfl | (rw [hret] at q; cases q)) hlk
  refine ⟨_, _, ?_, hrun, hended, _, _, rfl, ⟨?_, N⟩, ⟨_, rfl⟩, hW, hsame.mono hk hn⟩
  · exact retOut X hx hret (by cases ty <;> cases v <;> simp_all [narrow, FieldType.isReference, Value.isRef]) (Or.inr (Or.inr (Or.inr (Or.inr ⟨rfl, ht, hv⟩)))) (hb hby hd) hr
  · show Q _ T.heap; rw [eT]; exact hQ
end Lay
end Jvm.Own
namespace Jvm.Pilot.@@N@@
open Jvm Jvm.ClassFile Sem Op Lib Jvm.Free Jvm.Stand Jvm.LawKit Jvm.RoadKit Jvm.Own Bundle Jvm.Pilot.@@N@@.Jvm.D
theorem own_nb1 {P : Prop} [Decidable P] (h : P) : some (Value.int (nar .boolean 1)) = some (Value.int (if P then (1 : Int32) else 0)) := by rw [if_pos h]; rfl
theorem own_nb0 {P : Prop} [Decidable P] (h : ¬ P) : some (Value.int (nar .boolean 0)) = some (Value.int (if P then (1 : Int32) else 0)) := by rw [if_neg h]; rfl
theorem own_or32n (n : Nat) : n ||| 32 = if (n / 32) % 2 = 0 then n + 32 else n := by
  have h1 : (n ||| 32) % 2 ^ 6 = (n % 2 ^ 6) ||| (32 % 2 ^ 6) := Nat.or_mod_two_pow
  have h2 : (n ||| 32) / 2 ^ 6 = (n / 2 ^ 6) ||| (32 / 2 ^ 6) := Nat.or_div_two_pow
  have h3 : ∀ r, r < 64 → r ||| 32 = if r < 32 then r + 32 else r := by decide
  have h4 := h3 (n % 64) (Nat.mod_lt _ (by decide))
  simp only [Nat.reducePow, Nat.reduceMod, Nat.reduceDiv, Nat.or_zero] at h1 h2
  rw [h4] at h1
  split at h1 <;> split <;> omega
theorem own_toInt (c : Int32) : c.toInt = if c.toBitVec.toNat < 2147483648 then (c.toBitVec.toNat : Int) else (c.toBitVec.toNat : Int) - 4294967296 := by
  show c.toBitVec.toInt = _
  rw [BitVec.toInt_eq_toNat_cond]; split <;> split <;> omega
theorem own_or32 (c : Int32) : (c ||| 32).toInt = if (c.toInt / 32) % 2 = 0 then c.toInt + 32 else c.toInt := by
  have h1 : (c ||| 32).toBitVec.toNat = c.toBitVec.toNat ||| 32 := by simp [BitVec.toNat_or]
  have h2 := own_toInt c; have h3 := own_toInt (c ||| 32)
  rw [h1, own_or32n] at h3
  have h4 : c.toBitVec.toNat < 4294967296 := c.toBitVec.isLt
  split at h3 <;> split at h3 <;> split at h2 <;> split <;> omega

theorem d1_0 : decode prog_43_method_6_code 0 = .ok (.iload_n 0, 1) := by decide +kernel
theorem d1_1 : decode prog_43_method_6_code 1 = .ok (.bipush 97, 2) := by decide +kernel
theorem d1_3 : decode prog_43_method_6_code 3 = .ok (.if_icmp .lt 9, 3) := by decide +kernel
theorem d1_6 : decode prog_43_method_6_code 6 = .ok (.iload_n 0, 1) := by decide +kernel
theorem d1_7 : decode prog_43_method_6_code 7 = .ok (.bipush 122, 2) := by decide +kernel
theorem d1_9 : decode prog_43_method_6_code 9 = .ok (.if_icmp .le 21, 3) := by decide +kernel
theorem d1_12 : decode prog_43_method_6_code 12 = .ok (.iload_n 0, 1) := by decide +kernel
theorem d1_13 : decode prog_43_method_6_code 13 = .ok (.bipush 65, 2) := by decide +kernel
theorem d1_15 : decode prog_43_method_6_code 15 = .ok (.if_icmp .lt 9, 3) := by decide +kernel
theorem d1_18 : decode prog_43_method_6_code 18 = .ok (.iload_n 0, 1) := by decide +kernel
theorem d1_19 : decode prog_43_method_6_code 19 = .ok (.bipush 90, 2) := by decide +kernel
theorem d1_21 : decode prog_43_method_6_code 21 = .ok (.if_icmp .le 9, 3) := by decide +kernel
theorem d1_24 : decode prog_43_method_6_code 24 = .ok (.iload_n 0, 1) := by decide +kernel
theorem d1_25 : decode prog_43_method_6_code 25 = .ok (.bipush 95, 2) := by decide +kernel
theorem d1_27 : decode prog_43_method_6_code 27 = .ok (.if_icmp .ne 7, 3) := by decide +kernel
theorem d1_30 : decode prog_43_method_6_code 30 = .ok (.iconst 1, 1) := by decide +kernel
theorem d1_31 : decode prog_43_method_6_code 31 = .ok (.goto 4, 3) := by decide +kernel
theorem d1_34 : decode prog_43_method_6_code 34 = .ok (.iconst 0, 1) := by decide +kernel
theorem d1_35 : decode prog_43_method_6_code 35 = .ok (.ireturn, 1) := by decide +kernel
theorem d2_0 : decode method_2_code 0 = .ok (.iload_n 0, 1) := by decide +kernel
theorem d2_1 : decode method_2_code 1 = .ok (.bipush 95, 2) := by decide +kernel
theorem d2_3 : decode method_2_code 3 = .ok (.if_icmp .ne 5, 3) := by decide +kernel
theorem d2_6 : decode method_2_code 6 = .ok (.iconst 1, 1) := by decide +kernel
theorem d2_7 : decode method_2_code 7 = .ok (.ireturn, 1) := by decide +kernel
theorem d2_8 : decode method_2_code 8 = .ok (.iload_n 0, 1) := by decide +kernel
theorem d2_9 : decode method_2_code 9 = .ok (.bipush 32, 2) := by decide +kernel
theorem d2_11 : decode method_2_code 11 = .ok (.ior, 1) := by decide +kernel
theorem d2_12 : decode method_2_code 12 = .ok (.i2l, 1) := by decide +kernel
theorem d2_13 : decode method_2_code 13 = .ok (.ldc2_w 7, 3) := by decide +kernel
theorem d2_16 : decode method_2_code 16 = .ok (.lsub, 1) := by decide +kernel
theorem d2_17 : decode method_2_code 17 = .ok (.lstore_n 1, 1) := by decide +kernel
theorem d2_18 : decode method_2_code 18 = .ok (.lload_n 1, 1) := by decide +kernel
theorem d2_19 : decode method_2_code 19 = .ok (.lconst 0, 1) := by decide +kernel
theorem d2_20 : decode method_2_code 20 = .ok (.lcmp, 1) := by decide +kernel
theorem d2_21 : decode method_2_code 21 = .ok (.ifCond .lt 15, 3) := by decide +kernel
theorem d2_24 : decode method_2_code 24 = .ok (.lload_n 1, 1) := by decide +kernel
theorem d2_25 : decode method_2_code 25 = .ok (.ldc2_w 9, 3) := by decide +kernel
theorem d2_28 : decode method_2_code 28 = .ok (.lcmp, 1) := by decide +kernel
theorem d2_29 : decode method_2_code 29 = .ok (.ifCond .ge 7, 3) := by decide +kernel
theorem d2_32 : decode method_2_code 32 = .ok (.iconst 1, 1) := by decide +kernel
theorem d2_33 : decode method_2_code 33 = .ok (.goto 4, 3) := by decide +kernel
theorem d2_36 : decode method_2_code 36 = .ok (.iconst 0, 1) := by decide +kernel
theorem d2_37 : decode method_2_code 37 = .ok (.ireturn, 1) := by decide +kernel
theorem pn_0 : plainName "com/example/feuillet/feuillet/cda/internal/DocumentNames" = true := by first | (simp [plainName, overriddenIn]; done) | decide +kernel
theorem pn_1 : plainName "com/example/feuillet/feuillet/cda/internal/DocumentNamesIsNameStartPinLaw" = true := by first | (simp [plainName, overriddenIn]; done) | decide +kernel
theorem pd_0 : parseMethodDescriptor "(I)Z" = some ⟨[.int], some .boolean⟩ := by decide +kernel
theorem ef_rm1 (m : MethodId) (p1 : Int32) : entryFrame m #[(.int p1)] 1 = mkF m 0 #[.val (.int p1)] [] := by first | (simp [entryFrame, mkF, argsToLocals, Value.category]; done) | rfl
set_option maxRecDepth 65536 in
set_option maxHeartbeats 40000000 in
theorem rm1 (l : Launch) (Z : State) (a0 : Array Value) (hw : ∀ d ∈ tables_1, d.before a0 Z = true) (p1 : Int32) (h0 : Heap) (n0 : Nat) (hz0 : n0 ≤ h0.size)  (ws : List Jvm.Cond) :
    Ctr l (⟨"com/example/feuillet/feuillet/cda/internal/DocumentNames", "isNameStart", "(I)Z"⟩ : MethodName) prog_43_method_6_code 1 (some .boolean) ({ frames := 0, cells := 0, slots := 0, locals := 0 } : Room) Z n0 #[(.int p1)] h0 (fun v h => v = some (.int (if ((97 ≤ p1.toInt ∧ p1.toInt ≤ 122) ∨ (65 ≤ p1.toInt ∧ p1.toInt ≤ 90) ∨ p1.toInt = 95) then (1 : Int32) else 0)) ∧ h = h0) ws := by
  refine ctr_of (plainFor_of_name pn_0) ?_
  intro p e s m below meth c T0 X0 C
  refine go_cast (ef_rm1 m p1) ?_
  obtain ⟨RS, hRS⟩ : ∃ RS, RS = Rs s below n0 (fun v h => v = some (.int (if ((97 ≤ p1.toInt ∧ p1.toInt ≤ 122) ∨ (65 ≤ p1.toInt ∧ p1.toInt ≤ 90) ∨ p1.toInt = 95) then (1 : Int32) else 0)) ∧ h = h0) ({ frames := 0, cells := 0, slots := 0, locals := 0 } : Room).cells ({ frames := 0, cells := 0, slots := 0, locals := 0 } : Room).slots := ⟨_, rfl⟩
  suffices HG : Go p e below RS T0 (mkF m 0 #[.val (.int p1)] []) by rw [hRS] at HG; exact HG
  show Go p e below RS T0 (mkF m 0 #[.val (.int p1)] [])
  refine g_iloadN X0 C d1_0 rfl rfl ?_
  refine g_bipush (v := 97) X0 C d1_1 (by decide) rfl ?_
  refine g_icmp_lt (a := p1.toInt) (b := 97) X0 C d1_3 rfl (by decide) (by decide) (pT := 12) (by decide) (pF := 6) rfl (fun hc3 => ?_) (fun hc3 => ?_)
  ·
    refine g_iloadN X0 C d1_12 rfl rfl ?_
    refine g_bipush (v := 65) X0 C d1_13 (by decide) rfl ?_
    refine g_icmp_lt (a := p1.toInt) (b := 65) X0 C d1_15 rfl (by decide) (by decide) (pT := 24) (by decide) (pF := 18) rfl (fun hc15 => ?_) (fun hc15 => ?_)
    ·
      refine g_iloadN X0 C d1_24 rfl rfl ?_
      refine g_bipush (v := 95) X0 C d1_25 (by decide) rfl ?_
      refine g_icmp_ne (a := p1.toInt) (b := 95) X0 C d1_27 rfl (by decide) (by decide) (pT := 34) (by decide) (pF := 30) rfl (fun hc27 => ?_) (fun hc27 => absurd hc27 (by omega))
      refine g_iconst (v := 0) X0 C d1_34 (by decide) rfl ?_
      rw [hRS]
      refine g_retZ X0 C d1_35 ?_ (by decide) (by decide)
      exact ⟨own_nb0 (by omega), rfl⟩
    ·
      refine g_iloadN X0 C d1_18 rfl rfl ?_
      refine g_bipush (v := 90) X0 C d1_19 (by decide) rfl ?_
      refine g_icmp_le (a := p1.toInt) (b := 90) X0 C d1_21 rfl (by decide) (by decide) (pT := 30) (by decide) (pF := 24) rfl (fun hc21 => ?_) (fun hc21 => ?_)
      ·
        refine g_iconst (v := 1) X0 C d1_30 (by decide) rfl ?_
        refine g_goto (pc' := 35) X0 C d1_31 (by decide) (by decide) ?_
        rw [hRS]
        refine g_retZ X0 C d1_35 ?_ (by decide) (by decide)
        exact ⟨own_nb1 (by omega), rfl⟩
      ·
        refine g_iloadN X0 C d1_24 rfl rfl ?_
        refine g_bipush (v := 95) X0 C d1_25 (by decide) rfl ?_
        refine g_icmp_ne (a := p1.toInt) (b := 95) X0 C d1_27 rfl (by decide) (by decide) (pT := 34) (by decide) (pF := 30) rfl (fun hc27 => ?_) (fun hc27 => ?_)
        ·
          refine g_iconst (v := 0) X0 C d1_34 (by decide) rfl ?_
          rw [hRS]
          refine g_retZ X0 C d1_35 ?_ (by decide) (by decide)
          exact ⟨own_nb0 (by omega), rfl⟩
        ·
          refine g_iconst (v := 1) X0 C d1_30 (by decide) rfl ?_
          refine g_goto (pc' := 35) X0 C d1_31 (by decide) (by decide) ?_
          rw [hRS]
          refine g_retZ X0 C d1_35 ?_ (by decide) (by decide)
          exact ⟨own_nb1 (by omega), rfl⟩
  ·
    refine g_iloadN X0 C d1_6 rfl rfl ?_
    refine g_bipush (v := 122) X0 C d1_7 (by decide) rfl ?_
    refine g_icmp_le (a := p1.toInt) (b := 122) X0 C d1_9 rfl (by decide) (by decide) (pT := 30) (by decide) (pF := 12) rfl (fun hc9 => ?_) (fun hc9 => ?_)
    ·
      refine g_iconst (v := 1) X0 C d1_30 (by decide) rfl ?_
      refine g_goto (pc' := 35) X0 C d1_31 (by decide) (by decide) ?_
      rw [hRS]
      refine g_retZ X0 C d1_35 ?_ (by decide) (by decide)
      exact ⟨own_nb1 (by omega), rfl⟩
    ·
      refine g_iloadN X0 C d1_12 rfl rfl ?_
      refine g_bipush (v := 65) X0 C d1_13 (by decide) rfl ?_
      refine g_icmp_lt (a := p1.toInt) (b := 65) X0 C d1_15 rfl (by decide) (by decide) (pT := 24) (by decide) (pF := 18) rfl (fun hc15 => absurd hc15 (by omega)) (fun hc15 => ?_)
      refine g_iloadN X0 C d1_18 rfl rfl ?_
      refine g_bipush (v := 90) X0 C d1_19 (by decide) rfl ?_
      refine g_icmp_le (a := p1.toInt) (b := 90) X0 C d1_21 rfl (by decide) (by decide) (pT := 30) (by decide) (pF := 24) rfl (fun hc21 => absurd hc21 (by omega)) (fun hc21 => ?_)
      refine g_iloadN X0 C d1_24 rfl rfl ?_
      refine g_bipush (v := 95) X0 C d1_25 (by decide) rfl ?_
      refine g_icmp_ne (a := p1.toInt) (b := 95) X0 C d1_27 rfl (by decide) (by decide) (pT := 34) (by decide) (pF := 30) rfl (fun hc27 => ?_) (fun hc27 => absurd hc27 (by omega))
      refine g_iconst (v := 0) X0 C d1_34 (by decide) rfl ?_
      rw [hRS]
      refine g_retZ X0 C d1_35 ?_ (by decide) (by decide)
      exact ⟨own_nb0 (by omega), rfl⟩
theorem ef_rm2 (m : MethodId) (p1 : Int32) : entryFrame m #[(.int p1)] 3 = mkF m 0 #[.val (.int p1), .unset, .unset] [] := by first | (simp [entryFrame, mkF, argsToLocals, Value.category]; done) | rfl
set_option maxRecDepth 65536 in
set_option maxHeartbeats 40000000 in
theorem rm2 (l : Launch) (Z : State) (a0 : Array Value) (hw : ∀ d ∈ tables_1, d.before a0 Z = true) (p1 : Int32) (h0 : Heap) (n0 : Nat) (hz0 : n0 ≤ h0.size)  (ws : List Jvm.Cond) :
    Ctr l (⟨"com/example/feuillet/feuillet/cda/internal/DocumentNamesIsNameStartPinLaw", "reference", "(I)Z"⟩ : MethodName) method_2_code 3 (some .boolean) ({ frames := 0, cells := 0, slots := 0, locals := 0 } : Room) Z n0 #[(.int p1)] h0 (fun v h => v = some (.int (if (p1.toInt = 95 ∨ (97 ≤ (p1 ||| 32).toInt ∧ (p1 ||| 32).toInt ≤ 122)) then (1 : Int32) else 0)) ∧ h = h0) ws := by
  refine ctr_of (plainFor_of_name pn_1) ?_
  intro p e s m below meth c T0 X0 C
  refine go_cast (ef_rm2 m p1) ?_
  obtain ⟨RS, hRS⟩ : ∃ RS, RS = Rs s below n0 (fun v h => v = some (.int (if (p1.toInt = 95 ∨ (97 ≤ (p1 ||| 32).toInt ∧ (p1 ||| 32).toInt ≤ 122)) then (1 : Int32) else 0)) ∧ h = h0) ({ frames := 0, cells := 0, slots := 0, locals := 0 } : Room).cells ({ frames := 0, cells := 0, slots := 0, locals := 0 } : Room).slots := ⟨_, rfl⟩
  suffices HG : Go p e below RS T0 (mkF m 0 #[.val (.int p1), .unset, .unset] []) by rw [hRS] at HG; exact HG
  show Go p e below RS T0 (mkF m 0 #[.val (.int p1), .unset, .unset] [])
  refine g_iloadN X0 C d2_0 rfl rfl ?_
  refine g_bipush (v := 95) X0 C d2_1 (by decide) rfl ?_
  refine g_icmp_ne (a := p1.toInt) (b := 95) X0 C d2_3 rfl (by decide) (by decide) (pT := 8) (by decide) (pF := 6) rfl (fun hc3 => ?_) (fun hc3 => ?_)
  ·
    refine g_iloadN X0 C d2_8 rfl rfl ?_
    refine g_bipush (v := 32) X0 C d2_9 (by decide) rfl ?_
    refine g_ior X0 C d2_11 rfl ?_
    refine g_i2l X0 C d2_12 rfl ?_
    refine g_ldcJ X0 C (hw _ (List.mem_of_getElem? (i := 8) rfl)) d2_13 rfl ?_
    refine g_lsub X0 C d2_16 rfl ?_
    obtain ⟨j1, h_j1⟩ : ∃ z, z = ((p1 ||| (32 : Int32)).toInt64 - (97 : Int64)) := ⟨_, rfl⟩
    have hi_j1 : j1.toInt = (p1 ||| 32).toInt - 97 := by
        have g1 := c_lsub (p1 ||| 32).toInt64 97; have g2 := c_i2l (p1 ||| 32); have g3 := rng32 (p1 ||| 32); have g4 := rng64 j1; have g5 : (97 : Int64).toInt = 97 := by decide
        rw [← h_j1] at g1; omega
    refine g_lstoreN (L' := #[.val (.int p1), .val (.long j1), .second]) X0 C d2_17 h_j1 rfl rfl ?_
    refine g_lloadN X0 C d2_18 rfl rfl ?_
    refine g_lconst (v := 0) X0 C d2_19 (by decide) rfl ?_
    refine g_lcmp X0 C d2_20 rfl ?_
    refine g_lif_lt (a := j1.toInt) (b := 0) X0 C d2_21 rfl (by decide) (by decide) (pT := 36) (by decide) (pF := 24) rfl (fun hc21 => ?_) (fun hc21 => ?_)
    ·
      refine g_iconst (v := 0) X0 C d2_36 (by decide) rfl ?_
      rw [hRS]
      refine g_retZ X0 C d2_37 ?_ (by decide) (by decide)
      exact ⟨own_nb0 (by omega), rfl⟩
    ·
      refine g_lloadN X0 C d2_24 rfl rfl ?_
      refine g_ldcJ X0 C (hw _ (List.mem_of_getElem? (i := 9) rfl)) d2_25 rfl ?_
      refine g_lcmp X0 C d2_28 rfl ?_
      refine g_lif_ge (a := j1.toInt) (b := 26) X0 C d2_29 rfl (by decide) (by decide) (pT := 36) (by decide) (pF := 32) rfl (fun hc29 => ?_) (fun hc29 => ?_)
      ·
        refine g_iconst (v := 0) X0 C d2_36 (by decide) rfl ?_
        rw [hRS]
        refine g_retZ X0 C d2_37 ?_ (by decide) (by decide)
        exact ⟨own_nb0 (by omega), rfl⟩
      ·
        refine g_iconst (v := 1) X0 C d2_32 (by decide) rfl ?_
        refine g_goto (pc' := 37) X0 C d2_33 (by decide) (by decide) ?_
        rw [hRS]
        refine g_retZ X0 C d2_37 ?_ (by decide) (by decide)
        exact ⟨own_nb1 (by omega), rfl⟩
  ·
    refine g_iconst (v := 1) X0 C d2_6 (by decide) rfl ?_
    rw [hRS]
    refine g_retZ X0 C d2_7 ?_ (by decide) (by decide)
    exact ⟨own_nb1 (by omega), rfl⟩
theorem ef_rm0 (m : MethodId) (p1 : Int32) : entryFrame m #[(.int p1)] maxLocals = mkF m 0 #[.val (.int p1)] [] := by first | (simp [entryFrame, mkF, argsToLocals, Value.category, maxLocals]; done) | rfl
set_option maxRecDepth 65536 in
set_option maxHeartbeats 40000000 in
theorem rm0 (l : Launch) (Z : State) (a0 : Array Value) (hw : ∀ d ∈ tables_1, d.before a0 Z = true) (p1 : Int32) (h0 : Heap) (n0 : Nat) (hz0 : n0 ≤ h0.size)  (ws : List Jvm.Cond) :
    Ctr l x code maxLocals ret room_1 Z n0 #[(.int p1)] h0 (fun v h => v = some (.int 1)) ws := by
  refine ctr_of (plainFor_of_name pn_1) ?_
  intro p e s m below meth c T0 X0 C
  refine go_cast (ef_rm0 m p1) ?_
  obtain ⟨RS, hRS⟩ : ∃ RS, RS = Rs s below n0 (fun v h => v = some (.int 1)) room_1.cells room_1.slots := ⟨_, rfl⟩
  suffices HG : Go p e below RS T0 (mkF m 0 #[.val (.int p1)] []) by rw [hRS] at HG; exact HG
  show Go p e below RS T0 (mkF m 0 #[.val (.int p1)] [])
  refine g_iloadN X0 C at_0 rfl rfl ?_
  refine g_static (argsL := [(.int p1)]) (rest := []) (W := 0) X0 C (rm1 l Z a0 hw p1 h0 n0 hz0 []) (hw _ (List.mem_of_getElem? (i := 0) rfl)) (hw _ (List.mem_of_getElem? (i := 1) rfl)) (hw _ (List.mem_of_getElem? (i := 2) rfl)) (hw _ (List.mem_of_getElem? (i := 3) rfl)) (by decide) pd_0 rfl rfl rfl rfl rfl (by decide) (by decide) (by decide) (by decide) at_1 rfl (fun r5 T2 h4 hQ6 X3 => ?_)
  obtain ⟨rfl, hh⟩ := hQ6; rw [hh] at X3
  obtain ⟨i7, h_i7⟩ : ∃ z, z = (if ((97 ≤ p1.toInt ∧ p1.toInt ≤ 122) ∨ (65 ≤ p1.toInt ∧ p1.toInt ≤ 90) ∨ p1.toInt = 95) then (1 : Int32) else 0) := ⟨_, rfl⟩
  rw [← h_i7]
  show Go p e below RS T2 (mkF m 4 #[.val (.int p1)] [(.int i7)])
  refine g_iloadN X3 C at_4 rfl rfl ?_
  refine g_static (argsL := [(.int p1)]) (rest := [(.int i7)]) (W := 1) X3 C (rm2 l Z a0 hw p1 h0 n0 hz0 []) (hw _ (List.mem_of_getElem? (i := 4) rfl)) (hw _ (List.mem_of_getElem? (i := 5) rfl)) (hw _ (List.mem_of_getElem? (i := 6) rfl)) (hw _ (List.mem_of_getElem? (i := 7) rfl)) (by decide) pd_0 rfl rfl rfl rfl rfl (by decide) (by decide) (by decide) (by decide) at_5 rfl (fun r11 T8 h10 hQ12 X9 => ?_)
  obtain ⟨rfl, hh⟩ := hQ12; rw [hh] at X9
  obtain ⟨i13, h_i13⟩ : ∃ z, z = (if (p1.toInt = 95 ∨ (97 ≤ (p1 ||| 32).toInt ∧ (p1 ||| 32).toInt ≤ 122)) then (1 : Int32) else 0) := ⟨_, rfl⟩
  rw [← h_i13]
  show Go p e below RS T8 (mkF m 8 #[.val (.int p1)] [(.int i13), (.int i7)])
  have own_same : i7 = i13 := by
      have g := own_or32 p1
      rw [h_i7, h_i13]; split <;> split <;> first | rfl | (exfalso; split at g <;> omega)
  refine g_icmp_ne (a := i7.toInt) (b := i13.toInt) X9 C at_8 rfl rfl (by decide) (pT := 15) (by decide) (pF := 11) rfl (fun hc8 => absurd hc8 (by
      rw [own_same]; exact fun q => q rfl)) (fun hc8 => ?_)
  refine g_iconst (v := 1) X9 C at_11 (by decide) rfl ?_
  refine g_goto (pc' := 16) X9 C at_12 (by decide) (by decide) ?_
  rw [hRS]
  refine g_retZ X9 C at_16 ?_ (by decide) (by decide)
  exact rfl
set_option maxRecDepth 65536 in
set_option maxHeartbeats 40000000 in
theorem comes_1 {Post : Tables → Env → Array Value → State → Outcome → State → Prop} (hpost : ∀ tb e args s v u, (limb_1_1.after args s (.returned v) u = true ∧ limb_1_2.after args s (.returned v) u = true ∧ True) → FrameEnd s (.returned v) u (Jvm.fieldLocs frame_1_writes args s ++ Jvm.arrayLocs frame_1_arrays args s ++ Jvm.staticLocs frame_1_statics s) 0 0 → Post tb e args s (.returned v) u) :
    ArmFor flags0 classFile x code maxLocals ret World_1 tables_1 room_1 Calls_1 rest_1 Pre_1 Post := by
  intro l hfl _ _ p e ha hc hk s m args below hf hA hF happ hP
  obtain ⟨hcalls, hrest, hpre⟩ := hP
  obtain ⟨-, -, -, hnamed, -, -, -, hat⟩ := (Spec.applies_iff hf).mp happ
  obtain ⟨hg, hn⟩ := and_e (Cond.before_iff.mp (show (Jvm.Cond.and given_1 narrow_1).before args s = true from hpre))
  obtain ⟨h1, h2⟩ := and_e hg
  obtain ⟨w0, rfl⟩ : ∃ w0 : Value, args = #[w0] := by
    have hs : args.size = 1 := by simpa [Cond.value, given_1] using h1
    obtain ⟨L⟩ := args
    match L, hs with
    | [w0], _ => exact ⟨w0, rfl⟩
  have hw := fun d (hd : d ∈ tables_1) => atoms_spec (ws := Jvm.Cond.code x code maxLocals ret :: tables_1) hat d (List.mem_cons_of_mem _ hd)
  obtain ⟨k0, e0⟩ := is_v h2
  obtain rfl : w0 = (.int k0) := Option.some.inj e0
  obtain ⟨n, o, h1, h2, h3, _, L, rfl, ⟨rfl, N⟩, hq⟩ := rm0 l s _ hw k0 s.heap s.heap.size (Nat.le_refl _) tables_1 p e ha hc hk s m _ below hf ((Spec.applies_iff_loose hf).mp happ).1 ⟨rfl, State.Warmed39.refl s, rfl⟩ trivial
  refine ⟨n, _, h1, h2, h3, hpost _ _ _ _ _ _ ⟨Cond.after_iff.mpr rfl, Cond.after_iff.mpr (eq_i res_at (Term.int_eval (1)) rfl), trivial⟩ ⟨hq.1, hq.2.1, (hq.2.2.sift fun y hy => Or.inr (N y hy)).mono (by decide) (by decide)⟩⟩
theorem main_1_1 : Claimed_1_1 := comes_1 fun _ _ _ _ _ _ h hF => ⟨h.1, hF⟩
theorem main_1_2 : Claimed_1_2 := comes_1 fun _ _ _ _ _ _ h hF => ⟨h.2.1, hF⟩
end Jvm.Pilot.@@N@@
namespace Jvm.Pilot.@@N@@
open Jvm Jvm.ClassFile Sem Op Lib Jvm.Free Jvm.Stand Jvm.Pilot.@@N@@.Jvm.D
/-! MADE BY PROGRAM (witnessworld.py) out of the Statement's table words and the real class files: 9 classes; the members and pool entries that the words name. The judged class is class 1, her method 2. -/
namespace start1
open Jvm.ClassFile
def u (s : String) : CpInfo := .utf8 (stringToUtf16 s)
/-- a pool by its gaps: so many unusable entries, then the entry; so many at the end -/
def gap : Nat → List CpInfo → List CpInfo
  | 0, r => r
  | n + 1, r => .unusable :: gap n r
def poolList (es : List (Nat × CpInfo)) (last : Nat) : List CpInfo := es.foldr (fun e r => gap e.1 (e.2 :: r)) (gap last [])
def pool (es : List (Nat × CpInfo)) (last : Nat) : Array CpInfo := ⟨poolList es last⟩
def fileOf (pool : Array CpInfo) (this : Nat) (attrs : Array Attribute := #[]) (ms : Array MethodInfo := #[]) (fl : Nat := 33) (sup : Nat := 0) (ifs : Array Nat := #[]) (fds : Array FieldInfo := #[]) : ClassFile where
  minorVersion := 0
  majorVersion := 65
  constantPool := pool
  accessFlags := fl
  thisClass := this
  superClass := sup
  interfaces := ifs
  fields := fds
  methods := ms
  attributes := attrs
def plain (name : String) (sup : Option ClassId) : Class where
  name := name
  kind := .ordinary
  loader := none
  accessFlags := 33
  super := sup
  interfaces := #[]
  cf := none
  fields := #[]
  methods := #[]
  instanceTypes := #[]
  staticTypes := #[]
  resolved := #[]
  callSites := []
  init := .initialized
  statics := none
  mirror := none

def pool0 : Array CpInfo := pool [(5, u "<init>"), (0, u "()V"), (1, .class_ 10), (1, u "java/lang/Object")] 113

def k0m0 : Method := { name := "<init>", desc := "()V", sig := { parameters := [], returnType := none }, accessFlags := 1, code := none }
/-- java/lang/Object -/
def k0 : Class := { plain "java/lang/Object" none with
  accessFlags := 33
  interfaces := #[]
  cf := some (fileOf pool0 8 #[] #[{ accessFlags := 1, nameIndex := 5, descriptorIndex := 6, attributes := #[] }] 33 0 #[] #[])
  fields := #[]
  methods := #[k0m0]
  instanceTypes := #[]
  staticTypes := #[]
  resolved := Array.replicate 124 none
  statics := none }

def pool1 : Array CpInfo := pool [(2, .class_ 4), (1, u "java/lang/Object"), (0, u "<init>"), (0, u "()V"), (0, .long 97), (1, .long 26), (1, .methodref 12 13), (0, .class_ 14), (0, .nameAndType 15 16), (0, u "com/example/feuillet/feuillet/cda/internal/DocumentNames"), (0, u "isNameStart"), (0, u "(I)Z"), (0, .methodref 18 19), (0, .class_ 20), (0, .nameAndType 21 16), (0, u "com/example/feuillet/feuillet/cda/internal/DocumentNamesIsNameStartPinLaw"), (0, u "reference"), (3, u "law")] 2

def k1m0 : Method := { name := "<init>", desc := "()V", sig := { parameters := [], returnType := none }, accessFlags := 1, code := none }
def k1c1 : Code := { maxStack := 4, maxLocals := 3, code := method_2_code, exceptionTable := #[], attributes := #[] }
def k1m1 : Method := { name := "reference", desc := "(I)Z", sig := { parameters := [.int], returnType := some .boolean }, accessFlags := 10, code := some k1c1 }
def k1c2 : Code := { maxStack := 2, maxLocals := 1, code := code, exceptionTable := #[], attributes := #[] }
def k1m2 : Method := { name := "law", desc := "(I)Z", sig := { parameters := [.int], returnType := some .boolean }, accessFlags := 9, code := some k1c2 }
/-- com/example/feuillet/feuillet/cda/internal/DocumentNamesIsNameStartPinLaw -/
def k1 : Class := { plain "com/example/feuillet/feuillet/cda/internal/DocumentNamesIsNameStartPinLaw" (some 0) with
  accessFlags := 49
  interfaces := #[]
  cf := some (fileOf pool1 18 #[] #[{ accessFlags := 1, nameIndex := 5, descriptorIndex := 6, attributes := #[] }, { accessFlags := 10, nameIndex := 21, descriptorIndex := 16, attributes := #[] }, { accessFlags := 9, nameIndex := 25, descriptorIndex := 16, attributes := #[] }] 49 2 #[] #[])
  fields := #[]
  methods := #[k1m0, k1m1, k1m2]
  instanceTypes := #[]
  staticTypes := #[]
  resolved := Array.replicate 28 none
  statics := none }

def pool2 : Array CpInfo := pool [(2, .class_ 4), (1, u "java/lang/Object"), (0, u "<init>"), (0, u "()V"), (0, .class_ 8), (0, u "com/example/feuillet/feuillet/cda/internal/DocumentNames$Name"), (1, .class_ 12), (1, u "com/example/feuillet/feuillet/cda/internal/DocumentNames"), (0, u "table"), (0, u "[Lcom/example/feuillet/feuillet/cda/internal/DocumentNames$Name;"), (4, u "spellings"), (0, u "[[B"), (5, u "namespaces"), (0, u "Ljava/util/Map;"), (10, u "count"), (0, u "I"), (60, u "isNameStart"), (0, u "(I)Z"), (21, u "MAX_PROBES"), (2, u "MAX_KEPT")] 17

def k2m0 : Method := { name := "<init>", desc := "()V", sig := { parameters := [], returnType := none }, accessFlags := 0, code := none }
def k2c1 : Code := { maxStack := 2, maxLocals := 1, code := prog_43_method_6_code, exceptionTable := #[], attributes := #[] }
def k2m1 : Method := { name := "isNameStart", desc := "(I)Z", sig := { parameters := [.int], returnType := some .boolean }, accessFlags := 8, code := some k2c1 }
/-- com/example/feuillet/feuillet/cda/internal/DocumentNames -/
def k2 : Class := { plain "com/example/feuillet/feuillet/cda/internal/DocumentNames" (some 0) with
  accessFlags := 48
  interfaces := #[]
  cf := some (fileOf pool2 10 #[.nestMembers #[7]] #[{ accessFlags := 0, nameIndex := 5, descriptorIndex := 6, attributes := #[] }, { accessFlags := 8, nameIndex := 100, descriptorIndex := 101, attributes := #[] }] 48 2 #[] #[{ accessFlags := 26, nameIndex := 123, descriptorIndex := 39, attributes := #[] }, { accessFlags := 24, nameIndex := 126, descriptorIndex := 39, attributes := #[] }, { accessFlags := 2, nameIndex := 13, descriptorIndex := 14, attributes := #[] }, { accessFlags := 2, nameIndex := 19, descriptorIndex := 20, attributes := #[] }, { accessFlags := 2, nameIndex := 38, descriptorIndex := 39, attributes := #[] }, { accessFlags := 18, nameIndex := 26, descriptorIndex := 27, attributes := #[] }])
  fields := #[{ name := "MAX_PROBES", type := .int, accessFlags := 26, slot := 0, constantValue := 0 }, { name := "MAX_KEPT", type := .int, accessFlags := 24, slot := 1, constantValue := 0 }, { name := "table", type := (.array (.object "com/example/feuillet/feuillet/cda/internal/DocumentNames$Name")), accessFlags := 2, slot := 0, constantValue := 0 }, { name := "spellings", type := (.array (.array .byte)), accessFlags := 2, slot := 1, constantValue := 0 }, { name := "count", type := .int, accessFlags := 2, slot := 2, constantValue := 0 }, { name := "namespaces", type := (.object "java/util/Map"), accessFlags := 18, slot := 3, constantValue := 0 }]
  methods := #[k2m0, k2m1]
  instanceTypes := #[(.array (.object "com/example/feuillet/feuillet/cda/internal/DocumentNames$Name")), (.array (.array .byte)), .int, (.object "java/util/Map")]
  staticTypes := #[.int, .int]
  resolved := Array.replicate 144 none
  statics := none }

def pool3 : Array CpInfo := pool [(1, u "java/lang/Cloneable"), (0, .class_ 1), (0, u "java/lang/Object"), (0, .class_ 3)] 3

/-- java/lang/Cloneable -/
def k3 : Class := { plain "java/lang/Cloneable" (some 0) with
  accessFlags := 1537
  interfaces := #[]
  cf := some (fileOf pool3 2 #[] #[] 1537 4 #[] #[])
  fields := #[]
  methods := #[]
  instanceTypes := #[]
  staticTypes := #[]
  resolved := Array.replicate 8 none
  statics := none }

def pool4 : Array CpInfo := pool [(1, u "java/io/Serializable"), (0, .class_ 1), (0, u "java/lang/Object"), (0, .class_ 3)] 3

/-- java/io/Serializable -/
def k4 : Class := { plain "java/io/Serializable" (some 0) with
  accessFlags := 1537
  interfaces := #[]
  cf := some (fileOf pool4 2 #[] #[] 1537 4 #[] #[])
  fields := #[]
  methods := #[]
  instanceTypes := #[]
  staticTypes := #[]
  resolved := Array.replicate 8 none
  statics := none }

/-- the primitive byte -/
def k5 : Class := { plain "byte" none with kind := .primitive 'B', accessFlags := 0x411 }
/-- [B -/
def k6 : Class := { plain "[B" (some 0) with kind := .array 5 .byte, interfaces := #[3, 4], accessFlags := 1041 }

/-- the primitive int -/
def k7 : Class := { plain "int" none with kind := .primitive 'I', accessFlags := 0x411 }
/-- [I -/
def k8 : Class := { plain "[I" (some 0) with kind := .array 7 .int, interfaces := #[3, 4], accessFlags := 1041 }

def heap : Heap := #[]
def classes : Array Class := #[k0, k1, k2, k3, k4, k5, k6, k7, k8]
def interned : List (Array UInt16 × Addr) := []
def slotsUsed : Nat := 0
def theMethod : MethodId := ⟨1, 2⟩
def args0 : Array Value := #[.int 5]
def aboutOver (below : List Frame) : State where
  vm := { classes := classes, interned := interned.toArray }
  heap := heap
  slotsUsed := slotsUsed
  threads := #[{ frames := .invoking theMethod args0 :: below }]
def below0 : List Frame := [.native { method := ⟨0, 0⟩, args := #[] }]
def about1 : State := aboutOver below0
def p0 : Program := .bare "" "" ""
def e0 : Env := launch0.env 0 0 0
theorem w_frames : about1.frames = Frame.invoking theMethod args0 :: below0 := rfl
set_option maxRecDepth 65536 in
theorem w_args : argsFit about1.vm theMethod args0 = true := by decide +kernel
set_option maxRecDepth 65536 in
theorem w_heap : heapFits about1 = true := by decide +kernel
set_option maxRecDepth 65536 in
theorem w_runnable : about1.curStatus? = some .runnable := by decide +kernel
set_option maxRecDepth 65536 in
theorem w_alone : about1.alone = true := by decide +kernel
set_option maxRecDepth 65536 in
theorem w_named : about1.methodNamed? x = some theMethod := by decide +kernel
set_option maxRecDepth 65536 in
theorem w_hears : about1.hears theMethod below0 = true := by decide +kernel
set_option maxRecDepth 65536 in
theorem w_ripe : about1.ripe theMethod args0 below0 = true := by decide +kernel
theorem w_running : about1.status = .running := rfl
set_option maxRecDepth 65536 in
theorem w_room : about1.hasRoom e0.platform room_1 = true :=
  launch0.hasRoom_least _ room_1 (by decide +kernel) (by decide +kernel) (by decide +kernel) (by decide +kernel) (by decide +kernel) (by decide +kernel)
theorem allAtoms_all (ts : List Jvm.Cond) (a : Array Jvm.Value) (st : Jvm.State) : (allAtoms ts).before a st = ts.all (fun c => c.before a st) := by
  induction ts with
  | nil => rfl
  | cons c t ih =>
    show (Jvm.Cond.and c (allAtoms t)).before a st = _
    rw [Jvm.Cond.before_and, ih, List.all_cons]
def words1 : List Jvm.Cond := Jvm.Cond.code x code maxLocals ret :: tables_1
/-- a 'code' word, met by the world's own term for the bytes: nothing is compared byte by byte -/
theorem code_word {y : MethodName} {bytes : ByteArray} {mx : Nat} {rt : Option FieldType} {a : Array Value} {s : State} {m : MethodId} {meth : Method} {c : Code} (h1 : s.methodNamed? y = some m) (h2 : s.vm.method? m = some meth) (h3 : meth.code = some c) (h4 : c.code = bytes)
    (h5 : (c.maxLocals == mx && c.exceptionTable.isEmpty && decide (c.maxStack ≤ mostOperands) && decide (meth.sig.returnType = rt) && !meth.locks && decide (parseMethodDescriptor y.desc = some meth.sig)) = true) : (Jvm.Cond.code y bytes mx rt).before a s = true := by
  simp only [Bool.and_eq_true, beq_iff_eq, Bool.not_eq_true', decide_eq_true_eq] at h5
  obtain ⟨⟨⟨⟨⟨g1, g2⟩, g3⟩, g4⟩, g5⟩, g6⟩ := h5
  simp [Cond.before, Cond.holds, Cond.value, h1, h2, h3, h4, g1, g2, g3, g4, g5, g6]
def isCode : Jvm.Cond → Bool
  | .code _ _ _ _ => true
  | _ => false
theorem all_split {L : List Jvm.Cond} {P : Jvm.Cond → Bool} (h1 : L.all (fun c => isCode c || P c) = true) (h2 : ∀ c ∈ L.filter isCode, P c = true) : L.all P = true := by
  refine List.all_eq_true.mpr fun c hc => ?_
  have h := List.all_eq_true.mp h1 c hc
  rcases Bool.eq_false_or_eq_true (isCode c) with hi | hi
  · exact h2 c (List.mem_filter.mpr ⟨hc, hi⟩)
  · simpa [hi] using h
set_option maxRecDepth 65536 in
theorem w_c0 : (Jvm.Cond.code x code maxLocals ret).before args0 about1 = true := code_word (m := ⟨1, 2⟩) (meth := k1m2) (c := k1c2) (by decide +kernel) rfl rfl rfl (by decide +kernel)
set_option maxRecDepth 65536 in
theorem w_c1 : (Jvm.Cond.code ({ cls := "com/example/feuillet/feuillet/cda/internal/DocumentNames", name := "isNameStart", desc := "(I)Z" } : Jvm.MethodName) prog_43_method_6_code (1 : Nat) (Option.some Jvm.ClassFile.FieldType.boolean)).before args0 about1 = true := code_word (m := ⟨2, 1⟩) (meth := k2m1) (c := k2c1) (by decide +kernel) rfl rfl rfl (by decide +kernel)
set_option maxRecDepth 65536 in
theorem w_c2 : (Jvm.Cond.code ({ cls := "com/example/feuillet/feuillet/cda/internal/DocumentNamesIsNameStartPinLaw", name := "reference", desc := "(I)Z" } : Jvm.MethodName) method_2_code (3 : Nat) (Option.some Jvm.ClassFile.FieldType.boolean)).before args0 about1 = true := code_word (m := ⟨1, 1⟩) (meth := k1m1) (c := k1c1) (by decide +kernel) rfl rfl rfl (by decide +kernel)
def codes1 : List Jvm.Cond := [Jvm.Cond.code x code maxLocals ret, Jvm.Cond.code ({ cls := "com/example/feuillet/feuillet/cda/internal/DocumentNames", name := "isNameStart", desc := "(I)Z" } : Jvm.MethodName) prog_43_method_6_code (1 : Nat) (Option.some Jvm.ClassFile.FieldType.boolean), Jvm.Cond.code ({ cls := "com/example/feuillet/feuillet/cda/internal/DocumentNamesIsNameStartPinLaw", name := "reference", desc := "(I)Z" } : Jvm.MethodName) method_2_code (3 : Nat) (Option.some Jvm.ClassFile.FieldType.boolean)]
set_option maxRecDepth 65536 in
theorem codes_eq : words1.filter isCode = codes1 := rfl
theorem w_codes : ∀ c ∈ words1.filter isCode, c.before args0 about1 = true := by
  rw [codes_eq]
  intro c hc
  simp only [codes1, List.mem_cons, List.not_mem_nil, or_false] at hc
  rcases hc with rfl | rfl | rfl
  · exact w_c0
  · exact w_c1
  · exact w_c2
set_option maxRecDepth 65536 in
theorem w_t1 : words1.all (fun c => isCode c || c.before args0 about1) = true := by decide +kernel
theorem w_tables : (allAtoms (Jvm.Cond.code x code maxLocals ret :: tables_1)).before args0 about1 = true := by
  rw [allAtoms_all]
  show words1.all (fun c => c.before args0 about1) = true
  refine all_split ?_ w_codes
  rw [w_t1]
set_option maxRecDepth 65536 in
theorem w_case : (Jvm.Cond.and given_1 narrow_1).before args0 about1 = true := by decide +kernel
theorem w_applies : (headSpec (Jvm.Cond.code x code maxLocals ret :: tables_1) room_1).applies x e0.platform about1 = true :=
  (Spec.applies_iff w_frames).mpr ⟨w_running, w_runnable, w_alone, w_named, w_hears, w_ripe, w_room, w_tables⟩
theorem atStart : AtStart classFile x code maxLocals ret World_1 tables_1 room_1 Calls_1 rest_1 Pre_1 launch0 p0 e0 about1 theMethod args0 below0 :=
  ⟨lists_1, trivial, launch0.admits_env _ _ _, launch0.least_env, fairChoices_fair.cas, fairChoices_fair.clock, w_frames, w_args, w_heap, w_applies, trivial, trivial, w_case⟩
end start1
theorem witness_1 : WitnessClaimed_1 := ⟨start1.p0, start1.e0, start1.about1, start1.theMethod, start1.args0, start1.below0, start1.atStart⟩
end Jvm.Pilot.@@N@@
