import JvmDerived
import JvmDerived.Pilot.@@N@@Statement
import JvmDerived.Pilot.@@N@@Code
set_option linter.unusedVariables false
set_option linter.unusedSimpArgs false
namespace Jvm.Own
open Sem ClassFile Op Lib Jvm.Stand Jvm.Free Jvm.LawKit Jvm.RoadKit
section Lay
variable {p : Program} {l : Launch} {e : Env} {R : Room} {s : State} {m : MethodId} {args : Array Value} {below : List Frame} {meth : Method} {c : Code} {T T' : State} {cells slots n0 : Nat} {Z : State} {a0 : Array Value} {h h' : Heap} {Rest : State → Outcome → Prop} {pc pc' : Nat} {L L' : Array Slot} {S : List Value} {f f' : JFrame} {bytes : ByteArray} {maxL : Nat} {ret : Option FieldType} {own nme : String}
/-- the run stands here: a Stand whose written places are all new -/
def St (p : Program) (l : Launch) (e : Env) (R : Room) (s : State) (m : MethodId) (args : Array Value) (below : List Frame) (meth : Method) (c : Code) (n0 : Nat) (T : State) (h : Heap) (cells slots : Nat) : Prop := ∃ locs, Stand p l e R s m args below meth c T locs cells slots ∧ Fr n0 locs ∧ T.heap = h
def Cx (p : Program) (s : State) (m : MethodId) (meth : Method) (c : Code) (Z : State) (bytes : ByteArray) (maxL : Nat) (ret : Option FieldType) (own nme : String) : Prop := p.tables.exec = Jvm.exec ∧ c.code = bytes ∧ c.maxLocals = maxL ∧ meth.sig.returnType = ret ∧ meth.locks = false ∧ s.vm.findClass own = some m.cls ∧ meth.name = nme ∧ Z.Warmed39 s.vm
def Go (p : Program) (e : Env) (below : List Frame) (Rest : State → Outcome → Prop) (T : State) (f : JFrame) : Prop := ∃ t o, Steps p.tables e below (T.setTop f) t ∧ Rest t o
theorem go_by (st : ∀ t, Steps p.tables e below (T'.setTop f') t → Steps p.tables e below (T.setTop f) t) (k : Go p e below Rest T' f') : Go p e below Rest T f := by
  obtain ⟨t, o, h1, h2⟩ := k; exact ⟨t, o, st t h1, h2⟩
theorem go_tr (st : Steps p.tables e below (T.setTop f) (T'.setTop f')) (k : Go p e below Rest T' f') : Go p e below Rest T f := by
  obtain ⟨t, o, h1, h2⟩ := k; exact ⟨t, o, st.trans h1, h2⟩
theorem go_cast (q : f = f') (k : Go p e below Rest T f') : Go p e below Rest T f := q ▸ k
abbrev Rs (s : State) (below : List Frame) (n0 : Nat) (Q : Option Value → Heap → Prop) (k n : Nat) : State → Outcome → Prop := fun t o => t.status = .running ∧ Ended t below o ∧ ∃ v L, o = .returned v ∧ (Q v t.heap ∧ Fr n0 L) ∧ FrameEnd s o t L k n
abbrev Ctr (l : Launch) (y : MethodName) (bytes : ByteArray) (maxL : Nat) (ret : Option FieldType) (rm : Room) (Z : State) (n0 : Nat) (as : Array Value) (h : Heap) (Q : Option Value → Heap → Prop) (ws : List Jvm.Cond) : Prop :=
  MetFree l y (head1 (Jvm.Cond.code y bytes maxL ret :: ws) rm) (fun a U => a = as ∧ Z.Warmed39 U.vm ∧ U.heap = h) (fun _ _ _ _ _ => True) (fun _ U o U' => ∃ v L, o = .returned v ∧ (Q v U'.heap ∧ Fr n0 L) ∧ FrameEnd U o U' L rm.cells rm.slots)
theorem ctr_of {y : MethodName} {rm : Room} {as : Array Value} {Q : Option Value → Heap → Prop} {ws : List Jvm.Cond} (hpn : plainFor y = true)
    (body : ∀ p e s m below meth c s₁, St p l e rm s m as below meth c n0 s₁ h 0 0 → Cx p s m meth c Z bytes maxL ret y.cls y.name → Go p e below (Rs s below n0 Q rm.cells rm.slots) s₁ (entryFrame m as maxL)) :
    Ctr l y bytes maxL ret rm Z n0 as h Q ws := by
  refine MetFree.of_bodySF hpn hisR ?_
  intro p e s m args below meth c s₁ Bd hml0 hP hK
  obtain ⟨rfl, hZ, hh⟩ := hP
  have hown := findClass_of_methodNamed Bd.named
  have hnm := (name_of_methodNamed Bd.named Bd.method).1
  have X0 : Stand p l e rm s m args below meth c s₁ [] 0 0 := Stand.of_body Bd
  have e0 : s₁.heap = h := by rw [← hh, Bd.state]; rfl
  obtain ⟨t, o, h1, h2, h3, h4⟩ := body p e s m below meth c s₁ ⟨[], X0, Fr.nil n0, e0⟩ ⟨Bd.exec, Bd.bytes, hml0, Bd.returns, Bd.notSynchronized, hown, hnm, hZ⟩
  exact ⟨t, o, h1, h2, h3, h4⟩
theorem g_iload (X : St p l e R s m args below meth c n0 T h cells slots) (C : Cx p s m meth c Z bytes maxL ret own nme) {k : Nat} {v : Int32} (hd : decode bytes pc = .ok (.iload k, 2)) (hl : L[k]? = some (.val (.int v))) (hp : pc + 2 = pc') (r : Go p e below Rest T (mkF m pc' L (.int v :: S))) : Go p e below Rest T (mkF m pc L S) := by
  obtain ⟨_, X, -, -⟩ := X; obtain ⟨hx, hby, -⟩ := C; subst hp
  exact go_by (fun t k => XS.iload X.here hx rfl (hb hby hd) hl k) r
theorem g_iloadN (X : St p l e R s m args below meth c n0 T h cells slots) (C : Cx p s m meth c Z bytes maxL ret own nme) {k : Fin 4} {v : Int32} (hd : decode bytes pc = .ok (.iload_n k, 1)) (hl : L[k.val]? = some (.val (.int v))) (hp : pc + 1 = pc') (r : Go p e below Rest T (mkF m pc' L (.int v :: S))) : Go p e below Rest T (mkF m pc L S) := by
  obtain ⟨_, X, -, -⟩ := X; obtain ⟨hx, hby, -⟩ := C; subst hp
  exact go_by (fun t k => XS.iloadN X.here hx rfl (hb hby hd) hl k) r
theorem g_istore (X : St p l e R s m args below meth c n0 T h cells slots) (C : Cx p s m meth c Z bytes maxL ret own nme) {k : Nat} {v v' : Int32} (hd : decode bytes pc = .ok (.istore k, 2)) (hv : v' = v) (hl : storeLocals L k (.int v') = some L') (hp : pc + 2 = pc') (r : Go p e below Rest T (mkF m pc' L' S)) : Go p e below Rest T (mkF m pc L (.int v :: S)) := by
  obtain ⟨_, X, -, -⟩ := X; obtain ⟨hx, hby, -⟩ := C; subst hp
  exact go_by (fun t k => XS.istore X.here hx rfl (hb hby hd) rfl (hv ▸ hl) k) r
theorem g_istoreN (X : St p l e R s m args below meth c n0 T h cells slots) (C : Cx p s m meth c Z bytes maxL ret own nme) {k : Fin 4} {v v' : Int32} (hd : decode bytes pc = .ok (.istore_n k, 1)) (hv : v' = v) (hl : storeLocals L k.val (.int v') = some L') (hp : pc + 1 = pc') (r : Go p e below Rest T (mkF m pc' L' S)) : Go p e below Rest T (mkF m pc L (.int v :: S)) := by
  obtain ⟨_, X, -, -⟩ := X; obtain ⟨hx, hby, -⟩ := C; subst hp
  exact go_by (fun t k => XS.istoreN X.here hx rfl (hb hby hd) rfl (hv ▸ hl) k) r
theorem g_lload (X : St p l e R s m args below meth c n0 T h cells slots) (C : Cx p s m meth c Z bytes maxL ret own nme) {k : Nat} {v : Int64} (hd : decode bytes pc = .ok (.lload k, 2)) (hl : L[k]? = some (.val (.long v))) (hp : pc + 2 = pc') (r : Go p e below Rest T (mkF m pc' L (.long v :: S))) : Go p e below Rest T (mkF m pc L S) := by
  obtain ⟨_, X, -, -⟩ := X; obtain ⟨hx, hby, -⟩ := C; subst hp
  exact go_by (fun t k => XS.lload X.here hx rfl (hb hby hd) hl k) r
theorem g_lloadN (X : St p l e R s m args below meth c n0 T h cells slots) (C : Cx p s m meth c Z bytes maxL ret own nme) {k : Fin 4} {v : Int64} (hd : decode bytes pc = .ok (.lload_n k, 1)) (hl : L[k.val]? = some (.val (.long v))) (hp : pc + 1 = pc') (r : Go p e below Rest T (mkF m pc' L (.long v :: S))) : Go p e below Rest T (mkF m pc L S) := by
  obtain ⟨_, X, -, -⟩ := X; obtain ⟨hx, hby, -⟩ := C; subst hp
  exact go_by (fun t k => XS.lloadN X.here hx rfl (hb hby hd) hl k) r
theorem g_lstore (X : St p l e R s m args below meth c n0 T h cells slots) (C : Cx p s m meth c Z bytes maxL ret own nme) {k : Nat} {v v' : Int64} (hd : decode bytes pc = .ok (.lstore k, 2)) (hv : v' = v) (hl : storeLocals L k (.long v') = some L') (hp : pc + 2 = pc') (r : Go p e below Rest T (mkF m pc' L' S)) : Go p e below Rest T (mkF m pc L (.long v :: S)) := by
  obtain ⟨_, X, -, -⟩ := X; obtain ⟨hx, hby, -⟩ := C; subst hp
  exact go_by (fun t k => XS.lstore X.here hx rfl (hb hby hd) rfl (hv ▸ hl) k) r
theorem g_lstoreN (X : St p l e R s m args below meth c n0 T h cells slots) (C : Cx p s m meth c Z bytes maxL ret own nme) {k : Fin 4} {v v' : Int64} (hd : decode bytes pc = .ok (.lstore_n k, 1)) (hv : v' = v) (hl : storeLocals L k.val (.long v') = some L') (hp : pc + 1 = pc') (r : Go p e below Rest T (mkF m pc' L' S)) : Go p e below Rest T (mkF m pc L (.long v :: S)) := by
  obtain ⟨_, X, -, -⟩ := X; obtain ⟨hx, hby, -⟩ := C; subst hp
  exact go_by (fun t k => XS.lstoreN X.here hx rfl (hb hby hd) rfl (hv ▸ hl) k) r
theorem g_aload (X : St p l e R s m args below meth c n0 T h cells slots) (C : Cx p s m meth c Z bytes maxL ret own nme) {k : Nat} {v : Value} (hd : decode bytes pc = .ok (.aload k, 2)) (hl : L[k]? = some (.val v)) (hv : v.isRef = true) (hp : pc + 2 = pc') (r : Go p e below Rest T (mkF m pc' L (v :: S))) : Go p e below Rest T (mkF m pc L S) := by
  obtain ⟨_, X, -, -⟩ := X; obtain ⟨hx, hby, -⟩ := C; subst hp
  exact go_by (fun t k => XS.aload X.here hx rfl (hb hby hd) hl hv k) r
theorem g_aloadN (X : St p l e R s m args below meth c n0 T h cells slots) (C : Cx p s m meth c Z bytes maxL ret own nme) {k : Fin 4} {v : Value} (hd : decode bytes pc = .ok (.aload_n k, 1)) (hl : L[k.val]? = some (.val v)) (hv : v.isRef = true) (hp : pc + 1 = pc') (r : Go p e below Rest T (mkF m pc' L (v :: S))) : Go p e below Rest T (mkF m pc L S) := by
  obtain ⟨_, X, -, -⟩ := X; obtain ⟨hx, hby, -⟩ := C; subst hp
  exact go_by (fun t k => XS.aloadN X.here hx rfl (hb hby hd) hl hv k) r
theorem g_astore (X : St p l e R s m args below meth c n0 T h cells slots) (C : Cx p s m meth c Z bytes maxL ret own nme) {k : Nat} {v : Value} (hd : decode bytes pc = .ok (.astore k, 2)) (hv : v.isRef = true) (hl : storeLocals L k v = some L') (hp : pc + 2 = pc') (r : Go p e below Rest T (mkF m pc' L' S)) : Go p e below Rest T (mkF m pc L (v :: S)) := by
  obtain ⟨_, X, -, -⟩ := X; obtain ⟨hx, hby, -⟩ := C; subst hp
  exact go_by (fun t k => XS.astore X.here hx rfl (hb hby hd) rfl hv hl k) r
theorem g_astoreN (X : St p l e R s m args below meth c n0 T h cells slots) (C : Cx p s m meth c Z bytes maxL ret own nme) {k : Fin 4} {v : Value} (hd : decode bytes pc = .ok (.astore_n k, 1)) (hv : v.isRef = true) (hl : storeLocals L k.val v = some L') (hp : pc + 1 = pc') (r : Go p e below Rest T (mkF m pc' L' S)) : Go p e below Rest T (mkF m pc L (v :: S)) := by
  obtain ⟨_, X, -, -⟩ := X; obtain ⟨hx, hby, -⟩ := C; subst hp
  exact go_by (fun t k => XS.astoreN X.here hx rfl (hb hby hd) rfl hv hl k) r
theorem g_iconst (X : St p l e R s m args below meth c n0 T h cells slots) (C : Cx p s m meth c Z bytes maxL ret own nme) {i : Int} {v : Int32} (hd : decode bytes pc = .ok (.iconst i, 1)) (hv : Int32.ofInt i = v) (hp : pc + 1 = pc') (r : Go p e below Rest T (mkF m pc' L (.int v :: S))) : Go p e below Rest T (mkF m pc L S) := by
  obtain ⟨_, X, -, -⟩ := X; obtain ⟨hx, hby, -⟩ := C; subst hp hv
  exact go_by (fun t k => XS.iconst X.here hx rfl (hb hby hd) k) r
theorem g_bipush (X : St p l e R s m args below meth c n0 T h cells slots) (C : Cx p s m meth c Z bytes maxL ret own nme) {i : Int} {v : Int32} (hd : decode bytes pc = .ok (.bipush i, 2)) (hv : (Int8.ofInt i).toInt32 = v) (hp : pc + 2 = pc') (r : Go p e below Rest T (mkF m pc' L (.int v :: S))) : Go p e below Rest T (mkF m pc L S) := by
  obtain ⟨_, X, -, -⟩ := X; obtain ⟨hx, hby, -⟩ := C; subst hp hv
  exact go_by (fun t k => XS.bipush X.here hx rfl (hb hby hd) k) r
theorem g_sipush (X : St p l e R s m args below meth c n0 T h cells slots) (C : Cx p s m meth c Z bytes maxL ret own nme) {i : Int} {v : Int32} (hd : decode bytes pc = .ok (.sipush i, 3)) (hv : (Int16.ofInt i).toInt32 = v) (hp : pc + 3 = pc') (r : Go p e below Rest T (mkF m pc' L (.int v :: S))) : Go p e below Rest T (mkF m pc L S) := by
  obtain ⟨_, X, -, -⟩ := X; obtain ⟨hx, hby, -⟩ := C; subst hp hv
  exact go_by (fun t k => XS.sipush X.here hx rfl (hb hby hd) k) r
theorem g_lconst (X : St p l e R s m args below meth c n0 T h cells slots) (C : Cx p s m meth c Z bytes maxL ret own nme) {i : Fin 2} {v : Int64} (hd : decode bytes pc = .ok (.lconst i, 1)) (hv : Int64.ofNat i = v) (hp : pc + 1 = pc') (r : Go p e below Rest T (mkF m pc' L (.long v :: S))) : Go p e below Rest T (mkF m pc L S) := by
  obtain ⟨_, X, -, -⟩ := X; obtain ⟨hx, hby, -⟩ := C; subst hp hv
  exact go_by (fun t k => XS.lconst X.here hx rfl (hb hby hd) k) r
theorem g_aconst (X : St p l e R s m args below meth c n0 T h cells slots) (C : Cx p s m meth c Z bytes maxL ret own nme)  (hd : decode bytes pc = .ok (.aconst_null, 1))  (hp : pc + 1 = pc') (r : Go p e below Rest T (mkF m pc' L (.null :: S))) : Go p e below Rest T (mkF m pc L S) := by
  obtain ⟨_, X, -, -⟩ := X; obtain ⟨hx, hby, -⟩ := C; subst hp
  exact go_by (fun t k => XS.aconstNull X.here hx rfl (hb hby hd)  k) r
theorem g_iadd (X : St p l e R s m args below meth c n0 T h cells slots) (C : Cx p s m meth c Z bytes maxL ret own nme) {x y : Int32} (hd : decode bytes pc = .ok (.iadd, 1))  (hp : pc + 1 = pc') (r : Go p e below Rest T (mkF m pc' L (.int (x + y) :: S))) : Go p e below Rest T (mkF m pc L (.int y :: .int x :: S)) := by
  obtain ⟨_, X, -, -⟩ := X; obtain ⟨hx, hby, -⟩ := C; subst hp
  exact go_by (fun t k => XS.iadd X.here hx rfl (hb hby hd) rfl k) r
theorem g_ladd (X : St p l e R s m args below meth c n0 T h cells slots) (C : Cx p s m meth c Z bytes maxL ret own nme) {x y : Int64} (hd : decode bytes pc = .ok (.ladd, 1))  (hp : pc + 1 = pc') (r : Go p e below Rest T (mkF m pc' L (.long (x + y) :: S))) : Go p e below Rest T (mkF m pc L (.long y :: .long x :: S)) := by
  obtain ⟨_, X, -, -⟩ := X; obtain ⟨hx, hby, -⟩ := C; subst hp
  exact go_by (fun t k => XS.ladd X.here hx rfl (hb hby hd) rfl k) r
theorem g_isub (X : St p l e R s m args below meth c n0 T h cells slots) (C : Cx p s m meth c Z bytes maxL ret own nme) {x y : Int32} (hd : decode bytes pc = .ok (.isub, 1))  (hp : pc + 1 = pc') (r : Go p e below Rest T (mkF m pc' L (.int (x - y) :: S))) : Go p e below Rest T (mkF m pc L (.int y :: .int x :: S)) := by
  obtain ⟨_, X, -, -⟩ := X; obtain ⟨hx, hby, -⟩ := C; subst hp
  exact go_by (fun t k => XS.isub X.here hx rfl (hb hby hd) rfl k) r
theorem g_lsub (X : St p l e R s m args below meth c n0 T h cells slots) (C : Cx p s m meth c Z bytes maxL ret own nme) {x y : Int64} (hd : decode bytes pc = .ok (.lsub, 1))  (hp : pc + 1 = pc') (r : Go p e below Rest T (mkF m pc' L (.long (x - y) :: S))) : Go p e below Rest T (mkF m pc L (.long y :: .long x :: S)) := by
  obtain ⟨_, X, -, -⟩ := X; obtain ⟨hx, hby, -⟩ := C; subst hp
  exact go_by (fun t k => XS.lsub X.here hx rfl (hb hby hd) rfl k) r
theorem g_imul (X : St p l e R s m args below meth c n0 T h cells slots) (C : Cx p s m meth c Z bytes maxL ret own nme) {x y : Int32} (hd : decode bytes pc = .ok (.imul, 1))  (hp : pc + 1 = pc') (r : Go p e below Rest T (mkF m pc' L (.int (x * y) :: S))) : Go p e below Rest T (mkF m pc L (.int y :: .int x :: S)) := by
  obtain ⟨_, X, -, -⟩ := X; obtain ⟨hx, hby, -⟩ := C; subst hp
  exact go_by (fun t k => XS.imul X.here hx rfl (hb hby hd) rfl k) r
theorem g_lmul (X : St p l e R s m args below meth c n0 T h cells slots) (C : Cx p s m meth c Z bytes maxL ret own nme) {x y : Int64} (hd : decode bytes pc = .ok (.lmul, 1))  (hp : pc + 1 = pc') (r : Go p e below Rest T (mkF m pc' L (.long (x * y) :: S))) : Go p e below Rest T (mkF m pc L (.long y :: .long x :: S)) := by
  obtain ⟨_, X, -, -⟩ := X; obtain ⟨hx, hby, -⟩ := C; subst hp
  exact go_by (fun t k => XS.lmul X.here hx rfl (hb hby hd) rfl k) r
theorem g_iand (X : St p l e R s m args below meth c n0 T h cells slots) (C : Cx p s m meth c Z bytes maxL ret own nme) {x y : Int32} (hd : decode bytes pc = .ok (.iand, 1))  (hp : pc + 1 = pc') (r : Go p e below Rest T (mkF m pc' L (.int (x &&& y) :: S))) : Go p e below Rest T (mkF m pc L (.int y :: .int x :: S)) := by
  obtain ⟨_, X, -, -⟩ := X; obtain ⟨hx, hby, -⟩ := C; subst hp
  exact go_by (fun t k => XS.iand X.here hx rfl (hb hby hd) rfl k) r
theorem g_land (X : St p l e R s m args below meth c n0 T h cells slots) (C : Cx p s m meth c Z bytes maxL ret own nme) {x y : Int64} (hd : decode bytes pc = .ok (.land, 1))  (hp : pc + 1 = pc') (r : Go p e below Rest T (mkF m pc' L (.long (x &&& y) :: S))) : Go p e below Rest T (mkF m pc L (.long y :: .long x :: S)) := by
  obtain ⟨_, X, -, -⟩ := X; obtain ⟨hx, hby, -⟩ := C; subst hp
  exact go_by (fun t k => XS.land X.here hx rfl (hb hby hd) rfl k) r
theorem g_ior (X : St p l e R s m args below meth c n0 T h cells slots) (C : Cx p s m meth c Z bytes maxL ret own nme) {x y : Int32} (hd : decode bytes pc = .ok (.ior, 1))  (hp : pc + 1 = pc') (r : Go p e below Rest T (mkF m pc' L (.int (x ||| y) :: S))) : Go p e below Rest T (mkF m pc L (.int y :: .int x :: S)) := by
  obtain ⟨_, X, -, -⟩ := X; obtain ⟨hx, hby, -⟩ := C; subst hp
  exact go_by (fun t k => XS.ior X.here hx rfl (hb hby hd) rfl k) r
theorem g_lor (X : St p l e R s m args below meth c n0 T h cells slots) (C : Cx p s m meth c Z bytes maxL ret own nme) {x y : Int64} (hd : decode bytes pc = .ok (.lor, 1))  (hp : pc + 1 = pc') (r : Go p e below Rest T (mkF m pc' L (.long (x ||| y) :: S))) : Go p e below Rest T (mkF m pc L (.long y :: .long x :: S)) := by
  obtain ⟨_, X, -, -⟩ := X; obtain ⟨hx, hby, -⟩ := C; subst hp
  exact go_by (fun t k => XS.lor X.here hx rfl (hb hby hd) rfl k) r
theorem g_ixor (X : St p l e R s m args below meth c n0 T h cells slots) (C : Cx p s m meth c Z bytes maxL ret own nme) {x y : Int32} (hd : decode bytes pc = .ok (.ixor, 1))  (hp : pc + 1 = pc') (r : Go p e below Rest T (mkF m pc' L (.int (x ^^^ y) :: S))) : Go p e below Rest T (mkF m pc L (.int y :: .int x :: S)) := by
  obtain ⟨_, X, -, -⟩ := X; obtain ⟨hx, hby, -⟩ := C; subst hp
  exact go_by (fun t k => XS.ixor X.here hx rfl (hb hby hd) rfl k) r
theorem g_lxor (X : St p l e R s m args below meth c n0 T h cells slots) (C : Cx p s m meth c Z bytes maxL ret own nme) {x y : Int64} (hd : decode bytes pc = .ok (.lxor, 1))  (hp : pc + 1 = pc') (r : Go p e below Rest T (mkF m pc' L (.long (x ^^^ y) :: S))) : Go p e below Rest T (mkF m pc L (.long y :: .long x :: S)) := by
  obtain ⟨_, X, -, -⟩ := X; obtain ⟨hx, hby, -⟩ := C; subst hp
  exact go_by (fun t k => XS.lxor X.here hx rfl (hb hby hd) rfl k) r
theorem g_ishl (X : St p l e R s m args below meth c n0 T h cells slots) (C : Cx p s m meth c Z bytes maxL ret own nme) {x : Int32} {y : Int32} (hd : decode bytes pc = .ok (.ishl, 1))  (hp : pc + 1 = pc') (r : Go p e below Rest T (mkF m pc' L (.int (x <<< (y &&& 31)) :: S))) : Go p e below Rest T (mkF m pc L (.int y :: .int x :: S)) := by
  obtain ⟨_, X, -, -⟩ := X; obtain ⟨hx, hby, -⟩ := C; subst hp
  exact go_by (fun t k => XS.ishl X.here hx rfl (hb hby hd) rfl k) r
theorem g_ishr (X : St p l e R s m args below meth c n0 T h cells slots) (C : Cx p s m meth c Z bytes maxL ret own nme) {x : Int32} {y : Int32} (hd : decode bytes pc = .ok (.ishr, 1))  (hp : pc + 1 = pc') (r : Go p e below Rest T (mkF m pc' L (.int (x >>> (y &&& 31)) :: S))) : Go p e below Rest T (mkF m pc L (.int y :: .int x :: S)) := by
  obtain ⟨_, X, -, -⟩ := X; obtain ⟨hx, hby, -⟩ := C; subst hp
  exact go_by (fun t k => XS.ishr X.here hx rfl (hb hby hd) rfl k) r
theorem g_iushr (X : St p l e R s m args below meth c n0 T h cells slots) (C : Cx p s m meth c Z bytes maxL ret own nme) {x : Int32} {y : Int32} (hd : decode bytes pc = .ok (.iushr, 1))  (hp : pc + 1 = pc') (r : Go p e below Rest T (mkF m pc' L (.int ((x.toUInt32 >>> (y &&& 31).toUInt32).toInt32) :: S))) : Go p e below Rest T (mkF m pc L (.int y :: .int x :: S)) := by
  obtain ⟨_, X, -, -⟩ := X; obtain ⟨hx, hby, -⟩ := C; subst hp
  exact go_by (fun t k => XS.iushr X.here hx rfl (hb hby hd) rfl k) r
theorem g_lshl (X : St p l e R s m args below meth c n0 T h cells slots) (C : Cx p s m meth c Z bytes maxL ret own nme) {x : Int64} {y : Int32} (hd : decode bytes pc = .ok (.lshl, 1))  (hp : pc + 1 = pc') (r : Go p e below Rest T (mkF m pc' L (.long (x <<< (y &&& 0x3f).toInt64) :: S))) : Go p e below Rest T (mkF m pc L (.int y :: .long x :: S)) := by
  obtain ⟨_, X, -, -⟩ := X; obtain ⟨hx, hby, -⟩ := C; subst hp
  exact go_by (fun t k => XS.lshl X.here hx rfl (hb hby hd) rfl k) r
theorem g_lshr (X : St p l e R s m args below meth c n0 T h cells slots) (C : Cx p s m meth c Z bytes maxL ret own nme) {x : Int64} {y : Int32} (hd : decode bytes pc = .ok (.lshr, 1))  (hp : pc + 1 = pc') (r : Go p e below Rest T (mkF m pc' L (.long (x >>> (y &&& 0x3f).toInt64) :: S))) : Go p e below Rest T (mkF m pc L (.int y :: .long x :: S)) := by
  obtain ⟨_, X, -, -⟩ := X; obtain ⟨hx, hby, -⟩ := C; subst hp
  exact go_by (fun t k => XS.lshr X.here hx rfl (hb hby hd) rfl k) r
theorem g_lushr (X : St p l e R s m args below meth c n0 T h cells slots) (C : Cx p s m meth c Z bytes maxL ret own nme) {x : Int64} {y : Int32} (hd : decode bytes pc = .ok (.lushr, 1))  (hp : pc + 1 = pc') (r : Go p e below Rest T (mkF m pc' L (.long ((x.toUInt64 >>> (y &&& 0x3f).toInt64.toUInt64).toInt64) :: S))) : Go p e below Rest T (mkF m pc L (.int y :: .long x :: S)) := by
  obtain ⟨_, X, -, -⟩ := X; obtain ⟨hx, hby, -⟩ := C; subst hp
  exact go_by (fun t k => XS.lushr X.here hx rfl (hb hby hd) rfl k) r
theorem g_idiv (X : St p l e R s m args below meth c n0 T h cells slots) (C : Cx p s m meth c Z bytes maxL ret own nme) {x y : Int32} (hd : decode bytes pc = .ok (.idiv, 1)) (hy : y ≠ 0) (hp : pc + 1 = pc') (r : Go p e below Rest T (mkF m pc' L (.int (x / y) :: S))) : Go p e below Rest T (mkF m pc L (.int y :: .int x :: S)) := by
  obtain ⟨_, X, -, -⟩ := X; obtain ⟨hx, hby, -⟩ := C; subst hp
  exact go_by (fun t k => XS.idiv X.here hx rfl (hb hby hd) rfl hy k) r
theorem g_ldiv (X : St p l e R s m args below meth c n0 T h cells slots) (C : Cx p s m meth c Z bytes maxL ret own nme) {x y : Int64} (hd : decode bytes pc = .ok (.ldiv, 1)) (hy : y ≠ 0) (hp : pc + 1 = pc') (r : Go p e below Rest T (mkF m pc' L (.long (x / y) :: S))) : Go p e below Rest T (mkF m pc L (.long y :: .long x :: S)) := by
  obtain ⟨_, X, -, -⟩ := X; obtain ⟨hx, hby, -⟩ := C; subst hp
  exact go_by (fun t k => XS.ldiv X.here hx rfl (hb hby hd) rfl hy k) r
theorem g_ineg (X : St p l e R s m args below meth c n0 T h cells slots) (C : Cx p s m meth c Z bytes maxL ret own nme) {x : Int32} (hd : decode bytes pc = .ok (.ineg, 1))  (hp : pc + 1 = pc') (r : Go p e below Rest T (mkF m pc' L (.int ((-x)) :: S))) : Go p e below Rest T (mkF m pc L (.int x :: S)) := by
  obtain ⟨_, X, -, -⟩ := X; obtain ⟨hx, hby, -⟩ := C; subst hp
  exact go_by (fun t k => XS.ineg X.here hx rfl (hb hby hd) rfl k) r
theorem g_lneg (X : St p l e R s m args below meth c n0 T h cells slots) (C : Cx p s m meth c Z bytes maxL ret own nme) {x : Int64} (hd : decode bytes pc = .ok (.lneg, 1))  (hp : pc + 1 = pc') (r : Go p e below Rest T (mkF m pc' L (.long ((-x)) :: S))) : Go p e below Rest T (mkF m pc L (.long x :: S)) := by
  obtain ⟨_, X, -, -⟩ := X; obtain ⟨hx, hby, -⟩ := C; subst hp
  exact go_by (fun t k => XS.lneg X.here hx rfl (hb hby hd) rfl k) r
theorem g_i2l (X : St p l e R s m args below meth c n0 T h cells slots) (C : Cx p s m meth c Z bytes maxL ret own nme) {x : Int32} (hd : decode bytes pc = .ok (.i2l, 1))  (hp : pc + 1 = pc') (r : Go p e below Rest T (mkF m pc' L (.long (x.toInt64) :: S))) : Go p e below Rest T (mkF m pc L (.int x :: S)) := by
  obtain ⟨_, X, -, -⟩ := X; obtain ⟨hx, hby, -⟩ := C; subst hp
  exact go_by (fun t k => XS.i2l X.here hx rfl (hb hby hd) rfl k) r
theorem g_l2i (X : St p l e R s m args below meth c n0 T h cells slots) (C : Cx p s m meth c Z bytes maxL ret own nme) {x : Int64} (hd : decode bytes pc = .ok (.l2i, 1))  (hp : pc + 1 = pc') (r : Go p e below Rest T (mkF m pc' L (.int (x.toInt32) :: S))) : Go p e below Rest T (mkF m pc L (.long x :: S)) := by
  obtain ⟨_, X, -, -⟩ := X; obtain ⟨hx, hby, -⟩ := C; subst hp
  exact go_by (fun t k => XS.l2i X.here hx rfl (hb hby hd) rfl k) r
theorem g_i2b (X : St p l e R s m args below meth c n0 T h cells slots) (C : Cx p s m meth c Z bytes maxL ret own nme) {x : Int32} (hd : decode bytes pc = .ok (.i2b, 1))  (hp : pc + 1 = pc') (r : Go p e below Rest T (mkF m pc' L (.int (x.toInt8.toInt32) :: S))) : Go p e below Rest T (mkF m pc L (.int x :: S)) := by
  obtain ⟨_, X, -, -⟩ := X; obtain ⟨hx, hby, -⟩ := C; subst hp
  exact go_by (fun t k => XS.i2b X.here hx rfl (hb hby hd) rfl k) r
theorem g_i2s (X : St p l e R s m args below meth c n0 T h cells slots) (C : Cx p s m meth c Z bytes maxL ret own nme) {x : Int32} (hd : decode bytes pc = .ok (.i2s, 1))  (hp : pc + 1 = pc') (r : Go p e below Rest T (mkF m pc' L (.int (x.toInt16.toInt32) :: S))) : Go p e below Rest T (mkF m pc L (.int x :: S)) := by
  obtain ⟨_, X, -, -⟩ := X; obtain ⟨hx, hby, -⟩ := C; subst hp
  exact go_by (fun t k => XS.i2s X.here hx rfl (hb hby hd) rfl k) r
theorem g_i2c (X : St p l e R s m args below meth c n0 T h cells slots) (C : Cx p s m meth c Z bytes maxL ret own nme) {x : Int32} (hd : decode bytes pc = .ok (.i2c, 1))  (hp : pc + 1 = pc') (r : Go p e below Rest T (mkF m pc' L (.int (x.toUInt32.toUInt16.toUInt32.toInt32) :: S))) : Go p e below Rest T (mkF m pc L (.int x :: S)) := by
  obtain ⟨_, X, -, -⟩ := X; obtain ⟨hx, hby, -⟩ := C; subst hp
  exact go_by (fun t k => XS.i2c X.here hx rfl (hb hby hd) rfl k) r
theorem g_lcmp (X : St p l e R s m args below meth c n0 T h cells slots) (C : Cx p s m meth c Z bytes maxL ret own nme) {x y : Int64} (hd : decode bytes pc = .ok (.lcmp, 1))  (hp : pc + 1 = pc') (r : Go p e below Rest T (mkF m pc' L (.int (lcmpW x y) :: S))) : Go p e below Rest T (mkF m pc L (.long y :: .long x :: S)) := by
  obtain ⟨_, X, -, -⟩ := X; obtain ⟨hx, hby, -⟩ := C; subst hp
  exact go_by (fun t k => XS.lcmp X.here hx rfl (hb hby hd) rfl k) r
theorem g_dup (X : St p l e R s m args below meth c n0 T h cells slots) (C : Cx p s m meth c Z bytes maxL ret own nme) {x : Value} (hd : decode bytes pc = .ok (.dup, 1)) (hc : x.category = 1) (hp : pc + 1 = pc') (r : Go p e below Rest T (mkF m pc' L (x :: x :: S))) : Go p e below Rest T (mkF m pc L (x :: S)) := by
  obtain ⟨_, X, -, -⟩ := X; obtain ⟨hx, hby, -⟩ := C; subst hp
  exact go_by (fun t k => XS.dup X.here hx rfl (hb hby hd) rfl hc k) r
theorem g_pop (X : St p l e R s m args below meth c n0 T h cells slots) (C : Cx p s m meth c Z bytes maxL ret own nme) {x : Value} (hd : decode bytes pc = .ok (.pop, 1)) (hc : x.category = 1) (hp : pc + 1 = pc') (r : Go p e below Rest T (mkF m pc' L S)) : Go p e below Rest T (mkF m pc L (x :: S)) := by
  obtain ⟨_, X, -, -⟩ := X; obtain ⟨hx, hby, -⟩ := C; subst hp
  exact go_by (fun t k => XS.pop X.here hx rfl (hb hby hd) rfl hc k) r
theorem g_dupx1 (X : St p l e R s m args below meth c n0 T h cells slots) (C : Cx p s m meth c Z bytes maxL ret own nme) {x y : Value} (hd : decode bytes pc = .ok (.dup_x1, 1)) (hc : x.category = 1) (hc' : y.category = 1) (hp : pc + 1 = pc') (r : Go p e below Rest T (mkF m pc' L (x :: y :: x :: S))) : Go p e below Rest T (mkF m pc L (x :: y :: S)) := by
  obtain ⟨_, X, -, -⟩ := X; obtain ⟨hx, hby, -⟩ := C; subst hp
  exact go_by (fun t k => XS.dupX1 X.here hx rfl (hb hby hd) rfl hc hc' k) r
theorem g_dup2 (X : St p l e R s m args below meth c n0 T h cells slots) (C : Cx p s m meth c Z bytes maxL ret own nme) {x y : Value} (hd : decode bytes pc = .ok (.dup2, 1)) (hc : x.category = 1) (hc' : y.category = 1) (hp : pc + 1 = pc') (r : Go p e below Rest T (mkF m pc' L (x :: y :: x :: y :: S))) : Go p e below Rest T (mkF m pc L (x :: y :: S)) := by
  obtain ⟨_, X, -, -⟩ := X; obtain ⟨hx, hby, -⟩ := C; subst hp
  exact go_by (fun t k => XT.dup2 X.here hx rfl (hb hby hd) rfl hc hc' k) r
theorem g_dup2L (X : St p l e R s m args below meth c n0 T h cells slots) (C : Cx p s m meth c Z bytes maxL ret own nme) {x : Int64} (hd : decode bytes pc = .ok (.dup2, 1))  (hp : pc + 1 = pc') (r : Go p e below Rest T (mkF m pc' L (.long x :: .long x :: S))) : Go p e below Rest T (mkF m pc L (.long x :: S)) := by
  obtain ⟨_, X, -, -⟩ := X; obtain ⟨hx, hby, -⟩ := C; subst hp
  exact go_by (fun t k => XT.dup2L X.here hx rfl (hb hby hd) rfl k) r
theorem g_iinc (X : St p l e R s m args below meth c n0 T h cells slots) (C : Cx p s m meth c Z bytes maxL ret own nme) {k : Nat} {i : Int} {v v' : Int32} (hd : decode bytes pc = .ok (.iinc k i, 3)) (hl : L[k]? = some (.val (.int v))) (hv : v' = v + Int32.ofInt i) (hs : storeLocals L k (.int v') = some L') (hp : pc + 3 = pc') (r : Go p e below Rest T (mkF m pc' L' S)) : Go p e below Rest T (mkF m pc L S) := by
  obtain ⟨_, X, -, -⟩ := X; obtain ⟨hx, hby, -⟩ := C; subst hp
  exact go_by (fun t k => XS.iinc X.here hx rfl (hb hby hd) hl (hv ▸ hs) k) r
theorem g_goto (X : St p l e R s m args below meth c n0 T h cells slots) (C : Cx p s m meth c Z bytes maxL ret own nme) {o : Int} (hd : decode bytes pc = .ok (.goto o, 3)) (h0 : 0 ≤ (pc : Int) + o) (hp : ((pc : Int) + o).toNat = pc') (r : Go p e below Rest T (mkF m pc' L S)) : Go p e below Rest T (mkF m pc L S) := by
  obtain ⟨_, X, -, -⟩ := X; obtain ⟨hx, hby, -⟩ := C
  exact go_by (fun t k => XS.goto X.here hx rfl (pc0 := pc) rfl (hb hby hd) h0 hp k) r
theorem g_icmp (X : St p l e R s m args below meth c n0 T h cells slots) (C : Cx p s m meth c Z bytes maxL ret own nme) {cd : ClassFile.Cond} {o : Int} {x y : Int32} {pT pF : Nat} (hd : decode bytes pc = .ok (.if_icmp cd o, 3)) (h0 : 0 ≤ (pc : Int) + o) (hT : ((pc : Int) + o).toNat = pT) (hF : pc + 3 = pF) (r1 : if_icmp.holds cd x y = true → Go p e below Rest T (mkF m pT L S)) (r2 : if_icmp.holds cd x y = false → Go p e below Rest T (mkF m pF L S)) : Go p e below Rest T (mkF m pc L (.int y :: .int x :: S)) := by
  obtain ⟨_, X, -, -⟩ := X; obtain ⟨hx, hby, -⟩ := C
  rcases Bool.eq_false_or_eq_true (if_icmp.holds cd x y) with q | q
  · exact go_by (fun t k => XS.icmpYes X.here hx rfl (pc0 := pc) rfl (hb hby hd) rfl q h0 hT k) (r1 q)
  · subst hF; exact go_by (fun t k => XS.icmpNo X.here hx rfl (hb hby hd) rfl q k) (r2 q)
theorem g_if (X : St p l e R s m args below meth c n0 T h cells slots) (C : Cx p s m meth c Z bytes maxL ret own nme) {cd : ClassFile.Cond} {o : Int} {x : Int32} {pT pF : Nat} (hd : decode bytes pc = .ok (.ifCond cd o, 3)) (h0 : 0 ≤ (pc : Int) + o) (hT : ((pc : Int) + o).toNat = pT) (hF : pc + 3 = pF) (r1 : if_icmp.holds cd x 0 = true → Go p e below Rest T (mkF m pT L S)) (r2 : if_icmp.holds cd x 0 = false → Go p e below Rest T (mkF m pF L S)) : Go p e below Rest T (mkF m pc L (.int x :: S)) := by
  obtain ⟨_, X, -, -⟩ := X; obtain ⟨hx, hby, -⟩ := C
  rcases Bool.eq_false_or_eq_true (if_icmp.holds cd x 0) with q | q
  · exact go_by (fun t k => XS.ifYes X.here hx rfl (pc0 := pc) rfl (hb hby hd) rfl ((if0 _ _).trans q) h0 hT k) (r1 q)
  · subst hF; exact go_by (fun t k => XS.ifNo X.here hx rfl (hb hby hd) rfl ((if0 _ _).trans q) k) (r2 q)
theorem hold_lt {x y : Int32} {a b : Int} (ha : x.toInt = a) (hb' : y.toInt = b) : (if_icmp.holds .lt x y = true → a < b) ∧ (if_icmp.holds .lt x y = false → b ≤ a) := by
  subst ha hb'
  constructor <;> intro q <;> simp [if_icmp.holds, Int32.lt_iff_toInt_lt, Int32.le_iff_toInt_le, ← Int32.toInt_inj] at q <;> omega
theorem g_icmp_lt (X : St p l e R s m args below meth c n0 T h cells slots) (C : Cx p s m meth c Z bytes maxL ret own nme) {o : Int} {x y : Int32} {a b : Int} {pT pF : Nat} (hd : decode bytes pc = .ok (.if_icmp .lt o, 3)) (ha : x.toInt = a) (hb' : y.toInt = b) (h0 : 0 ≤ (pc : Int) + o) (hT : ((pc : Int) + o).toNat = pT) (hF : pc + 3 = pF) (r1 : a < b → Go p e below Rest T (mkF m pT L S)) (r2 : b ≤ a → Go p e below Rest T (mkF m pF L S)) : Go p e below Rest T (mkF m pc L (.int y :: .int x :: S)) :=
  g_icmp X C hd h0 hT hF (fun q => r1 ((hold_lt ha hb').1 q)) (fun q => r2 ((hold_lt ha hb').2 q))
theorem g_if_lt (X : St p l e R s m args below meth c n0 T h cells slots) (C : Cx p s m meth c Z bytes maxL ret own nme) {o : Int} {x : Int32} {a : Int} {pT pF : Nat} (hd : decode bytes pc = .ok (.ifCond .lt o, 3)) (ha : x.toInt = a) (h0 : 0 ≤ (pc : Int) + o) (hT : ((pc : Int) + o).toNat = pT) (hF : pc + 3 = pF) (r1 : a < 0 → Go p e below Rest T (mkF m pT L S)) (r2 : 0 ≤ a → Go p e below Rest T (mkF m pF L S)) : Go p e below Rest T (mkF m pc L (.int x :: S)) :=
  g_if X C hd h0 hT hF (fun q => r1 ((hold_lt ha (by decide)).1 q)) (fun q => r2 ((hold_lt ha (by decide)).2 q))
theorem hlc_lt {x y : Int64} {a b : Int} (ha : x.toInt = a) (hb' : y.toInt = b) : (if_icmp.holds .lt (lcmpW x y) 0 = true → a < b) ∧ (if_icmp.holds .lt (lcmpW x y) 0 = false → b ≤ a) := by
  have h1 := c_lcmp x y; subst ha hb'
  have h3 := hold_lt (x := lcmpW x y) (y := 0) rfl (b := 0) (by decide)
  refine ⟨fun q => ?_, fun q => ?_⟩
  · have := h3.1 q; omega
  · have := h3.2 q; omega
theorem g_lif_lt (X : St p l e R s m args below meth c n0 T h cells slots) (C : Cx p s m meth c Z bytes maxL ret own nme) {o : Int} {x y : Int64} {a b : Int} {pT pF : Nat} (hd : decode bytes pc = .ok (.ifCond .lt o, 3)) (ha : x.toInt = a) (hb' : y.toInt = b) (h0 : 0 ≤ (pc : Int) + o) (hT : ((pc : Int) + o).toNat = pT) (hF : pc + 3 = pF) (r1 : a < b → Go p e below Rest T (mkF m pT L S)) (r2 : b ≤ a → Go p e below Rest T (mkF m pF L S)) : Go p e below Rest T (mkF m pc L (.int (lcmpW x y) :: S)) :=
  g_if X C hd h0 hT hF (fun q => r1 ((hlc_lt ha hb').1 q)) (fun q => r2 ((hlc_lt ha hb').2 q))
theorem hold_ge {x y : Int32} {a b : Int} (ha : x.toInt = a) (hb' : y.toInt = b) : (if_icmp.holds .ge x y = true → b ≤ a) ∧ (if_icmp.holds .ge x y = false → a < b) := by
  subst ha hb'
  constructor <;> intro q <;> simp [if_icmp.holds, Int32.lt_iff_toInt_lt, Int32.le_iff_toInt_le, ← Int32.toInt_inj] at q <;> omega
theorem g_icmp_ge (X : St p l e R s m args below meth c n0 T h cells slots) (C : Cx p s m meth c Z bytes maxL ret own nme) {o : Int} {x y : Int32} {a b : Int} {pT pF : Nat} (hd : decode bytes pc = .ok (.if_icmp .ge o, 3)) (ha : x.toInt = a) (hb' : y.toInt = b) (h0 : 0 ≤ (pc : Int) + o) (hT : ((pc : Int) + o).toNat = pT) (hF : pc + 3 = pF) (r1 : b ≤ a → Go p e below Rest T (mkF m pT L S)) (r2 : a < b → Go p e below Rest T (mkF m pF L S)) : Go p e below Rest T (mkF m pc L (.int y :: .int x :: S)) :=
  g_icmp X C hd h0 hT hF (fun q => r1 ((hold_ge ha hb').1 q)) (fun q => r2 ((hold_ge ha hb').2 q))
theorem g_if_ge (X : St p l e R s m args below meth c n0 T h cells slots) (C : Cx p s m meth c Z bytes maxL ret own nme) {o : Int} {x : Int32} {a : Int} {pT pF : Nat} (hd : decode bytes pc = .ok (.ifCond .ge o, 3)) (ha : x.toInt = a) (h0 : 0 ≤ (pc : Int) + o) (hT : ((pc : Int) + o).toNat = pT) (hF : pc + 3 = pF) (r1 : 0 ≤ a → Go p e below Rest T (mkF m pT L S)) (r2 : a < 0 → Go p e below Rest T (mkF m pF L S)) : Go p e below Rest T (mkF m pc L (.int x :: S)) :=
  g_if X C hd h0 hT hF (fun q => r1 ((hold_ge ha (by decide)).1 q)) (fun q => r2 ((hold_ge ha (by decide)).2 q))
theorem hlc_ge {x y : Int64} {a b : Int} (ha : x.toInt = a) (hb' : y.toInt = b) : (if_icmp.holds .ge (lcmpW x y) 0 = true → b ≤ a) ∧ (if_icmp.holds .ge (lcmpW x y) 0 = false → a < b) := by
  have h1 := c_lcmp x y; subst ha hb'
  have h3 := hold_ge (x := lcmpW x y) (y := 0) rfl (b := 0) (by decide)
  refine ⟨fun q => ?_, fun q => ?_⟩
  · have := h3.1 q; omega
  · have := h3.2 q; omega
theorem g_lif_ge (X : St p l e R s m args below meth c n0 T h cells slots) (C : Cx p s m meth c Z bytes maxL ret own nme) {o : Int} {x y : Int64} {a b : Int} {pT pF : Nat} (hd : decode bytes pc = .ok (.ifCond .ge o, 3)) (ha : x.toInt = a) (hb' : y.toInt = b) (h0 : 0 ≤ (pc : Int) + o) (hT : ((pc : Int) + o).toNat = pT) (hF : pc + 3 = pF) (r1 : b ≤ a → Go p e below Rest T (mkF m pT L S)) (r2 : a < b → Go p e below Rest T (mkF m pF L S)) : Go p e below Rest T (mkF m pc L (.int (lcmpW x y) :: S)) :=
  g_if X C hd h0 hT hF (fun q => r1 ((hlc_ge ha hb').1 q)) (fun q => r2 ((hlc_ge ha hb').2 q))
theorem hold_gt {x y : Int32} {a b : Int} (ha : x.toInt = a) (hb' : y.toInt = b) : (if_icmp.holds .gt x y = true → b < a) ∧ (if_icmp.holds .gt x y = false → a ≤ b) := by
  subst ha hb'
  constructor <;> intro q <;> simp [if_icmp.holds, Int32.lt_iff_toInt_lt, Int32.le_iff_toInt_le, ← Int32.toInt_inj] at q <;> omega
theorem g_icmp_gt (X : St p l e R s m args below meth c n0 T h cells slots) (C : Cx p s m meth c Z bytes maxL ret own nme) {o : Int} {x y : Int32} {a b : Int} {pT pF : Nat} (hd : decode bytes pc = .ok (.if_icmp .gt o, 3)) (ha : x.toInt = a) (hb' : y.toInt = b) (h0 : 0 ≤ (pc : Int) + o) (hT : ((pc : Int) + o).toNat = pT) (hF : pc + 3 = pF) (r1 : b < a → Go p e below Rest T (mkF m pT L S)) (r2 : a ≤ b → Go p e below Rest T (mkF m pF L S)) : Go p e below Rest T (mkF m pc L (.int y :: .int x :: S)) :=
  g_icmp X C hd h0 hT hF (fun q => r1 ((hold_gt ha hb').1 q)) (fun q => r2 ((hold_gt ha hb').2 q))
theorem g_if_gt (X : St p l e R s m args below meth c n0 T h cells slots) (C : Cx p s m meth c Z bytes maxL ret own nme) {o : Int} {x : Int32} {a : Int} {pT pF : Nat} (hd : decode bytes pc = .ok (.ifCond .gt o, 3)) (ha : x.toInt = a) (h0 : 0 ≤ (pc : Int) + o) (hT : ((pc : Int) + o).toNat = pT) (hF : pc + 3 = pF) (r1 : 0 < a → Go p e below Rest T (mkF m pT L S)) (r2 : a ≤ 0 → Go p e below Rest T (mkF m pF L S)) : Go p e below Rest T (mkF m pc L (.int x :: S)) :=
  g_if X C hd h0 hT hF (fun q => r1 ((hold_gt ha (by decide)).1 q)) (fun q => r2 ((hold_gt ha (by decide)).2 q))
theorem hlc_gt {x y : Int64} {a b : Int} (ha : x.toInt = a) (hb' : y.toInt = b) : (if_icmp.holds .gt (lcmpW x y) 0 = true → b < a) ∧ (if_icmp.holds .gt (lcmpW x y) 0 = false → a ≤ b) := by
  have h1 := c_lcmp x y; subst ha hb'
  have h3 := hold_gt (x := lcmpW x y) (y := 0) rfl (b := 0) (by decide)
  refine ⟨fun q => ?_, fun q => ?_⟩
  · have := h3.1 q; omega
  · have := h3.2 q; omega
theorem g_lif_gt (X : St p l e R s m args below meth c n0 T h cells slots) (C : Cx p s m meth c Z bytes maxL ret own nme) {o : Int} {x y : Int64} {a b : Int} {pT pF : Nat} (hd : decode bytes pc = .ok (.ifCond .gt o, 3)) (ha : x.toInt = a) (hb' : y.toInt = b) (h0 : 0 ≤ (pc : Int) + o) (hT : ((pc : Int) + o).toNat = pT) (hF : pc + 3 = pF) (r1 : b < a → Go p e below Rest T (mkF m pT L S)) (r2 : a ≤ b → Go p e below Rest T (mkF m pF L S)) : Go p e below Rest T (mkF m pc L (.int (lcmpW x y) :: S)) :=
  g_if X C hd h0 hT hF (fun q => r1 ((hlc_gt ha hb').1 q)) (fun q => r2 ((hlc_gt ha hb').2 q))
theorem hold_le {x y : Int32} {a b : Int} (ha : x.toInt = a) (hb' : y.toInt = b) : (if_icmp.holds .le x y = true → a ≤ b) ∧ (if_icmp.holds .le x y = false → b < a) := by
  subst ha hb'
  constructor <;> intro q <;> simp [if_icmp.holds, Int32.lt_iff_toInt_lt, Int32.le_iff_toInt_le, ← Int32.toInt_inj] at q <;> omega
theorem g_icmp_le (X : St p l e R s m args below meth c n0 T h cells slots) (C : Cx p s m meth c Z bytes maxL ret own nme) {o : Int} {x y : Int32} {a b : Int} {pT pF : Nat} (hd : decode bytes pc = .ok (.if_icmp .le o, 3)) (ha : x.toInt = a) (hb' : y.toInt = b) (h0 : 0 ≤ (pc : Int) + o) (hT : ((pc : Int) + o).toNat = pT) (hF : pc + 3 = pF) (r1 : a ≤ b → Go p e below Rest T (mkF m pT L S)) (r2 : b < a → Go p e below Rest T (mkF m pF L S)) : Go p e below Rest T (mkF m pc L (.int y :: .int x :: S)) :=
  g_icmp X C hd h0 hT hF (fun q => r1 ((hold_le ha hb').1 q)) (fun q => r2 ((hold_le ha hb').2 q))
theorem g_if_le (X : St p l e R s m args below meth c n0 T h cells slots) (C : Cx p s m meth c Z bytes maxL ret own nme) {o : Int} {x : Int32} {a : Int} {pT pF : Nat} (hd : decode bytes pc = .ok (.ifCond .le o, 3)) (ha : x.toInt = a) (h0 : 0 ≤ (pc : Int) + o) (hT : ((pc : Int) + o).toNat = pT) (hF : pc + 3 = pF) (r1 : a ≤ 0 → Go p e below Rest T (mkF m pT L S)) (r2 : 0 < a → Go p e below Rest T (mkF m pF L S)) : Go p e below Rest T (mkF m pc L (.int x :: S)) :=
  g_if X C hd h0 hT hF (fun q => r1 ((hold_le ha (by decide)).1 q)) (fun q => r2 ((hold_le ha (by decide)).2 q))
theorem hlc_le {x y : Int64} {a b : Int} (ha : x.toInt = a) (hb' : y.toInt = b) : (if_icmp.holds .le (lcmpW x y) 0 = true → a ≤ b) ∧ (if_icmp.holds .le (lcmpW x y) 0 = false → b < a) := by
  have h1 := c_lcmp x y; subst ha hb'
  have h3 := hold_le (x := lcmpW x y) (y := 0) rfl (b := 0) (by decide)
  refine ⟨fun q => ?_, fun q => ?_⟩
  · have := h3.1 q; omega
  · have := h3.2 q; omega
theorem g_lif_le (X : St p l e R s m args below meth c n0 T h cells slots) (C : Cx p s m meth c Z bytes maxL ret own nme) {o : Int} {x y : Int64} {a b : Int} {pT pF : Nat} (hd : decode bytes pc = .ok (.ifCond .le o, 3)) (ha : x.toInt = a) (hb' : y.toInt = b) (h0 : 0 ≤ (pc : Int) + o) (hT : ((pc : Int) + o).toNat = pT) (hF : pc + 3 = pF) (r1 : a ≤ b → Go p e below Rest T (mkF m pT L S)) (r2 : b < a → Go p e below Rest T (mkF m pF L S)) : Go p e below Rest T (mkF m pc L (.int (lcmpW x y) :: S)) :=
  g_if X C hd h0 hT hF (fun q => r1 ((hlc_le ha hb').1 q)) (fun q => r2 ((hlc_le ha hb').2 q))
theorem hold_eq {x y : Int32} {a b : Int} (ha : x.toInt = a) (hb' : y.toInt = b) : (if_icmp.holds .eq x y = true → a = b) ∧ (if_icmp.holds .eq x y = false → a ≠ b) := by
  subst ha hb'
  constructor <;> intro q <;> simp [if_icmp.holds, Int32.lt_iff_toInt_lt, Int32.le_iff_toInt_le, ← Int32.toInt_inj] at q <;> omega
theorem g_icmp_eq (X : St p l e R s m args below meth c n0 T h cells slots) (C : Cx p s m meth c Z bytes maxL ret own nme) {o : Int} {x y : Int32} {a b : Int} {pT pF : Nat} (hd : decode bytes pc = .ok (.if_icmp .eq o, 3)) (ha : x.toInt = a) (hb' : y.toInt = b) (h0 : 0 ≤ (pc : Int) + o) (hT : ((pc : Int) + o).toNat = pT) (hF : pc + 3 = pF) (r1 : a = b → Go p e below Rest T (mkF m pT L S)) (r2 : a ≠ b → Go p e below Rest T (mkF m pF L S)) : Go p e below Rest T (mkF m pc L (.int y :: .int x :: S)) :=
  g_icmp X C hd h0 hT hF (fun q => r1 ((hold_eq ha hb').1 q)) (fun q => r2 ((hold_eq ha hb').2 q))
theorem g_if_eq (X : St p l e R s m args below meth c n0 T h cells slots) (C : Cx p s m meth c Z bytes maxL ret own nme) {o : Int} {x : Int32} {a : Int} {pT pF : Nat} (hd : decode bytes pc = .ok (.ifCond .eq o, 3)) (ha : x.toInt = a) (h0 : 0 ≤ (pc : Int) + o) (hT : ((pc : Int) + o).toNat = pT) (hF : pc + 3 = pF) (r1 : a = 0 → Go p e below Rest T (mkF m pT L S)) (r2 : a ≠ 0 → Go p e below Rest T (mkF m pF L S)) : Go p e below Rest T (mkF m pc L (.int x :: S)) :=
  g_if X C hd h0 hT hF (fun q => r1 ((hold_eq ha (by decide)).1 q)) (fun q => r2 ((hold_eq ha (by decide)).2 q))
theorem hlc_eq {x y : Int64} {a b : Int} (ha : x.toInt = a) (hb' : y.toInt = b) : (if_icmp.holds .eq (lcmpW x y) 0 = true → a = b) ∧ (if_icmp.holds .eq (lcmpW x y) 0 = false → a ≠ b) := by
  have h1 := c_lcmp x y; subst ha hb'
  have h3 := hold_eq (x := lcmpW x y) (y := 0) rfl (b := 0) (by decide)
  refine ⟨fun q => ?_, fun q => ?_⟩
  · have := h3.1 q; omega
  · have := h3.2 q; omega
theorem g_lif_eq (X : St p l e R s m args below meth c n0 T h cells slots) (C : Cx p s m meth c Z bytes maxL ret own nme) {o : Int} {x y : Int64} {a b : Int} {pT pF : Nat} (hd : decode bytes pc = .ok (.ifCond .eq o, 3)) (ha : x.toInt = a) (hb' : y.toInt = b) (h0 : 0 ≤ (pc : Int) + o) (hT : ((pc : Int) + o).toNat = pT) (hF : pc + 3 = pF) (r1 : a = b → Go p e below Rest T (mkF m pT L S)) (r2 : a ≠ b → Go p e below Rest T (mkF m pF L S)) : Go p e below Rest T (mkF m pc L (.int (lcmpW x y) :: S)) :=
  g_if X C hd h0 hT hF (fun q => r1 ((hlc_eq ha hb').1 q)) (fun q => r2 ((hlc_eq ha hb').2 q))
theorem hold_ne {x y : Int32} {a b : Int} (ha : x.toInt = a) (hb' : y.toInt = b) : (if_icmp.holds .ne x y = true → a ≠ b) ∧ (if_icmp.holds .ne x y = false → a = b) := by
  subst ha hb'
  constructor <;> intro q <;> simp [if_icmp.holds, Int32.lt_iff_toInt_lt, Int32.le_iff_toInt_le, ← Int32.toInt_inj] at q <;> omega
theorem g_icmp_ne (X : St p l e R s m args below meth c n0 T h cells slots) (C : Cx p s m meth c Z bytes maxL ret own nme) {o : Int} {x y : Int32} {a b : Int} {pT pF : Nat} (hd : decode bytes pc = .ok (.if_icmp .ne o, 3)) (ha : x.toInt = a) (hb' : y.toInt = b) (h0 : 0 ≤ (pc : Int) + o) (hT : ((pc : Int) + o).toNat = pT) (hF : pc + 3 = pF) (r1 : a ≠ b → Go p e below Rest T (mkF m pT L S)) (r2 : a = b → Go p e below Rest T (mkF m pF L S)) : Go p e below Rest T (mkF m pc L (.int y :: .int x :: S)) :=
  g_icmp X C hd h0 hT hF (fun q => r1 ((hold_ne ha hb').1 q)) (fun q => r2 ((hold_ne ha hb').2 q))
theorem g_if_ne (X : St p l e R s m args below meth c n0 T h cells slots) (C : Cx p s m meth c Z bytes maxL ret own nme) {o : Int} {x : Int32} {a : Int} {pT pF : Nat} (hd : decode bytes pc = .ok (.ifCond .ne o, 3)) (ha : x.toInt = a) (h0 : 0 ≤ (pc : Int) + o) (hT : ((pc : Int) + o).toNat = pT) (hF : pc + 3 = pF) (r1 : a ≠ 0 → Go p e below Rest T (mkF m pT L S)) (r2 : a = 0 → Go p e below Rest T (mkF m pF L S)) : Go p e below Rest T (mkF m pc L (.int x :: S)) :=
  g_if X C hd h0 hT hF (fun q => r1 ((hold_ne ha (by decide)).1 q)) (fun q => r2 ((hold_ne ha (by decide)).2 q))
theorem hlc_ne {x y : Int64} {a b : Int} (ha : x.toInt = a) (hb' : y.toInt = b) : (if_icmp.holds .ne (lcmpW x y) 0 = true → a ≠ b) ∧ (if_icmp.holds .ne (lcmpW x y) 0 = false → a = b) := by
  have h1 := c_lcmp x y; subst ha hb'
  have h3 := hold_ne (x := lcmpW x y) (y := 0) rfl (b := 0) (by decide)
  refine ⟨fun q => ?_, fun q => ?_⟩
  · have := h3.1 q; omega
  · have := h3.2 q; omega
theorem g_lif_ne (X : St p l e R s m args below meth c n0 T h cells slots) (C : Cx p s m meth c Z bytes maxL ret own nme) {o : Int} {x y : Int64} {a b : Int} {pT pF : Nat} (hd : decode bytes pc = .ok (.ifCond .ne o, 3)) (ha : x.toInt = a) (hb' : y.toInt = b) (h0 : 0 ≤ (pc : Int) + o) (hT : ((pc : Int) + o).toNat = pT) (hF : pc + 3 = pF) (r1 : a ≠ b → Go p e below Rest T (mkF m pT L S)) (r2 : a = b → Go p e below Rest T (mkF m pF L S)) : Go p e below Rest T (mkF m pc L (.int (lcmpW x y) :: S)) :=
  g_if X C hd h0 hT hF (fun q => r1 ((hlc_ne ha hb').1 q)) (fun q => r2 ((hlc_ne ha hb').2 q))
theorem g_nullY (X : St p l e R s m args below meth c n0 T h cells slots) (C : Cx p s m meth c Z bytes maxL ret own nme) {o : Int} {pT : Nat} (hd : decode bytes pc = .ok (.ifnull o, 3)) (h0 : 0 ≤ (pc : Int) + o) (hT : ((pc : Int) + o).toNat = pT) (r : Go p e below Rest T (mkF m pT L S)) : Go p e below Rest T (mkF m pc L (.null :: S)) := by
  obtain ⟨_, X, -, -⟩ := X; obtain ⟨hx, hby, -⟩ := C
  exact go_by (fun t k => XS.ifnullYes X.here hx rfl (pc0 := pc) rfl (hb hby hd) rfl h0 hT k) r
theorem g_nullN (X : St p l e R s m args below meth c n0 T h cells slots) (C : Cx p s m meth c Z bytes maxL ret own nme) {o : Int} {b : Addr} {pF : Nat} (hd : decode bytes pc = .ok (.ifnull o, 3)) (hF : pc + 3 = pF) (r : Go p e below Rest T (mkF m pF L S)) : Go p e below Rest T (mkF m pc L (.ref b :: S)) := by
  obtain ⟨_, X, -, -⟩ := X; obtain ⟨hx, hby, -⟩ := C; subst hF
  exact go_by (fun t k => XS.ifnullNo X.here hx rfl (hb hby hd) rfl k) r
theorem g_nonnullY (X : St p l e R s m args below meth c n0 T h cells slots) (C : Cx p s m meth c Z bytes maxL ret own nme) {o : Int} {b : Addr} {pT : Nat} (hd : decode bytes pc = .ok (.ifnonnull o, 3)) (h0 : 0 ≤ (pc : Int) + o) (hT : ((pc : Int) + o).toNat = pT) (r : Go p e below Rest T (mkF m pT L S)) : Go p e below Rest T (mkF m pc L (.ref b :: S)) := by
  obtain ⟨_, X, -, -⟩ := X; obtain ⟨hx, hby, -⟩ := C
  exact go_by (fun t k => XS.ifnonnullYes X.here hx rfl (pc0 := pc) rfl (hb hby hd) rfl h0 hT k) r
theorem g_nonnullN (X : St p l e R s m args below meth c n0 T h cells slots) (C : Cx p s m meth c Z bytes maxL ret own nme) {o : Int} {pF : Nat} (hd : decode bytes pc = .ok (.ifnonnull o, 3)) (hF : pc + 3 = pF) (r : Go p e below Rest T (mkF m pF L S)) : Go p e below Rest T (mkF m pc L (.null :: S)) := by
  obtain ⟨_, X, -, -⟩ := X; obtain ⟨hx, hby, -⟩ := C; subst hF
  exact go_by (fun t k => XS.ifnonnullNo X.here hx rfl (hb hby hd) rfl k) r
theorem g_irem (X : St p l e R s m args below meth c n0 T h cells slots) (C : Cx p s m meth c Z bytes maxL ret own nme) {x y : Int32} (hd : decode bytes pc = .ok (.irem, 1)) (hy : y ≠ 0) (hp : pc + 1 = pc') (r : Go p e below Rest T (mkF m pc' L (.int (x % y) :: S))) : Go p e below Rest T (mkF m pc L (.int y :: .int x :: S)) := by
  obtain ⟨_, X, -, -⟩ := X; obtain ⟨hx, hby, -⟩ := C; subst hp
  exact go_by (fun t k => iremM X hx rfl (hb hby hd) rfl hy k) r
theorem g_lrem (X : St p l e R s m args below meth c n0 T h cells slots) (C : Cx p s m meth c Z bytes maxL ret own nme) {x y : Int64} (hd : decode bytes pc = .ok (.lrem, 1)) (hy : y ≠ 0) (hp : pc + 1 = pc') (r : Go p e below Rest T (mkF m pc' L (.long (x % y) :: S))) : Go p e below Rest T (mkF m pc L (.long y :: .long x :: S)) := by
  obtain ⟨_, X, -, -⟩ := X; obtain ⟨hx, hby, -⟩ := C; subst hp
  rw [← lrem_mod] at r
  exact go_by (fun t k => XS.lrem X.here hx rfl (hb hby hd) rfl hy k) r
theorem g_ldcI (X : St p l e R s m args below meth c n0 T h cells slots) (C : Cx p s m meth c Z bytes maxL ret own nme) {index : Nat} {v : Int32} (w : (Jvm.Cond.constant own index v).before a0 Z = true) (hd : decode bytes pc = .ok (.ldc index, 2)) (hp : pc + 2 = pc') (r : Go p e below Rest T (mkF m pc' L (.int v :: S))) : Go p e below Rest T (mkF m pc L S) := by
  obtain ⟨_, X, -, -⟩ := X; obtain ⟨hx, hby, -, -, -, hown, -, hZ⟩ := C; subst hp
  exact go_by (X.ldcInt hx hown (mvT hZ w) (g := mkF m pc L S) rfl (hb hby hd)) r
theorem g_ldcJ (X : St p l e R s m args below meth c n0 T h cells slots) (C : Cx p s m meth c Z bytes maxL ret own nme) {index : Nat} {v : Int64} (w : (Jvm.Cond.constantLong own index v).before a0 Z = true) (hd : decode bytes pc = .ok (.ldc2_w index, 3)) (hp : pc + 3 = pc') (r : Go p e below Rest T (mkF m pc' L (.long v :: S))) : Go p e below Rest T (mkF m pc L S) := by
  obtain ⟨_, X, -, -⟩ := X; obtain ⟨hx, hby, -, -, -, hown, -, hZ⟩ := C; subst hp
  exact go_by (X.ldc2Long hx hown (mvT hZ w) (g := mkF m pc L S) rfl (hb hby hd)) r
/-- an array: its kind, its length, what each place holds -/
def Ar (Z : State) (h : Heap) (a : Addr) (ty : FieldType) (n : Nat) (fn : Nat → Value) : Prop := ∃ cl : Cell, Arr Z h a cl ty ∧ cl.slots.size = n ∧ ∀ j, j < n → cl.slots[j]? = some (fn j)
theorem Ar.lt {a : Addr} {ty : FieldType} {n : Nat} {fn : Nat → Value} (A : Ar Z h a ty n fn) : a < h.size := by obtain ⟨_, A, -⟩ := A; exact A.lt
theorem Ar.keep {a : Addr} {ty : FieldType} {n : Nat} {fn : Nat → Value} {ws : List Addr} (A : Ar Z h a ty n fn) (K : Keep h h' ws) (q : a ∉ ws) : Ar Z h' a ty n fn := by
  obtain ⟨cl, A, r⟩ := A; exact ⟨cl, ⟨K.2.1 a cl A.1 q, A.2⟩, r⟩
theorem Ar.congr {a : Addr} {ty : FieldType} {n : Nat} {fn gn : Nat → Value} (A : Ar Z h a ty n fn) (q : ∀ j, j < n → fn j = gn j) : Ar Z h a ty n gn := by
  obtain ⟨cl, A, r1, r2⟩ := A; exact ⟨cl, A, r1, fun j hj => by rw [r2 j hj, q j hj]⟩
theorem Ar.set {a : Addr} {ty : FieldType} {n i : Nat} {fn : Nat → Value} {v : Value} (A : Ar Z h a ty n fn) (hi : i < n) (W : Wr h h' a i v) : Ar Z h' a ty n (fun k => if k = i then v else fn k) := by
  obtain ⟨cl, A, r1, r2⟩ := A
  refine ⟨_, A.same W, by rw [sz_set]; exact r1, fun j hj => ?_⟩
  by_cases q : j = i
  · subst q; simp [Cell.setSlot, Array.getElem?_setIfInBounds, r1, hi]
  · have := r2 j hj; simp [Cell.setSlot, Array.getElem?_setIfInBounds, q, Ne.symm q, this]
theorem keepE (E : Ext h h') : Keep h h' [] := (Keep.refl _ _).ext E
theorem keepE' {ws : List Addr} (E : Ext h h') : Keep h h' ws := (Keep.refl _ _).ext E
theorem nneg {z : Int32} {n : Nat} (hz : z.toInt = n) : ¬ z < 0 := by
  rw [Int32.lt_iff_toInt_lt, hz]; have : (0 : Int32).toInt = 0 := by decide
  omega
theorem addn {x y : Int32} {i k : Nat} (hx : x.toInt = i) (hy : y.toInt = k) (hb : i + k < 2147483648) : (x + y).toInt = (i + k : Nat) := by
  have g1 := c_iadd x y; have g2 := rng32 (x + y); omega
theorem clamp_of {j : Int32} {i : Nat} (hi : j.toInt = i) : j.toNatClampNeg = i := by
  rw [Int32.toNatClampNeg, hi]; simp
theorem inb {j : Int32} {i n : Nat} {cl : Cell} (hi : j.toInt = i) (hlt : i < n) (hs : cl.slots.size = n) : ¬ (j < 0 ∨ cl.slots.size ≤ j.toNatClampNeg) := by
  rw [clamp_of hi, hs]
  rintro (q | q)
  · rw [Int32.lt_iff_toInt_lt, hi] at q; have : (0 : Int32).toInt = 0 := by decide
    omega
  · omega
def Ob (Z : State) (h : Heap) (a : Addr) (K : String) (NS : List (String × String)) (vs : List Value) : Prop := Exa Z h a K ∧ ∀ (i : Nat) (n d : String) (v : Value), NS[i]? = some (n, d) → vs[i]? = some v → Fld Z h a K n d v
def CF (Z : State) (a0 : Array Value) (K : String) (NS : List (String × String)) (k : Nat) : Prop := (NS.map (·.1)).Nodup ∧ (∀ x ∈ NS, Laid Z a0 K K x.1 x.2 ∧ (parseFieldDescriptor x.2).isSome = true) ∧ (Jvm.Cond.instantiable K k).before a0 Z = true
theorem Ob.lt {a : Addr} {K : String} {NS : List (String × String)} {vs : List Value} (O : Ob Z h a K NS vs) : a < h.size := O.1.lt
theorem Ob.keep {a : Addr} {K : String} {NS : List (String × String)} {vs : List Value} {ws : List Addr} (O : Ob Z h a K NS vs) (K' : Keep h h' ws) (q : a ∉ ws) : Ob Z h' a K NS vs := ⟨O.1.keep K', fun i n d v h1 h2 => (O.2 i n d v h1 h2).keep K' q⟩
theorem Ob.put {a : Addr} {K : String} {NS : List (String × String)} {vs vs' : List Value} {k i : Nat} {n d : String} {v old : Value} (O : Ob Z h a K NS vs) (F : CF Z a0 K NS k) (hN : NS[i]? = some (n, d)) (ho : vs[i]? = some old) (hvs : vs.set i v = vs') (W : Wr h h' a (Jvm.RoadKit.slotOf Z K n d) v) : Ob Z h' a K NS vs' := by
  subst hvs
  refine ⟨O.1.wr W, fun j n' d' w h1 h2 => ?_⟩
  by_cases q : j = i
  · subst q
    rw [hN] at h1; obtain ⟨rfl, rfl⟩ := Prod.mk.inj (Option.some.inj h1)
    rw [List.getElem?_set_self (by exact (List.getElem?_eq_some_iff.mp ho).1)] at h2
    obtain rfl := Option.some.inj h2
    exact (O.2 _ _ _ _ hN ho).same W
  · rw [List.getElem?_set_ne (Ne.symm q)] at h2
    have hne : n' ≠ n := by
      intro e
      have h3 : (NS.map (·.1))[j]? = some n' := by rw [List.getElem?_map, h1]; rfl
      have h4 : (NS.map (·.1))[i]? = some n := by rw [List.getElem?_map, hN]; rfl
      obtain ⟨l1, e1⟩ := List.getElem?_eq_some_iff.mp h3
      obtain ⟨l2, e2⟩ := List.getElem?_eq_some_iff.mp h4
      rcases Nat.lt_or_gt_of_ne q with u | u
      · exact (List.pairwise_iff_getElem.mp F.1) j i l1 l2 u (by rw [e1, e2, e])
      · exact (List.pairwise_iff_getElem.mp F.1) i j l2 l1 u (by rw [e1, e2, e])
    obtain ⟨p1, p2⟩ := F.2.1 _ (List.mem_of_getElem? h1)
    obtain ⟨p3, p4⟩ := F.2.1 _ (List.mem_of_getElem? hN)
    obtain ⟨t1, q1⟩ := Option.isSome_iff_exists.mp p2
    obtain ⟨t2, q2⟩ := Option.isSome_iff_exists.mp p4
    exact (O.2 _ _ _ _ h1 h2).other W (Or.inr (slot_ne p1 p3 hne q1 q2))
theorem g_getO (X : St p l e R s m args below meth c n0 T h cells slots) (C : Cx p s m meth c Z bytes maxL ret own nme) {a : Addr} {K n d host : String} {NS : List (String × String)} {vs : List Value} {i index : Nat} {v : Value} (O : Ob Z h a K NS vs) (hN : NS[i]? = some (n, d)) (hv : vs[i]? = some v) (w : (Jvm.Cond.fieldLink own index K n d).before a0 Z = true ∨ (Jvm.Cond.fieldLinkNest own index K n d host).before a0 Z = true) (hd : decode bytes pc = .ok (.getfield index, 3)) (hp : pc + 3 = pc') (r : ∀ T', St p l e R s m args below meth c n0 T' h cells slots → Go p e below Rest T' (mkF m pc' L (v :: S))) : Go p e below Rest T (mkF m pc L (.ref a :: S)) := by
  obtain ⟨locs, X, N, eT⟩ := X; obtain ⟨hx, hby, -, -, -, hown, -, hZ⟩ := C; subst hp
  obtain ⟨T', X', e', st⟩ := getF X hx hZ hown w Via.refl eT (O.2 _ _ _ _ hN hv) (g := mkF m pc L (.ref a :: S)) rfl rfl (hb hby hd)
  exact go_by st (r T' ⟨locs, X', N, e'⟩)
theorem g_putO (X : St p l e R s m args below meth c n0 T h cells slots) (C : Cx p s m meth c Z bytes maxL ret own nme) {a : Addr} {K n d host : String} {NS : List (String × String)} {vs vs' : List Value} {i k index : Nat} {v old : Value} {ty : FieldType} (O : Ob Z h a K NS vs) (F : CF Z a0 K NS k) (hN : NS[i]? = some (n, d)) (ho : vs[i]? = some old) (hvs : vs.set i v = vs') (ga : n0 ≤ a) (w : (Jvm.Cond.fieldLink own index K n d).before a0 Z = true ∨ (Jvm.Cond.fieldLinkNest own index K n d host).before a0 Z = true) (Ly : (Jvm.Cond.lays K K n d).before a0 Z = true ∨ ((Jvm.Cond.laysFinal K K n d).before a0 Z = true ∧ own = K ∧ nme = "<init>")) (hty : parseFieldDescriptor d = some ty) (hn : narrow ty v = v) (hf : fits ty v = true) (hd : decode bytes pc = .ok (.putfield index, 3)) (hp : pc + 3 = pc') (r : ∀ T' h', St p l e R s m args below meth c n0 T' h' cells slots → Ob Z h' a K NS vs' → Keep h h' [a] → Go p e below Rest T' (mkF m pc' L S)) : Go p e below Rest T (mkF m pc L (v :: .ref a :: S)) := by
  obtain ⟨locs, X, N, eT⟩ := X; obtain ⟨hx, hby, -, -, -, hown, hnm, hZ⟩ := C; subst hp
  obtain ⟨T', h', X', e', W, st⟩ := putF X hx hZ hown w Via.refl eT (O.2 _ _ _ _ hN ho) O.1 (Ly.imp id fun q => ⟨q.1, q.2.1, by rw [hnm]; exact q.2.2⟩) F.2.2 hty hn hf (g := mkF m pc L (v :: .ref a :: S)) rfl rfl (hb hby hd)
  exact go_by st (r T' h' ⟨_, X', Fr.snoc X' N ga, e'⟩ (O.put F hN ho hvs W) (Keep.of_wr W))
theorem g_putN (X : St p l e R s m args below meth c n0 T h cells slots) (C : Cx p s m meth c Z bytes maxL ret own nme) {a : Addr} {K n d : String} {NS : List (String × String)} {vs vs' : List Value} {i k index : Nat} {v v' old : Value} {ty : FieldType} (O : Ob Z h a K NS vs) (F : CF Z a0 K NS k) (hN : NS[i]? = some (n, d)) (ho : vs[i]? = some old) (hvs : vs.set i v' = vs') (ga : n0 ≤ a) (w : (Jvm.Cond.fieldLink own index K n d).before a0 Z = true) (Ly : (Jvm.Cond.lays K K n d).before a0 Z = true ∨ ((Jvm.Cond.laysFinal K K n d).before a0 Z = true ∧ own = K ∧ nme = "<init>")) (hty : parseFieldDescriptor d = some ty) (hn : narrow ty v = v') (hf : fits ty v' = true) (hd : decode bytes pc = .ok (.putfield index, 3)) (hp : pc + 3 = pc') (r : ∀ T' h', St p l e R s m args below meth c n0 T' h' cells slots → Ob Z h' a K NS vs' → Keep h h' [a] → Go p e below Rest T' (mkF m pc' L S)) : Go p e below Rest T (mkF m pc L (v :: .ref a :: S)) := by
  obtain ⟨locs, X, N, eT⟩ := X; obtain ⟨hx, hby, -, -, -, hown, hnm, hZ⟩ := C; subst hp
  obtain ⟨T', h', X', e', W, st⟩ := putFN X hx hZ hown w Via.refl eT (O.2 _ _ _ _ hN ho) O.1 (Ly.imp id fun q => ⟨q.1, q.2.1, by rw [hnm]; exact q.2.2⟩) F.2.2 hty hn hf (g := mkF m pc L (v :: .ref a :: S)) rfl rfl (hb hby hd)
  exact go_by st (r T' h' ⟨_, X', Fr.snoc X' N ga, e'⟩ (O.put F hN ho hvs W) (Keep.of_wr W))
def dflt (d : String) : Value := match parseFieldDescriptor d with | some ty => defaultValue ty | none => .null
theorem g_newO (X : St p l e R s m args below meth c n0 T h cells slots) (C : Cx p s m meth c Z bytes maxL ret own nme) {K : String} {NS : List (String × String)} {vs : List Value} {index k : Nat} (w : (Jvm.Cond.classLink own index K).before a0 Z = true) (F : CF Z a0 K NS k) (wz : (Jvm.Cond.initialized K).before a0 Z = true) (hvs : NS.map (fun x => dflt x.2) = vs) (hc : cells + 1 ≤ R.cells) (hl : slots + k ≤ R.slots) (hd : decode bytes pc = .ok (.new index, 3)) (hp : pc + 3 = pc') (r : ∀ T' h' b, b = h.size → St p l e R s m args below meth c n0 T' h' (cells + 1) (slots + k) → Ob Z h' b K NS vs → Keep h h' [] → Go p e below Rest T' (mkF m pc' L (.ref b :: S))) : Go p e below Rest T (mkF m pc L S) := by
  obtain ⟨locs, X, N, eT⟩ := X; obtain ⟨hx, hby, -, -, -, hown, hnm, hZ⟩ := C; subst hp hvs
  obtain ⟨T', h', X', e', E, A, D, -, st⟩ := newO X hx hZ hown w F.2.2 wz eT (g := mkF m pc L S) rfl (hb hby hd) hc hl
  refine go_by st (r T' h' _ rfl ⟨_, X', N, e'⟩ ⟨A, fun i n d v h1 h2 => ?_⟩ (keepE E))
  obtain ⟨p1, p2⟩ := F.2.1 _ (List.mem_of_getElem? h1)
  obtain ⟨t1, q1⟩ := Option.isSome_iff_exists.mp p2
  rw [List.getElem?_map, h1] at h2
  obtain rfl := Option.some.inj h2
  have := D p1 q1
  simp only [dflt, q1]
  exact this
theorem g_newarr (X : St p l e R s m args below meth c n0 T h cells slots) (C : Cx p s m meth c Z bytes maxL ret own nme) {aty : ArrayType} {z : Int32} {n cap : Nat} (w : (Jvm.Cond.arrayClass (newarray.typeOf aty)).before a0 Z = true) (hz : z.toInt = n) (hcap : n ≤ cap) (hcb : cap * 8 ≤ 536870912) (hc : cells + 1 ≤ R.cells) (hl : slots + cap ≤ R.slots) (hd : decode bytes pc = .ok (.newarray aty, 2)) (hp : pc + 2 = pc') (r : ∀ T' h' b, b = h.size → St p l e R s m args below meth c n0 T' h' (cells + 1) (slots + cap) → Ar Z h' b (newarray.typeOf aty) n (fun _ => defaultValue (newarray.typeOf aty)) → Keep h h' [] → Go p e below Rest T' (mkF m pc' L (.ref b :: S))) : Go p e below Rest T (mkF m pc L (.int z :: S)) := by
  obtain ⟨locs, X, N, eT⟩ := X; obtain ⟨hx, hby, -, -, -, hown, hnm, hZ⟩ := C; subst hp
  have hneg : ¬ z < 0 := nneg hz
  obtain ⟨T', h', cA, X', e', E, A, st⟩ := newP X hx hZ w eT (g := mkF m pc L (.int z :: S)) rfl (hb hby hd) rfl hneg (cap := cap) (by rw [clamp_of hz]; exact hcap) hcb hc hl
  refine go_by st (r T' h' _ rfl ⟨_, X', N, e'⟩ ⟨_, A, by rw [sz_new, clamp_of hz], fun j hj => ?_⟩ (keepE E))
  simp [newA, clamp_of hz, hj]
def ArR (Z : State) (h : Heap) (a : Addr) (K : String) (n : Nat) (fn : Nat → Value) : Prop := ∃ cl : Cell, Arr Z h a cl (.object K) ∧ Ovr Z cl.cls K ∧ cl.slots.size = n ∧ ∀ j, j < n → cl.slots[j]? = some (fn j)
theorem ArR.lt {a : Addr} {K : String} {n : Nat} {fn : Nat → Value} (A : ArR Z h a K n fn) : a < h.size := by obtain ⟨_, A, -⟩ := A; exact A.lt
theorem ArR.keep {a : Addr} {K : String} {n : Nat} {fn : Nat → Value} {ws : List Addr} (A : ArR Z h a K n fn) (K' : Keep h h' ws) (q : a ∉ ws) : ArR Z h' a K n fn := by
  obtain ⟨cl, A, r⟩ := A; exact ⟨cl, ⟨K'.2.1 a cl A.1 q, A.2⟩, r⟩
theorem g_newR (X : St p l e R s m args below meth c n0 T h cells slots) (C : Cx p s m meth c Z bytes maxL ret own nme) {K : String} {index : Nat} {z : Int32} {n cap : Nat} (w1 : (Jvm.Cond.classLink own index K).before a0 Z = true) (w2 : (Jvm.Cond.arrayOver (.object K)).before a0 Z = true) (hz : z.toInt = n) (hcap : n ≤ cap) (hcb : cap * 8 ≤ 536870912) (hc : cells + 1 ≤ R.cells) (hl : slots + cap ≤ R.slots) (hd : decode bytes pc = .ok (.anewarray index, 3)) (hp : pc + 3 = pc') (r : ∀ T' h' b, b = h.size → St p l e R s m args below meth c n0 T' h' (cells + 1) (slots + cap) → ArR Z h' b K n (fun _ => .null) → Keep h h' [] → Go p e below Rest T' (mkF m pc' L (.ref b :: S))) : Go p e below Rest T (mkF m pc L (.int z :: S)) := by
  obtain ⟨locs, X, N, eT⟩ := X; obtain ⟨hx, hby, -, -, -, hown, hnm, hZ⟩ := C; subst hp
  have hneg : ¬ z < 0 := nneg hz
  obtain ⟨T', h', cA, X', e', E, A, Ov, st⟩ := newR X hx hZ hown w1 w2 eT (g := mkF m pc L (.int z :: S)) rfl (hb hby hd) rfl hneg (cap := cap) (by rw [clamp_of hz]; exact hcap) hcb hc hl
  refine go_by st (r T' h' _ rfl ⟨_, X', N, e'⟩ ⟨_, A, Ov, by rw [sz_new, clamp_of hz], fun j hj => ?_⟩ (keepE E))
  simp [newA, clamp_of hz, hj, defaultValue]
theorem g_arrlen (X : St p l e R s m args below meth c n0 T h cells slots) (C : Cx p s m meth c Z bytes maxL ret own nme) {a : Addr} {ty : FieldType} {n : Nat} {fn : Nat → Value} {z : Int32} (A : Ar Z h a ty n fn) (hz : n.toInt32 = z) (hd : decode bytes pc = .ok (.arraylength, 1)) (hp : pc + 1 = pc') (r : Go p e below Rest T (mkF m pc' L (.int z :: S))) : Go p e below Rest T (mkF m pc L (.ref a :: S)) := by
  obtain ⟨locs, X, N, eT⟩ := X; obtain ⟨hx, hby, -, -, -, hown, hnm, hZ⟩ := C; subst hp hz
  obtain ⟨cl, A, r1, r2⟩ := A; subst r1
  exact go_by (fun t k => X.arraylength hx (by rw [eT]; exact A.1) (State.isArrayOf_alike hZ.alike A.2.1) (g := mkF m pc L (.ref a :: S)) rfl rfl (hb hby hd) t k) r
theorem g_iaload (X : St p l e R s m args below meth c n0 T h cells slots) (C : Cx p s m meth c Z bytes maxL ret own nme) {a : Addr} {n i : Nat} {fn : Nat → Value} {j : Int32} {v : Value} (A : Ar Z h a .int n fn) (hi : j.toInt = i) (hlt : i < n) (hv : fn i = v) (hd : decode bytes pc = .ok (.iaload, 1)) (hp : pc + 1 = pc') (r : Go p e below Rest T (mkF m pc' L (v :: S))) : Go p e below Rest T (mkF m pc L (.int j :: .ref a :: S)) := by
  obtain ⟨locs, X, N, eT⟩ := X; obtain ⟨hx, hby, -, -, -, hown, hnm, hZ⟩ := C; subst hp hv
  obtain ⟨cl, A, r1, r2⟩ := A
  exact go_by (fun t k => X.iaload hx (j := j) (by rw [eT]; exact A.1) (State.isArrayOf_alike hZ.alike A.2.1) A.2.2 (inb hi hlt r1) (by rw [clamp_of hi]; exact r2 i hlt) (g := mkF m pc L (.int j :: .ref a :: S)) rfl rfl (hb hby hd) t k) r
theorem g_laload (X : St p l e R s m args below meth c n0 T h cells slots) (C : Cx p s m meth c Z bytes maxL ret own nme) {a : Addr} {n i : Nat} {fn : Nat → Value} {j : Int32} {v : Value} (A : Ar Z h a .long n fn) (hi : j.toInt = i) (hlt : i < n) (hv : fn i = v) (hd : decode bytes pc = .ok (.laload, 1)) (hp : pc + 1 = pc') (r : Go p e below Rest T (mkF m pc' L (v :: S))) : Go p e below Rest T (mkF m pc L (.int j :: .ref a :: S)) := by
  obtain ⟨locs, X, N, eT⟩ := X; obtain ⟨hx, hby, -, -, -, hown, hnm, hZ⟩ := C; subst hp hv
  obtain ⟨cl, A, r1, r2⟩ := A
  exact go_by (fun t k => X.laload hx (j := j) (by rw [eT]; exact A.1) (State.isArrayOf_alike hZ.alike A.2.1) A.2.2 (inb hi hlt r1) (by rw [clamp_of hi]; exact r2 i hlt) (g := mkF m pc L (.int j :: .ref a :: S)) rfl rfl (hb hby hd) t k) r
theorem g_baloadB (X : St p l e R s m args below meth c n0 T h cells slots) (C : Cx p s m meth c Z bytes maxL ret own nme) {a : Addr} {n i : Nat} {fn : Nat → Value} {j : Int32} {v : Value} (A : Ar Z h a .byte n fn) (hi : j.toInt = i) (hlt : i < n) (hv : fn i = v) (hd : decode bytes pc = .ok (.baload, 1)) (hp : pc + 1 = pc') (r : Go p e below Rest T (mkF m pc' L (v :: S))) : Go p e below Rest T (mkF m pc L (.int j :: .ref a :: S)) := by
  obtain ⟨locs, X, N, eT⟩ := X; obtain ⟨hx, hby, -, -, -, hown, hnm, hZ⟩ := C; subst hp hv
  obtain ⟨cl, A, r1, r2⟩ := A
  exact go_by (fun t k => X.baloadBytes hx (j := j) (by rw [eT]; exact A.1) (State.isArrayOf_alike hZ.alike A.2.1) A.2.2 (inb hi hlt r1) (by rw [clamp_of hi]; exact r2 i hlt) (g := mkF m pc L (.int j :: .ref a :: S)) rfl rfl (hb hby hd) t k) r
theorem g_baloadZ (X : St p l e R s m args below meth c n0 T h cells slots) (C : Cx p s m meth c Z bytes maxL ret own nme) {a : Addr} {n i : Nat} {fn : Nat → Value} {j : Int32} {v : Value} (A : Ar Z h a .boolean n fn) (hi : j.toInt = i) (hlt : i < n) (hv : fn i = v) (hd : decode bytes pc = .ok (.baload, 1)) (hp : pc + 1 = pc') (r : Go p e below Rest T (mkF m pc' L (v :: S))) : Go p e below Rest T (mkF m pc L (.int j :: .ref a :: S)) := by
  obtain ⟨locs, X, N, eT⟩ := X; obtain ⟨hx, hby, -, -, -, hown, hnm, hZ⟩ := C; subst hp hv
  obtain ⟨cl, A, r1, r2⟩ := A
  exact go_by (fun t k => X.baloadBooleans hx (j := j) (by rw [eT]; exact A.1) (State.isArrayOf_alike hZ.alike A.2.1) A.2.2 (inb hi hlt r1) (by rw [clamp_of hi]; exact r2 i hlt) (g := mkF m pc L (.int j :: .ref a :: S)) rfl rfl (hb hby hd) t k) r
theorem g_aaload (X : St p l e R s m args below meth c n0 T h cells slots) (C : Cx p s m meth c Z bytes maxL ret own nme) {a : Addr} {n i : Nat} {K : String} {fn : Nat → Value} {j : Int32} {v : Value} (A : ArR Z h a K n fn) (hi : j.toInt = i) (hlt : i < n) (hv : fn i = v) (hd : decode bytes pc = .ok (.aaload, 1)) (hp : pc + 1 = pc') (r : Go p e below Rest T (mkF m pc' L (v :: S))) : Go p e below Rest T (mkF m pc L (.int j :: .ref a :: S)) := by
  obtain ⟨locs, X, N, eT⟩ := X; obtain ⟨hx, hby, -, -, -, hown, hnm, hZ⟩ := C; subst hp hv
  obtain ⟨cl, A, -, r1, r2⟩ := A
  exact go_by (fun t k => X.aaload hx (j := j) (by rw [eT]; exact A.1) (State.isArrayOf_alike hZ.alike A.2.1) rfl A.2.2 (inb hi hlt r1) (by rw [clamp_of hi]; exact r2 i hlt) (g := mkF m pc L (.int j :: .ref a :: S)) rfl rfl (hb hby hd) t k) r
theorem g_iastore (X : St p l e R s m args below meth c n0 T h cells slots) (C : Cx p s m meth c Z bytes maxL ret own nme) {a : Addr} {n i : Nat} {fn : Nat → Value} {j : Int32} {x : Int32} (A : Ar Z h a .int n fn) (hi : j.toInt = i) (hlt : i < n) (ga : n0 ≤ a) (hd : decode bytes pc = .ok (.iastore, 1)) (hp : pc + 1 = pc') (r : ∀ T' h', St p l e R s m args below meth c n0 T' h' cells slots → Ar Z h' a .int n (fun k => if k = i then (.int x) else fn k) → Keep h h' [a] → Go p e below Rest T' (mkF m pc' L S)) : Go p e below Rest T (mkF m pc L (.int x :: .int j :: .ref a :: S)) := by
  obtain ⟨locs, X, N, eT⟩ := X; obtain ⟨hx, hby, -, -, -, hown, hnm, hZ⟩ := C; subst hp
  have A0 := A
  obtain ⟨cl, A, r1, r2⟩ := A
  obtain ⟨T', h', X', e', W, st⟩ := stI X hx hZ eT A (j := j) (inb hi hlt r1) (g := mkF m pc L (.int x :: .int j :: .ref a :: S)) rfl rfl (hb hby hd)
  rw [clamp_of hi] at W
  exact go_by st (r T' h' ⟨_, X', Fr.snoc X' N ga, e'⟩ (A0.set hlt W) (Keep.of_wr W))
theorem g_lastore (X : St p l e R s m args below meth c n0 T h cells slots) (C : Cx p s m meth c Z bytes maxL ret own nme) {a : Addr} {n i : Nat} {fn : Nat → Value} {j : Int32} {x : Int64} (A : Ar Z h a .long n fn) (hi : j.toInt = i) (hlt : i < n) (ga : n0 ≤ a) (hd : decode bytes pc = .ok (.lastore, 1)) (hp : pc + 1 = pc') (r : ∀ T' h', St p l e R s m args below meth c n0 T' h' cells slots → Ar Z h' a .long n (fun k => if k = i then (.long x) else fn k) → Keep h h' [a] → Go p e below Rest T' (mkF m pc' L S)) : Go p e below Rest T (mkF m pc L (.long x :: .int j :: .ref a :: S)) := by
  obtain ⟨locs, X, N, eT⟩ := X; obtain ⟨hx, hby, -, -, -, hown, hnm, hZ⟩ := C; subst hp
  have A0 := A
  obtain ⟨cl, A, r1, r2⟩ := A
  obtain ⟨T', h', X', e', W, st⟩ := stJ X hx hZ eT A (j := j) (inb hi hlt r1) (g := mkF m pc L (.long x :: .int j :: .ref a :: S)) rfl rfl (hb hby hd)
  rw [clamp_of hi] at W
  exact go_by st (r T' h' ⟨_, X', Fr.snoc X' N ga, e'⟩ (A0.set hlt W) (Keep.of_wr W))
theorem g_bastoreB (X : St p l e R s m args below meth c n0 T h cells slots) (C : Cx p s m meth c Z bytes maxL ret own nme) {a : Addr} {n i : Nat} {fn : Nat → Value} {j : Int32} {x : Int32} (A : Ar Z h a .byte n fn) (hi : j.toInt = i) (hlt : i < n) (ga : n0 ≤ a) (hd : decode bytes pc = .ok (.bastore, 1)) (hp : pc + 1 = pc') (r : ∀ T' h', St p l e R s m args below meth c n0 T' h' cells slots → Ar Z h' a .byte n (fun k => if k = i then (.int (nar .byte x)) else fn k) → Keep h h' [a] → Go p e below Rest T' (mkF m pc' L S)) : Go p e below Rest T (mkF m pc L (.int x :: .int j :: .ref a :: S)) := by
  obtain ⟨locs, X, N, eT⟩ := X; obtain ⟨hx, hby, -, -, -, hown, hnm, hZ⟩ := C; subst hp
  have A0 := A
  obtain ⟨cl, A, r1, r2⟩ := A
  obtain ⟨T', h', X', e', W, st⟩ := stB X hx hZ eT A (j := j) (inb hi hlt r1) (g := mkF m pc L (.int x :: .int j :: .ref a :: S)) rfl rfl (hb hby hd)
  rw [clamp_of hi] at W
  exact go_by st (r T' h' ⟨_, X', Fr.snoc X' N ga, e'⟩ (A0.set hlt W) (Keep.of_wr W))
theorem g_bastoreZ (X : St p l e R s m args below meth c n0 T h cells slots) (C : Cx p s m meth c Z bytes maxL ret own nme) {a : Addr} {n i : Nat} {fn : Nat → Value} {j : Int32} {x : Int32} (A : Ar Z h a .boolean n fn) (hi : j.toInt = i) (hlt : i < n) (ga : n0 ≤ a) (hd : decode bytes pc = .ok (.bastore, 1)) (hp : pc + 1 = pc') (r : ∀ T' h', St p l e R s m args below meth c n0 T' h' cells slots → Ar Z h' a .boolean n (fun k => if k = i then (.int (nar .boolean x)) else fn k) → Keep h h' [a] → Go p e below Rest T' (mkF m pc' L S)) : Go p e below Rest T (mkF m pc L (.int x :: .int j :: .ref a :: S)) := by
  obtain ⟨locs, X, N, eT⟩ := X; obtain ⟨hx, hby, -, -, -, hown, hnm, hZ⟩ := C; subst hp
  have A0 := A
  obtain ⟨cl, A, r1, r2⟩ := A
  obtain ⟨T', h', X', e', W, st⟩ := stZ X hx hZ eT A (j := j) (inb hi hlt r1) (g := mkF m pc L (.int x :: .int j :: .ref a :: S)) rfl rfl (hb hby hd)
  rw [clamp_of hi] at W
  exact go_by st (r T' h' ⟨_, X', Fr.snoc X' N ga, e'⟩ (A0.set hlt W) (Keep.of_wr W))
theorem g_initO (X : St p l e R s m args below meth c n0 T h cells slots) (C : Cx p s m meth c Z bytes maxL ret own nme) {index : Nat} {a : Addr} {W : Nat} (w1 : (Jvm.Cond.methodLink own index Lib.objectInit).before a0 Z = true) (w2 : (Jvm.Cond.instanceMethod Lib.objectInit).before a0 Z = true) (w3 : (Jvm.Cond.code Lib.objectInit ⟨#[0xb1]⟩ 1 none).before a0 Z = true) (hsz : L.size = maxL) (hW : (S.map fun v => v.category).sum = W) (hf : 1 ≤ R.frames) (hl : W + 12 ≤ R.locals) (hd : decode bytes pc = .ok (.invokespecial index, 3)) (hp : pc + 3 = pc') (r : ∀ T', St p l e R s m args below meth c n0 T' h cells slots → Go p e below Rest T' (mkF m pc' L S)) : Go p e below Rest T (mkF m pc L (.ref a :: S)) := by
  obtain ⟨locs, X, N, eT⟩ := X; obtain ⟨hx, hby, hml, -, -, hown, hnm, hZ⟩ := C; subst hp
  obtain ⟨T', X', e', st⟩ := initO X hx hZ hown w1 w2 w3 eT (g := mkF m pc L (.ref a :: S)) rfl (by rw [hml]; exact hsz) rfl (hb hby hd) hf (W := W) (by show 2 * 0 + _ ≤ _; omega) hl
  exact go_by st (r T' ⟨locs, X', N, e'⟩)
theorem g_static (X : St p l e R s m args below meth c n0 T h cells slots) (C : Cx p s m meth c Z bytes maxL ret own nme) {y : MethodName} {bytes' : ByteArray} {maxL' : Nat} {ret' : Option FieldType} {rm : Room} {as : Array Value} {Q : Option Value → Heap → Prop} {index : Nat} {W : Nat} {argsL rest : List Value} {ps : List FieldType} {rt : Option FieldType} (hM : Ctr l y bytes' maxL' ret' rm Z n0 as h Q []) (w1 : (Jvm.Cond.methodLink own index y).before a0 Z = true) (w2 : (Jvm.Cond.static y).before a0 Z = true) (w3 : (Jvm.Cond.initialized y.cls).before a0 Z = true) (w4 : (Jvm.Cond.code y bytes' maxL' ret').before a0 Z = true) (hy : y.cls ≠ "java/lang/invoke/MethodHandle" ∧ y.cls ≠ "java/lang/invoke/VarHandle") (pd : parseMethodDescriptor y.desc = some ⟨ps, rt⟩) (hal : argsL.length = ps.length) (has : argsL.toArray = as) (hs : S = argsL.reverse ++ rest) (hsz : L.size = maxL) (hW : (rest.map fun v => v.category).sum = W) (hf : rm.frames + 1 ≤ R.frames) (hl : W + (maxL' + 11) + rm.locals ≤ R.locals) (hc : cells + rm.cells ≤ R.cells) (hsl : slots + rm.slots ≤ R.slots) (hd : decode bytes pc = .ok (.invokestatic index, 3)) (hp : pc + 3 = pc') (r : ∀ v T' h', Q v h' → St p l e R s m args below meth c n0 T' h' (cells + rm.cells) (slots + rm.slots) → Go p e below Rest T' (mkF m pc' L (v.toList ++ rest))) : Go p e below Rest T (mkF m pc L S) := by
  obtain ⟨locs, X, N, eT⟩ := X; obtain ⟨hx, hby, hml, -, -, hown, hnm, hZ⟩ := C; subst hp
  obtain ⟨v, _, ⟨T', L1, k1, n1⟩, -, X', ⟨Lc, ⟨hQ, hN⟩, l1, y1, z1⟩, st⟩ := Jvm.LawKit.callS X hx (y := y) hown (mvT hZ w1) (mvT hZ w2) (mvT hZ w3) (mvT hZ w4) hy (backOf (W := W) (Q := fun v h L => Q v h ∧ Fr n0 L) hM hZ w4 w3 hf hl) (g := mkF m pc L S) rfl (by rw [hml]; exact hsz) (argsL := argsL) (rest := rest) (lenOf pd hal) hs (by show 2 * 0 + _ ≤ _; omega) (hb hby hd) (fun _ _ => ⟨has, eT, hc, hsl⟩)
  dsimp only [Pt.U, Pt.locs, Pt.cells, Pt.slots] at X' l1 y1 z1 st hQ
  subst l1 y1 z1
  exact go_by st (r v T' _ hQ ⟨_, X', Fr.app N hN, rfl⟩)
theorem g_special (X : St p l e R s m args below meth c n0 T h cells slots) (C : Cx p s m meth c Z bytes maxL ret own nme) {y : MethodName} {bytes' : ByteArray} {maxL' : Nat} {ret' : Option FieldType} {rm : Room} {as : Array Value} {Q : Option Value → Heap → Prop} {index : Nat} {W : Nat} {argsL rest : List Value} {ps : List FieldType} {rt : Option FieldType} (hM : Ctr l y bytes' maxL' ret' rm Z n0 as h Q []) {a : Addr} (hy1 : y.name = "<init>") (hret : ret' = none) (w1 : (Jvm.Cond.methodLink own index y).before a0 Z = true) (w2 : (Jvm.Cond.instanceMethod y).before a0 Z = true) (w3 : (Jvm.Cond.initialized y.cls).before a0 Z = true) (w4 : (Jvm.Cond.code y bytes' maxL' ret').before a0 Z = true) (hy : y.cls ≠ "java/lang/invoke/MethodHandle" ∧ y.cls ≠ "java/lang/invoke/VarHandle") (pd : parseMethodDescriptor y.desc = some ⟨ps, rt⟩) (hal : argsL.length = ps.length) (has : (.ref a :: argsL).toArray = as) (hs : S = argsL.reverse ++ .ref a :: rest) (hsz : L.size = maxL) (hW : (rest.map fun v => v.category).sum = W) (hf : rm.frames + 1 ≤ R.frames) (hl : W + (maxL' + 11) + rm.locals ≤ R.locals) (hc : cells + rm.cells ≤ R.cells) (hsl : slots + rm.slots ≤ R.slots) (hd : decode bytes pc = .ok (.invokespecial index, 3)) (hp : pc + 3 = pc') (r : ∀ v T' h', Q v h' → St p l e R s m args below meth c n0 T' h' (cells + rm.cells) (slots + rm.slots) → Go p e below Rest T' (mkF m pc' L (v.toList ++ rest))) : Go p e below Rest T (mkF m pc L S) := by
  obtain ⟨locs, X, N, eT⟩ := X; obtain ⟨hx, hby, hml, -, -, hown, hnm, hZ⟩ := C; subst hp hret
  obtain ⟨v, _, ⟨T', L1, k1, n1⟩, -, X', ⟨Lc, ⟨hQ, hN⟩, l1, y1, z1⟩, st⟩ := X.specialBack hx (y := y) hy1 hown (mvT hZ w1) (mvT hZ w2) (mvT hZ w4) hy (backOf (W := W) (Q := fun v h L => Q v h ∧ Fr n0 L) hM hZ w4 w3 hf hl) (g := mkF m pc L S) rfl (by rw [hml]; exact hsz) (Steps.refl _) (a := a) (argsL := argsL) (rest := rest) (lenOf pd hal) hs (by show 2 * 0 + _ ≤ _; omega) (hb hby hd) (fun _ _ => ⟨has, eT, hc, hsl⟩)
  dsimp only [Pt.U, Pt.locs, Pt.cells, Pt.slots] at X' l1 y1 z1 st hQ
  subst l1 y1 z1
  exact go_tr st (r v T' _ hQ ⟨_, X', Fr.app N hN, rfl⟩)
theorem g_virtual (X : St p l e R s m args below meth c n0 T h cells slots) (C : Cx p s m meth c Z bytes maxL ret own nme) {y : MethodName} {bytes' : ByteArray} {maxL' : Nat} {ret' : Option FieldType} {rm : Room} {as : Array Value} {Q : Option Value → Heap → Prop} {index : Nat} {W : Nat} {argsL rest : List Value} {ps : List FieldType} {rt : Option FieldType} (hM : Ctr l y bytes' maxL' ret' rm Z n0 as h Q []) {a : Addr} (Ex : Exa Z h a y.cls) (w1 : (Jvm.Cond.methodLink own index y).before a0 Z = true) (w2 : (Jvm.Cond.declares y).before a0 Z = true) (ws : (Jvm.Cond.selects y.cls y y).before a0 Z = true) (wi : (Jvm.Cond.instanceMethod y).before a0 Z = true) (w3 : (Jvm.Cond.initialized y.cls).before a0 Z = true) (w4 : (Jvm.Cond.code y bytes' maxL' ret').before a0 Z = true) (hy : y.cls ≠ "java/lang/invoke/MethodHandle" ∧ y.cls ≠ "java/lang/invoke/VarHandle") (pd : parseMethodDescriptor y.desc = some ⟨ps, rt⟩) (hal : argsL.length = ps.length) (has : (.ref a :: argsL).toArray = as) (hs : S = argsL.reverse ++ .ref a :: rest) (hsz : L.size = maxL) (hW : (rest.map fun v => v.category).sum = W) (hf : rm.frames + 1 ≤ R.frames) (hl : W + (maxL' + 11) + rm.locals ≤ R.locals) (hc : cells + rm.cells ≤ R.cells) (hsl : slots + rm.slots ≤ R.slots) (hd : decode bytes pc = .ok (.invokevirtual index, 3)) (hp : pc + 3 = pc') (r : ∀ v T' h', Q v h' → St p l e R s m args below meth c n0 T' h' (cells + rm.cells) (slots + rm.slots) → Go p e below Rest T' (mkF m pc' L (v.toList ++ rest))) : Go p e below Rest T (mkF m pc L S) := by
  obtain ⟨locs, X, N, eT⟩ := X; obtain ⟨hx, hby, hml, -, -, hown, hnm, hZ⟩ := C; subst hp
  obtain ⟨cq, kq, qa, qb, qc⟩ := isOf hZ eT Ex
  obtain ⟨v, _, ⟨T', L1, k1, n1⟩, -, X', ⟨Lc, ⟨hQ, hN⟩, l1, y1, z1⟩, st⟩ := X.virtualBack hx (y := y) (z := y) hown (mvT hZ w1) (mvT hZ w2) (notFace_of_selects (args := #[]) (mvT hZ ws)) (mvT hZ ws) (mvT hZ wi) hy (backOf (W := W) (Q := fun v h L => Q v h ∧ Fr n0 L) hM hZ w4 w3 hf hl) qa qc (g := mkF m pc L S) rfl (by rw [hml]; exact hsz) (Steps.refl _) (argsL := argsL) (rest := rest) (lenOf pd hal) hs (by show 2 * 0 + _ ≤ _; omega) (hb hby hd) (fun _ _ => ⟨has, eT, hc, hsl⟩)
  dsimp only [Pt.U, Pt.locs, Pt.cells, Pt.slots] at X' l1 y1 z1 st hQ
  subst l1 y1 z1
  exact go_tr st (r v T' _ hQ ⟨_, X', Fr.app N hN, rfl⟩)
theorem g_retI {z : Int32} (X : St p l e R s m args below meth c n0 T h cells slots) (C : Cx p s m meth c Z bytes maxL (some .int) own nme) {Q : Option Value → Heap → Prop} {k n : Nat} (hd : decode bytes pc = .ok (.ireturn, 1)) (hQ : Q (some (.int z)) h) (hk : cells ≤ k) (hn : slots ≤ n) : Go p e below (Rs s below n0 Q k n) T (mkF m pc L (.int z :: S)) := by
  obtain ⟨locs, X, N, eT⟩ := X; obtain ⟨hx, hby, -, hret, hlk, -⟩ := C
  obtain ⟨fs, hr, hrun, hended, hW, hsame⟩ := X.leave (v := (some (.int z))) (fun q => by first | rfl | (rw [hret] at q; cases q)) hlk
  refine ⟨_, _, ?_, hrun, hended, _, _, rfl, ⟨?_, N⟩, ⟨_, rfl⟩, hW, hsame.mono hk hn⟩
  · exact retOut X hx hret rfl (Or.inl ⟨rfl, Or.inl rfl, z, rfl⟩) (hb hby hd) hr
  · show Q _ T.heap; rw [eT]; exact hQ
theorem g_retJ {z : Int64} (X : St p l e R s m args below meth c n0 T h cells slots) (C : Cx p s m meth c Z bytes maxL (some .long) own nme) {Q : Option Value → Heap → Prop} {k n : Nat} (hd : decode bytes pc = .ok (.lreturn, 1)) (hQ : Q (some (.long z)) h) (hk : cells ≤ k) (hn : slots ≤ n) : Go p e below (Rs s below n0 Q k n) T (mkF m pc L (.long z :: S)) := by
  obtain ⟨locs, X, N, eT⟩ := X; obtain ⟨hx, hby, -, hret, hlk, -⟩ := C
  obtain ⟨fs, hr, hrun, hended, hW, hsame⟩ := X.leave (v := (some (.long z))) (fun q => by first | rfl | (rw [hret] at q; cases q)) hlk
  refine ⟨_, _, ?_, hrun, hended, _, _, rfl, ⟨?_, N⟩, ⟨_, rfl⟩, hW, hsame.mono hk hn⟩
  · exact retOut X hx hret rfl (Or.inr (Or.inl ⟨rfl, rfl, z, rfl⟩)) (hb hby hd) hr
  · show Q _ T.heap; rw [eT]; exact hQ
theorem g_retZ {z : Int32} (X : St p l e R s m args below meth c n0 T h cells slots) (C : Cx p s m meth c Z bytes maxL (some .boolean) own nme) {Q : Option Value → Heap → Prop} {k n : Nat} (hd : decode bytes pc = .ok (.ireturn, 1)) (hQ : Q (some (.int (nar .boolean z))) h) (hk : cells ≤ k) (hn : slots ≤ n) : Go p e below (Rs s below n0 Q k n) T (mkF m pc L (.int z :: S)) := by
  obtain ⟨locs, X, N, eT⟩ := X; obtain ⟨hx, hby, -, hret, hlk, -⟩ := C
  obtain ⟨fs, hr, hrun, hended, hW, hsame⟩ := X.leave (v := (some (.int (nar .boolean z)))) (fun q => by first | rfl | (rw [hret] at q; cases q)) hlk
  refine ⟨_, _, ?_, hrun, hended, _, _, rfl, ⟨?_, N⟩, ⟨_, rfl⟩, hW, hsame.mono hk hn⟩
  · exact retN X hx (t := .boolean) hret (by simp) (hb hby hd) hr
  · show Q _ T.heap; rw [eT]; exact hQ
theorem g_retB {z : Int32} (X : St p l e R s m args below meth c n0 T h cells slots) (C : Cx p s m meth c Z bytes maxL (some .byte) own nme) {Q : Option Value → Heap → Prop} {k n : Nat} (hd : decode bytes pc = .ok (.ireturn, 1)) (hQ : Q (some (.int (nar .byte z))) h) (hk : cells ≤ k) (hn : slots ≤ n) : Go p e below (Rs s below n0 Q k n) T (mkF m pc L (.int z :: S)) := by
  obtain ⟨locs, X, N, eT⟩ := X; obtain ⟨hx, hby, -, hret, hlk, -⟩ := C
  obtain ⟨fs, hr, hrun, hended, hW, hsame⟩ := X.leave (v := (some (.int (nar .byte z)))) (fun q => by first | rfl | (rw [hret] at q; cases q)) hlk
  refine ⟨_, _, ?_, hrun, hended, _, _, rfl, ⟨?_, N⟩, ⟨_, rfl⟩, hW, hsame.mono hk hn⟩
  · exact retN X hx (t := .byte) hret (by simp) (hb hby hd) hr
  · show Q _ T.heap; rw [eT]; exact hQ
theorem g_retV  (X : St p l e R s m args below meth c n0 T h cells slots) (C : Cx p s m meth c Z bytes maxL none own nme) {Q : Option Value → Heap → Prop} {k n : Nat} (hd : decode bytes pc = .ok (.return_, 1)) (hQ : Q none h) (hk : cells ≤ k) (hn : slots ≤ n) : Go p e below (Rs s below n0 Q k n) T (mkF m pc L []) := by
  obtain ⟨locs, X, N, eT⟩ := X; obtain ⟨hx, hby, -, hret, hlk, -⟩ := C
  obtain ⟨fs, hr, hrun, hended, hW, hsame⟩ := X.leave (v := none) (fun q => by first | rfl | (rw [hret] at q; cases q)) hlk
  refine ⟨_, _, ?_, hrun, hended, _, _, rfl, ⟨?_, N⟩, ⟨_, rfl⟩, hW, hsame.mono hk hn⟩
  · exact X.returnOut hx hret (hb hby hd) hr
  · show Q _ T.heap; rw [eT]; exact hQ
theorem g_retA {v : Value} {ty : FieldType} (X : St p l e R s m args below meth c n0 T h cells slots) (C : Cx p s m meth c Z bytes maxL (some ty) own nme) {Q : Option Value → Heap → Prop} {k n : Nat} (hd : decode bytes pc = .ok (.areturn, 1)) (ht : ty.isReference = true) (hv : v.isRef = true) (hQ : Q (some v) h) (hk : cells ≤ k) (hn : slots ≤ n) : Go p e below (Rs s below n0 Q k n) T (mkF m pc L (v :: S)) := by
  obtain ⟨locs, X, N, eT⟩ := X; obtain ⟨hx, hby, -, hret, hlk, -⟩ := C
  obtain ⟨fs, hr, hrun, hended, hW, hsame⟩ := X.leave (v := (some v)) (fun q => by first | rfl | (rw [hret] at q; cases q)) hlk
  refine ⟨_, _, ?_, hrun, hended, _, _, rfl, ⟨?_, N⟩, ⟨_, rfl⟩, hW, hsame.mono hk hn⟩
  · exact retOut X hx hret (by cases ty <;> cases v <;> simp_all [narrow, FieldType.isReference, Value.isRef]) (Or.inr (Or.inr (Or.inr (Or.inr ⟨rfl, ht, hv⟩)))) (hb hby hd) hr
  · show Q _ T.heap; rw [eT]; exact hQ
end Lay
end Jvm.Own
namespace Jvm.Pilot.@@N@@
open Jvm Jvm.ClassFile Sem Op Lib Jvm.Free Jvm.Stand Jvm.LawKit Jvm.RoadKit Jvm.Own Bundle Jvm.Pilot.@@N@@.Jvm.D
def own_pw : Nat → Int
  | 0 => 1
  | 1 => 128
  | 2 => 16384
  | 3 => 2097152
  | _ => 268435456
def own_bI (c : Int) (j n : Nat) : Int := if j + 1 < n then (c / own_pw j) % 128 - 128 else (c / own_pw j) % 128
def own_R (c : Int) (n : Nat) : Prop := (n = 1 ∧ c < 128) ∨ (n = 2 ∧ 128 ≤ c ∧ c < 16384) ∨ (n = 3 ∧ 16384 ≤ c ∧ c < 2097152) ∨ (n = 4 ∧ 2097152 ≤ c ∧ c < 268435456) ∨ (n = 5 ∧ 268435456 ≤ c)
theorem own_narb (x : Int32) : nar .byte (x.toInt8.toInt32) = x.toInt8.toInt32 := by simp [nar]
set_option maxRecDepth 65536 in
theorem own_or128n (n : Nat) : (n ||| 128) % 256 = n % 128 + 128 := by
  have h1 : (n ||| 128) % 2 ^ 8 = (n % 2 ^ 8) ||| (128 % 2 ^ 8) := Nat.or_mod_two_pow
  have h3 : ∀ r, r < 256 → r ||| 128 = r % 128 + 128 := by decide
  have h4 := h3 (n % 256) (Nat.mod_lt _ (by decide))
  simp only [Nat.reducePow, Nat.reduceMod] at h1
  rw [h4] at h1; omega
theorem own_toInt (c : Int32) : c.toInt = if c.toBitVec.toNat < 2147483648 then (c.toBitVec.toNat : Int) else (c.toBitVec.toNat : Int) - 4294967296 := by
  show c.toBitVec.toInt = _
  rw [BitVec.toInt_eq_toNat_cond]; split <;> split <;> omega
theorem own_or128 (c : Int32) : (c ||| 128).toInt % 256 = c.toInt % 128 + 128 := by
  have h1 : (c ||| 128).toBitVec.toNat = c.toBitVec.toNat ||| 128 := by simp [BitVec.toNat_or]
  have h2 := own_toInt c; have h3 := own_toInt (c ||| 128)
  rw [h1] at h3
  have h4 := own_or128n c.toBitVec.toNat
  split at h3 <;> split at h2 <;> omega
theorem own_wb (v : Int32) : (nar .byte ((v ||| 128).toInt8.toInt32)).toInt = v.toInt % 128 - 128 := by
  rw [own_narb]; have g1 := c_i2b (v ||| 128); have g2 := own_or128 v; omega
theorem own_wl (v : Int32) (h0 : 0 ≤ v.toInt) (h1 : v.toInt < 128) : (nar .byte (v.toInt8.toInt32)).toInt = v.toInt := by
  rw [own_narb]; have g1 := c_i2b v; omega
theorem own_vn (v : Int32) (h0 : 0 ≤ v.toInt) : ((v.toUInt32 >>> ((7 : Int32) &&& 31).toUInt32).toInt32).toInt = v.toInt / 128 := by
  have h1 := c_iushr v 7 7 (by decide) (by decide); have h2 := rng32 v
  rw [h1, Int.emod_eq_of_lt h0 (by omega)]; rfl
theorem own_sh (c k : Int32) (j : Nat) (hj : j ≤ 4) (hk : k.toInt = j) (hc : 0 ≤ c.toInt) : (((c.toUInt32 >>> ((7 * k) &&& 31).toUInt32).toInt32) &&& 127).toInt = (c.toInt / own_pw j) % 128 := by
  have h1 := c_mask ((c.toUInt32 >>> ((7 * k) &&& 31).toUInt32).toInt32) 127 7 (by decide) (by decide)
  rw [h1]
  have h3 := rng32 c
  have hq : j = 0 ∨ j = 1 ∨ j = 2 ∨ j = 3 ∨ j = 4 := by omega
  rcases hq with rfl | rfl | rfl | rfl | rfl
  · have hk0 : k = 0 := Int32.toInt_inj.mp (by rw [hk]; decide)
    subst hk0
    have h2 : ((c.toUInt32 >>> ((7 * (0 : Int32)) &&& 31).toUInt32).toInt32) = c := by
      have : ((7 * (0 : Int32)) &&& 31).toUInt32 = 0 := by decide
      rw [this]; simp
    rw [h2]; simp [own_pw]
  · have hk0 : k = 1 := Int32.toInt_inj.mp (by rw [hk]; decide)
    subst hk0; rw [c_iushr c (7 * 1) 7 (by decide) (by decide), Int.emod_eq_of_lt hc (by omega)]; simp [own_pw]
  · have hk0 : k = 2 := Int32.toInt_inj.mp (by rw [hk]; decide)
    subst hk0; rw [c_iushr c (7 * 2) 14 (by decide) (by decide), Int.emod_eq_of_lt hc (by omega)]; simp [own_pw]
  · have hk0 : k = 3 := Int32.toInt_inj.mp (by rw [hk]; decide)
    subst hk0; rw [c_iushr c (7 * 3) 21 (by decide) (by decide), Int.emod_eq_of_lt hc (by omega)]; simp [own_pw]
  · have hk0 : k = 4 := Int32.toInt_inj.mp (by rw [hk]; decide)
    subst hk0; rw [c_iushr c (7 * 4) 28 (by decide) (by decide), Int.emod_eq_of_lt hc (by omega)]; simp [own_pw]

theorem own_shr0 (x q : Int32) (hq : q.toBitVec.toNat % 32 = 0) : ((x.toUInt32 >>> (q &&& 31).toUInt32).toInt32) = x := by
  have h1 : (q &&& 31).toUInt32 = 0 := by
    apply UInt32.toNat_inj.mp
    have h2 : (q &&& 31).toUInt32.toNat = q.toBitVec.toNat &&& 31 := by
      show (q.toBitVec &&& 31#32).toNat = _
      rw [BitVec.toNat_and]; rfl
    rw [h2, show (31 : Nat) = 2 ^ 5 - 1 by decide, Nat.and_two_pow_sub_one_eq_mod]
    exact hq
  rw [h1]; simp

theorem d1_0 : decode prog_133_method_11_code 0 = .ok (.iload_n 2, 1) := by decide +kernel
theorem d1_1 : decode prog_133_method_11_code 1 = .ok (.istore_n 3, 1) := by decide +kernel
theorem d1_2 : decode prog_133_method_11_code 2 = .ok (.iload_n 3, 1) := by decide +kernel
theorem d1_3 : decode prog_133_method_11_code 3 = .ok (.sipush 128, 3) := by decide +kernel
theorem d1_6 : decode prog_133_method_11_code 6 = .ok (.if_icmp .lt 23, 3) := by decide +kernel
theorem d1_9 : decode prog_133_method_11_code 9 = .ok (.aload_n 0, 1) := by decide +kernel
theorem d1_10 : decode prog_133_method_11_code 10 = .ok (.iload_n 1, 1) := by decide +kernel
theorem d1_11 : decode prog_133_method_11_code 11 = .ok (.iinc 1 1, 3) := by decide +kernel
theorem d1_14 : decode prog_133_method_11_code 14 = .ok (.iload_n 3, 1) := by decide +kernel
theorem d1_15 : decode prog_133_method_11_code 15 = .ok (.sipush 128, 3) := by decide +kernel
theorem d1_18 : decode prog_133_method_11_code 18 = .ok (.ior, 1) := by decide +kernel
theorem d1_19 : decode prog_133_method_11_code 19 = .ok (.i2b, 1) := by decide +kernel
theorem d1_20 : decode prog_133_method_11_code 20 = .ok (.bastore, 1) := by decide +kernel
theorem d1_21 : decode prog_133_method_11_code 21 = .ok (.iload_n 3, 1) := by decide +kernel
theorem d1_22 : decode prog_133_method_11_code 22 = .ok (.bipush 7, 2) := by decide +kernel
theorem d1_24 : decode prog_133_method_11_code 24 = .ok (.iushr, 1) := by decide +kernel
theorem d1_25 : decode prog_133_method_11_code 25 = .ok (.istore_n 3, 1) := by decide +kernel
theorem d1_26 : decode prog_133_method_11_code 26 = .ok (.goto (-24), 3) := by decide +kernel
theorem d1_29 : decode prog_133_method_11_code 29 = .ok (.aload_n 0, 1) := by decide +kernel
theorem d1_30 : decode prog_133_method_11_code 30 = .ok (.iload_n 1, 1) := by decide +kernel
theorem d1_31 : decode prog_133_method_11_code 31 = .ok (.iinc 1 1, 3) := by decide +kernel
theorem d1_34 : decode prog_133_method_11_code 34 = .ok (.iload_n 3, 1) := by decide +kernel
theorem d1_35 : decode prog_133_method_11_code 35 = .ok (.i2b, 1) := by decide +kernel
theorem d1_36 : decode prog_133_method_11_code 36 = .ok (.bastore, 1) := by decide +kernel
theorem d1_37 : decode prog_133_method_11_code 37 = .ok (.iload_n 1, 1) := by decide +kernel
theorem d1_38 : decode prog_133_method_11_code 38 = .ok (.ireturn, 1) := by decide +kernel
theorem d2_0 : decode method_3_code 0 = .ok (.iload_n 1, 1) := by decide +kernel
theorem d2_1 : decode method_3_code 1 = .ok (.iload_n 2, 1) := by decide +kernel
theorem d2_2 : decode method_3_code 2 = .ok (.isub, 1) := by decide +kernel
theorem d2_3 : decode method_3_code 3 = .ok (.istore 6, 2) := by decide +kernel
theorem d2_5 : decode method_3_code 5 = .ok (.iload 6, 2) := by decide +kernel
theorem d2_7 : decode method_3_code 7 = .ok (.ifCond .lt 9, 3) := by decide +kernel
theorem d2_10 : decode method_3_code 10 = .ok (.iload 6, 2) := by decide +kernel
theorem d2_12 : decode method_3_code 12 = .ok (.iload_n 3, 1) := by decide +kernel
theorem d2_13 : decode method_3_code 13 = .ok (.if_icmp .lt 10, 3) := by decide +kernel
theorem d2_16 : decode method_3_code 16 = .ok (.iload 5, 2) := by decide +kernel
theorem d2_18 : decode method_3_code 18 = .ok (.istore 7, 2) := by decide +kernel
theorem d2_20 : decode method_3_code 20 = .ok (.goto 37, 3) := by decide +kernel
theorem d2_23 : decode method_3_code 23 = .ok (.iload 4, 2) := by decide +kernel
theorem d2_25 : decode method_3_code 25 = .ok (.bipush 7, 2) := by decide +kernel
theorem d2_27 : decode method_3_code 27 = .ok (.iload 6, 2) := by decide +kernel
theorem d2_29 : decode method_3_code 29 = .ok (.imul, 1) := by decide +kernel
theorem d2_30 : decode method_3_code 30 = .ok (.iushr, 1) := by decide +kernel
theorem d2_31 : decode method_3_code 31 = .ok (.bipush 127, 2) := by decide +kernel
theorem d2_33 : decode method_3_code 33 = .ok (.iand, 1) := by decide +kernel
theorem d2_34 : decode method_3_code 34 = .ok (.istore 8, 2) := by decide +kernel
theorem d2_36 : decode method_3_code 36 = .ok (.iload 6, 2) := by decide +kernel
theorem d2_38 : decode method_3_code 38 = .ok (.iload_n 3, 1) := by decide +kernel
theorem d2_39 : decode method_3_code 39 = .ok (.iconst 1, 1) := by decide +kernel
theorem d2_40 : decode method_3_code 40 = .ok (.isub, 1) := by decide +kernel
theorem d2_41 : decode method_3_code 41 = .ok (.if_icmp .ge 11, 3) := by decide +kernel
theorem d2_44 : decode method_3_code 44 = .ok (.iload 8, 2) := by decide +kernel
theorem d2_46 : decode method_3_code 46 = .ok (.sipush 128, 3) := by decide +kernel
theorem d2_49 : decode method_3_code 49 = .ok (.ior, 1) := by decide +kernel
theorem d2_50 : decode method_3_code 50 = .ok (.istore 8, 2) := by decide +kernel
theorem d2_52 : decode method_3_code 52 = .ok (.iload 8, 2) := by decide +kernel
theorem d2_54 : decode method_3_code 54 = .ok (.i2b, 1) := by decide +kernel
theorem d2_55 : decode method_3_code 55 = .ok (.istore 7, 2) := by decide +kernel
theorem d2_57 : decode method_3_code 57 = .ok (.aload_n 0, 1) := by decide +kernel
theorem d2_58 : decode method_3_code 58 = .ok (.iload_n 1, 1) := by decide +kernel
theorem d2_59 : decode method_3_code 59 = .ok (.baload, 1) := by decide +kernel
theorem d2_60 : decode method_3_code 60 = .ok (.iload 7, 2) := by decide +kernel
theorem d2_62 : decode method_3_code 62 = .ok (.if_icmp .ne 7, 3) := by decide +kernel
theorem d2_65 : decode method_3_code 65 = .ok (.iconst 1, 1) := by decide +kernel
theorem d2_66 : decode method_3_code 66 = .ok (.goto 4, 3) := by decide +kernel
theorem d2_69 : decode method_3_code 69 = .ok (.iconst 0, 1) := by decide +kernel
theorem d2_70 : decode method_3_code 70 = .ok (.ireturn, 1) := by decide +kernel
theorem pn_0 : plainName "com/example/libxmlkey/libxmlkey/RecordBytes" = true := by first | (simp [plainName, overriddenIn]; done) | decide +kernel
theorem pn_1 : plainName "com/example/libxmlkey/libxmlkey/RecordBytesWriteCountPinLaw" = true := by first | (simp [plainName, overriddenIn]; done) | decide +kernel
theorem pd_0 : parseMethodDescriptor "([BII)I" = some ⟨[(.array .byte), .int, .int], some .int⟩ := by decide +kernel
theorem pd_1 : parseMethodDescriptor "([BIIIIB)Z" = some ⟨[(.array .byte), .int, .int, .int, .int, .byte], some .boolean⟩ := by decide +kernel
theorem ef_rmW (m : MethodId) (a1 : Addr) (p2 : Int32) (p3 : Int32) : entryFrame m #[(.ref a1), (.int p2), (.int p3)] 4 = mkF m 0 #[.val (.ref a1), .val (.int p2), .val (.int p3), .unset] [] := by first | (simp [entryFrame, mkF, argsToLocals, Value.category]; done) | rfl
set_option maxRecDepth 65536 in
set_option maxHeartbeats 40000000 in
theorem rmW (l : Launch) (Z : State) (a0 : Array Value) (hw : ∀ d ∈ tables_1, d.before a0 Z = true) (a1 : Addr) (p2 p3 : Int32) (g : Nat → Int32) (o : Nat) (h0 : Heap) (n0 : Nat) (hz0 : n0 ≤ h0.size) (ho : p2.toInt = o) (ho7 : o ≤ 7) (hc0 : 0 ≤ p3.toInt ∧ p3.toInt < 2147483648) (ga_a1 : n0 ≤ a1) (A_a1 : Ar Z h0 a1 .byte 12 (fun k => .int (g k))) (ws : List Jvm.Cond) :
    Ctr l (⟨"com/example/libxmlkey/libxmlkey/RecordBytes", "writeCount", "([BII)I"⟩ : MethodName) prog_133_method_11_code 4 (some .int) ({ frames := 0, cells := 0, slots := 0, locals := 0 } : Room) Z n0 #[(.ref a1), (.int p2), (.int p3)] h0 (fun v h => ∃ (n : Nat) (gf : Nat → Int32) (r : Int32), own_R p3.toInt n ∧ v = some (.int r) ∧ r.toInt = (o + n : Nat) ∧ Keep h0 h [a1] ∧ Ar Z h a1 .byte 12 (fun k => .int (gf k)) ∧ ∀ k, k < 12 → (gf k).toInt = if o ≤ k ∧ k < o + n then own_bI p3.toInt (k - o) n else (g k).toInt) ws := by
  refine ctr_of (plainFor_of_name pn_0) ?_
  intro p e s m below meth c T0 X0 C
  refine go_cast (ef_rmW m a1 p2 p3) ?_
  obtain ⟨RS, hRS⟩ : ∃ RS, RS = Rs s below n0 (fun v h => ∃ (n : Nat) (gf : Nat → Int32) (r : Int32), own_R p3.toInt n ∧ v = some (.int r) ∧ r.toInt = (o + n : Nat) ∧ Keep h0 h [a1] ∧ Ar Z h a1 .byte 12 (fun k => .int (gf k)) ∧ ∀ k, k < 12 → (gf k).toInt = if o ≤ k ∧ k < o + n then own_bI p3.toInt (k - o) n else (g k).toInt) ({ frames := 0, cells := 0, slots := 0, locals := 0 } : Room).cells ({ frames := 0, cells := 0, slots := 0, locals := 0 } : Room).slots := ⟨_, rfl⟩
  suffices HG : Go p e below RS T0 (mkF m 0 #[.val (.ref a1), .val (.int p2), .val (.int p3), .unset] []) by rw [hRS] at HG; exact HG
  show Go p e below RS T0 (mkF m 0 #[.val (.ref a1), .val (.int p2), .val (.int p3), .unset] [])
  refine g_iloadN X0 C d1_0 rfl rfl ?_
  refine g_istoreN (L' := #[.val (.ref a1), .val (.int p2), .val (.int p3), .val (.int p3)]) X0 C d1_1 rfl rfl rfl ?_
  refine g_iloadN X0 C d1_2 rfl rfl ?_
  refine g_sipush (v := 128) X0 C d1_3 (by decide) rfl ?_
  refine g_icmp_lt (a := p3.toInt) (b := 128) X0 C d1_6 rfl (by decide) (by decide) (pT := 29) (by decide) (pF := 9) rfl (fun hc6 => ?_) (fun hc6 => ?_)
  ·
    refine g_aloadN X0 C d1_29 rfl rfl rfl ?_
    refine g_iloadN X0 C d1_30 rfl rfl ?_
    obtain ⟨i1, h_i1⟩ : ∃ z, z = (p2 + (1 : Int32)) := ⟨_, rfl⟩
    have hx_i1 : i1.toInt = (o + 1 : Nat) := by
        have g1 := c_iadd p2 1; have g2 := rng32 i1; have g3 : (1 : Int32).toInt = 1 := by decide
        rw [← h_i1] at g1; omega
    refine g_iinc (L' := #[.val (.ref a1), .val (.int i1), .val (.int p3), .val (.int p3)]) X0 C d1_31 rfl h_i1 rfl rfl ?_
    refine g_iloadN X0 C d1_34 rfl rfl ?_
    refine g_i2b X0 C d1_35 rfl ?_
    refine g_bastoreB (i := o) X0 C A_a1 ho (by omega) ga_a1 d1_36 rfl (fun T2 h4 X3 A_a1 K5 => ?_)
    have hz6 := Nat.le_trans hz0 K5.1
    have KK7 := (Keep.refl h0 [a1]).trans K5 (allS (Or.inl (List.mem_of_getElem? (i := 0) rfl)) all0)
    refine g_iloadN X3 C d1_37 rfl rfl ?_
    rw [hRS]
    refine g_retI X3 C d1_38 ?_ (by decide) (by decide)
    refine ⟨1, (fun k => if k = o then ((nar .byte p3.toInt8.toInt32)) else g k), _, by unfold own_R; omega, rfl, hx_i1, KK7, A_a1.congr (fun j hj => ?_), fun k hk => ?_⟩
    · (try dsimp only); repeat' split
      all_goals rfl
    · (try dsimp only)
      by_cases q0 : k = o + 0
      · rw [q0]
        rw [if_pos (c := o ≤ o + 0 ∧ o + 0 < o + 1) ⟨by omega, by omega⟩]
        rw [if_pos (by omega)]
        rw [show o + 0 - o = 0 by omega]
        rw [own_wl _ (by omega) (by omega)]; simp only [own_bI, own_pw]; rw [if_neg (by decide)]; omega
      rw [if_neg (c := o ≤ k ∧ k < o + 1) (by omega)]
      rw [if_neg (by omega)]
  ·
    refine g_aloadN X0 C d1_9 rfl rfl rfl ?_
    refine g_iloadN X0 C d1_10 rfl rfl ?_
    obtain ⟨i8, h_i8⟩ : ∃ z, z = (p2 + (1 : Int32)) := ⟨_, rfl⟩
    have hx_i8 : i8.toInt = (o + 1 : Nat) := by
        have g1 := c_iadd p2 1; have g2 := rng32 i8; have g3 : (1 : Int32).toInt = 1 := by decide
        rw [← h_i8] at g1; omega
    refine g_iinc (L' := #[.val (.ref a1), .val (.int i8), .val (.int p3), .val (.int p3)]) X0 C d1_11 rfl h_i8 rfl rfl ?_
    refine g_iloadN X0 C d1_14 rfl rfl ?_
    refine g_sipush (v := 128) X0 C d1_15 (by decide) rfl ?_
    refine g_ior X0 C d1_18 rfl ?_
    refine g_i2b X0 C d1_19 rfl ?_
    refine g_bastoreB (i := o) X0 C A_a1 ho (by omega) ga_a1 d1_20 rfl (fun T9 h11 X10 A_a1 K12 => ?_)
    have hz13 := Nat.le_trans hz0 K12.1
    have KK14 := (Keep.refl h0 [a1]).trans K12 (allS (Or.inl (List.mem_of_getElem? (i := 0) rfl)) all0)
    refine g_iloadN X10 C d1_21 rfl rfl ?_
    refine g_bipush (v := 7) X10 C d1_22 (by decide) rfl ?_
    refine g_iushr X10 C d1_24 rfl ?_
    obtain ⟨i15, h_i15⟩ : ∃ z, z = ((p3.toUInt32 >>> ((7 : Int32) &&& 31).toUInt32).toInt32) := ⟨_, rfl⟩
    have hv_i15 : i15.toInt = p3.toInt / 128 := by rw [h_i15]; exact own_vn _ (by omega)
    refine g_istoreN (L' := #[.val (.ref a1), .val (.int i8), .val (.int p3), .val (.int i15)]) X10 C d1_25 h_i15 rfl rfl ?_
    refine g_goto (pc' := 2) X10 C d1_26 (by decide) (by decide) ?_
    refine g_iloadN X10 C d1_2 rfl rfl ?_
    refine g_sipush (v := 128) X10 C d1_3 (by decide) rfl ?_
    refine g_icmp_lt (a := i15.toInt) (b := 128) X10 C d1_6 rfl (by decide) (by decide) (pT := 29) (by decide) (pF := 9) rfl (fun hc6 => ?_) (fun hc6 => ?_)
    ·
      refine g_aloadN X10 C d1_29 rfl rfl rfl ?_
      refine g_iloadN X10 C d1_30 rfl rfl ?_
      obtain ⟨i16, h_i16⟩ : ∃ z, z = (i8 + (1 : Int32)) := ⟨_, rfl⟩
      have hx_i16 : i16.toInt = (o + 2 : Nat) := by
          have g1 := c_iadd i8 1; have g2 := rng32 i16; have g3 : (1 : Int32).toInt = 1 := by decide
          rw [← h_i16] at g1; omega
      refine g_iinc (L' := #[.val (.ref a1), .val (.int i16), .val (.int p3), .val (.int i15)]) X10 C d1_31 rfl h_i16 rfl rfl ?_
      refine g_iloadN X10 C d1_34 rfl rfl ?_
      refine g_i2b X10 C d1_35 rfl ?_
      refine g_bastoreB (i := (o + 1)) X10 C A_a1 hx_i8 (by omega) ga_a1 d1_36 rfl (fun T17 h19 X18 A_a1 K20 => ?_)
      have hz21 := Nat.le_trans hz13 K20.1
      have KK22 := KK14.trans K20 (allS (Or.inl (List.mem_of_getElem? (i := 0) rfl)) all0)
      refine g_iloadN X18 C d1_37 rfl rfl ?_
      rw [hRS]
      refine g_retI X18 C d1_38 ?_ (by decide) (by decide)
      refine ⟨2, (fun k => if k = (o + 1) then ((nar .byte i15.toInt8.toInt32)) else (fun k => if k = o then ((nar .byte (p3 ||| (128 : Int32)).toInt8.toInt32)) else g k) k), _, by unfold own_R; omega, rfl, hx_i16, KK22, A_a1.congr (fun j hj => ?_), fun k hk => ?_⟩
      · (try dsimp only); repeat' split
        all_goals rfl
      · (try dsimp only)
        by_cases q1 : k = o + 1
        · rw [q1]
          rw [if_pos (c := o ≤ o + 1 ∧ o + 1 < o + 2) ⟨by omega, by omega⟩]
          rw [if_pos (by omega)]
          rw [show o + 1 - o = 1 by omega]
          rw [own_wl _ (by omega) (by omega)]; simp only [own_bI, own_pw]; rw [if_neg (by decide)]; omega
        by_cases q0 : k = o + 0
        · rw [q0]
          rw [if_pos (c := o ≤ o + 0 ∧ o + 0 < o + 2) ⟨by omega, by omega⟩]
          rw [if_neg (by omega)]
          rw [if_pos (by omega)]
          rw [show o + 0 - o = 0 by omega]
          rw [own_wb]; simp only [own_bI, own_pw]; rw [if_pos (by decide)]; omega
        rw [if_neg (c := o ≤ k ∧ k < o + 2) (by omega)]
        rw [if_neg (by omega)]
        rw [if_neg (by omega)]
    ·
      refine g_aloadN X10 C d1_9 rfl rfl rfl ?_
      refine g_iloadN X10 C d1_10 rfl rfl ?_
      obtain ⟨i23, h_i23⟩ : ∃ z, z = (i8 + (1 : Int32)) := ⟨_, rfl⟩
      have hx_i23 : i23.toInt = (o + 2 : Nat) := by
          have g1 := c_iadd i8 1; have g2 := rng32 i23; have g3 : (1 : Int32).toInt = 1 := by decide
          rw [← h_i23] at g1; omega
      refine g_iinc (L' := #[.val (.ref a1), .val (.int i23), .val (.int p3), .val (.int i15)]) X10 C d1_11 rfl h_i23 rfl rfl ?_
      refine g_iloadN X10 C d1_14 rfl rfl ?_
      refine g_sipush (v := 128) X10 C d1_15 (by decide) rfl ?_
      refine g_ior X10 C d1_18 rfl ?_
      refine g_i2b X10 C d1_19 rfl ?_
      refine g_bastoreB (i := (o + 1)) X10 C A_a1 hx_i8 (by omega) ga_a1 d1_20 rfl (fun T24 h26 X25 A_a1 K27 => ?_)
      have hz28 := Nat.le_trans hz13 K27.1
      have KK29 := KK14.trans K27 (allS (Or.inl (List.mem_of_getElem? (i := 0) rfl)) all0)
      refine g_iloadN X25 C d1_21 rfl rfl ?_
      refine g_bipush (v := 7) X25 C d1_22 (by decide) rfl ?_
      refine g_iushr X25 C d1_24 rfl ?_
      obtain ⟨i30, h_i30⟩ : ∃ z, z = ((i15.toUInt32 >>> ((7 : Int32) &&& 31).toUInt32).toInt32) := ⟨_, rfl⟩
      have hv_i30 : i30.toInt = i15.toInt / 128 := by rw [h_i30]; exact own_vn _ (by omega)
      refine g_istoreN (L' := #[.val (.ref a1), .val (.int i23), .val (.int p3), .val (.int i30)]) X25 C d1_25 h_i30 rfl rfl ?_
      refine g_goto (pc' := 2) X25 C d1_26 (by decide) (by decide) ?_
      refine g_iloadN X25 C d1_2 rfl rfl ?_
      refine g_sipush (v := 128) X25 C d1_3 (by decide) rfl ?_
      refine g_icmp_lt (a := i30.toInt) (b := 128) X25 C d1_6 rfl (by decide) (by decide) (pT := 29) (by decide) (pF := 9) rfl (fun hc6 => ?_) (fun hc6 => ?_)
      ·
        refine g_aloadN X25 C d1_29 rfl rfl rfl ?_
        refine g_iloadN X25 C d1_30 rfl rfl ?_
        obtain ⟨i31, h_i31⟩ : ∃ z, z = (i23 + (1 : Int32)) := ⟨_, rfl⟩
        have hx_i31 : i31.toInt = (o + 3 : Nat) := by
            have g1 := c_iadd i23 1; have g2 := rng32 i31; have g3 : (1 : Int32).toInt = 1 := by decide
            rw [← h_i31] at g1; omega
        refine g_iinc (L' := #[.val (.ref a1), .val (.int i31), .val (.int p3), .val (.int i30)]) X25 C d1_31 rfl h_i31 rfl rfl ?_
        refine g_iloadN X25 C d1_34 rfl rfl ?_
        refine g_i2b X25 C d1_35 rfl ?_
        refine g_bastoreB (i := (o + 2)) X25 C A_a1 hx_i23 (by omega) ga_a1 d1_36 rfl (fun T32 h34 X33 A_a1 K35 => ?_)
        have hz36 := Nat.le_trans hz28 K35.1
        have KK37 := KK29.trans K35 (allS (Or.inl (List.mem_of_getElem? (i := 0) rfl)) all0)
        refine g_iloadN X33 C d1_37 rfl rfl ?_
        rw [hRS]
        refine g_retI X33 C d1_38 ?_ (by decide) (by decide)
        refine ⟨3, (fun k => if k = (o + 2) then ((nar .byte i30.toInt8.toInt32)) else (fun k => if k = (o + 1) then ((nar .byte (i15 ||| (128 : Int32)).toInt8.toInt32)) else (fun k => if k = o then ((nar .byte (p3 ||| (128 : Int32)).toInt8.toInt32)) else g k) k) k), _, by unfold own_R; omega, rfl, hx_i31, KK37, A_a1.congr (fun j hj => ?_), fun k hk => ?_⟩
        · (try dsimp only); repeat' split
          all_goals rfl
        · (try dsimp only)
          by_cases q2 : k = o + 2
          · rw [q2]
            rw [if_pos (c := o ≤ o + 2 ∧ o + 2 < o + 3) ⟨by omega, by omega⟩]
            rw [if_pos (by omega)]
            rw [show o + 2 - o = 2 by omega]
            rw [own_wl _ (by omega) (by omega)]; simp only [own_bI, own_pw]; rw [if_neg (by decide)]; omega
          by_cases q1 : k = o + 1
          · rw [q1]
            rw [if_pos (c := o ≤ o + 1 ∧ o + 1 < o + 3) ⟨by omega, by omega⟩]
            rw [if_neg (by omega)]
            rw [if_pos (by omega)]
            rw [show o + 1 - o = 1 by omega]
            rw [own_wb]; simp only [own_bI, own_pw]; rw [if_pos (by decide)]; omega
          by_cases q0 : k = o + 0
          · rw [q0]
            rw [if_pos (c := o ≤ o + 0 ∧ o + 0 < o + 3) ⟨by omega, by omega⟩]
            rw [if_neg (by omega)]
            rw [if_neg (by omega)]
            rw [if_pos (by omega)]
            rw [show o + 0 - o = 0 by omega]
            rw [own_wb]; simp only [own_bI, own_pw]; rw [if_pos (by decide)]; omega
          rw [if_neg (c := o ≤ k ∧ k < o + 3) (by omega)]
          rw [if_neg (by omega)]
          rw [if_neg (by omega)]
          rw [if_neg (by omega)]
      ·
        refine g_aloadN X25 C d1_9 rfl rfl rfl ?_
        refine g_iloadN X25 C d1_10 rfl rfl ?_
        obtain ⟨i38, h_i38⟩ : ∃ z, z = (i23 + (1 : Int32)) := ⟨_, rfl⟩
        have hx_i38 : i38.toInt = (o + 3 : Nat) := by
            have g1 := c_iadd i23 1; have g2 := rng32 i38; have g3 : (1 : Int32).toInt = 1 := by decide
            rw [← h_i38] at g1; omega
        refine g_iinc (L' := #[.val (.ref a1), .val (.int i38), .val (.int p3), .val (.int i30)]) X25 C d1_11 rfl h_i38 rfl rfl ?_
        refine g_iloadN X25 C d1_14 rfl rfl ?_
        refine g_sipush (v := 128) X25 C d1_15 (by decide) rfl ?_
        refine g_ior X25 C d1_18 rfl ?_
        refine g_i2b X25 C d1_19 rfl ?_
        refine g_bastoreB (i := (o + 2)) X25 C A_a1 hx_i23 (by omega) ga_a1 d1_20 rfl (fun T39 h41 X40 A_a1 K42 => ?_)
        have hz43 := Nat.le_trans hz28 K42.1
        have KK44 := KK29.trans K42 (allS (Or.inl (List.mem_of_getElem? (i := 0) rfl)) all0)
        refine g_iloadN X40 C d1_21 rfl rfl ?_
        refine g_bipush (v := 7) X40 C d1_22 (by decide) rfl ?_
        refine g_iushr X40 C d1_24 rfl ?_
        obtain ⟨i45, h_i45⟩ : ∃ z, z = ((i30.toUInt32 >>> ((7 : Int32) &&& 31).toUInt32).toInt32) := ⟨_, rfl⟩
        have hv_i45 : i45.toInt = i30.toInt / 128 := by rw [h_i45]; exact own_vn _ (by omega)
        refine g_istoreN (L' := #[.val (.ref a1), .val (.int i38), .val (.int p3), .val (.int i45)]) X40 C d1_25 h_i45 rfl rfl ?_
        refine g_goto (pc' := 2) X40 C d1_26 (by decide) (by decide) ?_
        refine g_iloadN X40 C d1_2 rfl rfl ?_
        refine g_sipush (v := 128) X40 C d1_3 (by decide) rfl ?_
        refine g_icmp_lt (a := i45.toInt) (b := 128) X40 C d1_6 rfl (by decide) (by decide) (pT := 29) (by decide) (pF := 9) rfl (fun hc6 => ?_) (fun hc6 => ?_)
        ·
          refine g_aloadN X40 C d1_29 rfl rfl rfl ?_
          refine g_iloadN X40 C d1_30 rfl rfl ?_
          obtain ⟨i46, h_i46⟩ : ∃ z, z = (i38 + (1 : Int32)) := ⟨_, rfl⟩
          have hx_i46 : i46.toInt = (o + 4 : Nat) := by
              have g1 := c_iadd i38 1; have g2 := rng32 i46; have g3 : (1 : Int32).toInt = 1 := by decide
              rw [← h_i46] at g1; omega
          refine g_iinc (L' := #[.val (.ref a1), .val (.int i46), .val (.int p3), .val (.int i45)]) X40 C d1_31 rfl h_i46 rfl rfl ?_
          refine g_iloadN X40 C d1_34 rfl rfl ?_
          refine g_i2b X40 C d1_35 rfl ?_
          refine g_bastoreB (i := (o + 3)) X40 C A_a1 hx_i38 (by omega) ga_a1 d1_36 rfl (fun T47 h49 X48 A_a1 K50 => ?_)
          have hz51 := Nat.le_trans hz43 K50.1
          have KK52 := KK44.trans K50 (allS (Or.inl (List.mem_of_getElem? (i := 0) rfl)) all0)
          refine g_iloadN X48 C d1_37 rfl rfl ?_
          rw [hRS]
          refine g_retI X48 C d1_38 ?_ (by decide) (by decide)
          refine ⟨4, (fun k => if k = (o + 3) then ((nar .byte i45.toInt8.toInt32)) else (fun k => if k = (o + 2) then ((nar .byte (i30 ||| (128 : Int32)).toInt8.toInt32)) else (fun k => if k = (o + 1) then ((nar .byte (i15 ||| (128 : Int32)).toInt8.toInt32)) else (fun k => if k = o then ((nar .byte (p3 ||| (128 : Int32)).toInt8.toInt32)) else g k) k) k) k), _, by unfold own_R; omega, rfl, hx_i46, KK52, A_a1.congr (fun j hj => ?_), fun k hk => ?_⟩
          · (try dsimp only); repeat' split
            all_goals rfl
          · (try dsimp only)
            by_cases q3 : k = o + 3
            · rw [q3]
              rw [if_pos (c := o ≤ o + 3 ∧ o + 3 < o + 4) ⟨by omega, by omega⟩]
              rw [if_pos (by omega)]
              rw [show o + 3 - o = 3 by omega]
              rw [own_wl _ (by omega) (by omega)]; simp only [own_bI, own_pw]; rw [if_neg (by decide)]; omega
            by_cases q2 : k = o + 2
            · rw [q2]
              rw [if_pos (c := o ≤ o + 2 ∧ o + 2 < o + 4) ⟨by omega, by omega⟩]
              rw [if_neg (by omega)]
              rw [if_pos (by omega)]
              rw [show o + 2 - o = 2 by omega]
              rw [own_wb]; simp only [own_bI, own_pw]; rw [if_pos (by decide)]; omega
            by_cases q1 : k = o + 1
            · rw [q1]
              rw [if_pos (c := o ≤ o + 1 ∧ o + 1 < o + 4) ⟨by omega, by omega⟩]
              rw [if_neg (by omega)]
              rw [if_neg (by omega)]
              rw [if_pos (by omega)]
              rw [show o + 1 - o = 1 by omega]
              rw [own_wb]; simp only [own_bI, own_pw]; rw [if_pos (by decide)]; omega
            by_cases q0 : k = o + 0
            · rw [q0]
              rw [if_pos (c := o ≤ o + 0 ∧ o + 0 < o + 4) ⟨by omega, by omega⟩]
              rw [if_neg (by omega)]
              rw [if_neg (by omega)]
              rw [if_neg (by omega)]
              rw [if_pos (by omega)]
              rw [show o + 0 - o = 0 by omega]
              rw [own_wb]; simp only [own_bI, own_pw]; rw [if_pos (by decide)]; omega
            rw [if_neg (c := o ≤ k ∧ k < o + 4) (by omega)]
            rw [if_neg (by omega)]
            rw [if_neg (by omega)]
            rw [if_neg (by omega)]
            rw [if_neg (by omega)]
        ·
          refine g_aloadN X40 C d1_9 rfl rfl rfl ?_
          refine g_iloadN X40 C d1_10 rfl rfl ?_
          obtain ⟨i53, h_i53⟩ : ∃ z, z = (i38 + (1 : Int32)) := ⟨_, rfl⟩
          have hx_i53 : i53.toInt = (o + 4 : Nat) := by
              have g1 := c_iadd i38 1; have g2 := rng32 i53; have g3 : (1 : Int32).toInt = 1 := by decide
              rw [← h_i53] at g1; omega
          refine g_iinc (L' := #[.val (.ref a1), .val (.int i53), .val (.int p3), .val (.int i45)]) X40 C d1_11 rfl h_i53 rfl rfl ?_
          refine g_iloadN X40 C d1_14 rfl rfl ?_
          refine g_sipush (v := 128) X40 C d1_15 (by decide) rfl ?_
          refine g_ior X40 C d1_18 rfl ?_
          refine g_i2b X40 C d1_19 rfl ?_
          refine g_bastoreB (i := (o + 3)) X40 C A_a1 hx_i38 (by omega) ga_a1 d1_20 rfl (fun T54 h56 X55 A_a1 K57 => ?_)
          have hz58 := Nat.le_trans hz43 K57.1
          have KK59 := KK44.trans K57 (allS (Or.inl (List.mem_of_getElem? (i := 0) rfl)) all0)
          refine g_iloadN X55 C d1_21 rfl rfl ?_
          refine g_bipush (v := 7) X55 C d1_22 (by decide) rfl ?_
          refine g_iushr X55 C d1_24 rfl ?_
          obtain ⟨i60, h_i60⟩ : ∃ z, z = ((i45.toUInt32 >>> ((7 : Int32) &&& 31).toUInt32).toInt32) := ⟨_, rfl⟩
          have hv_i60 : i60.toInt = i45.toInt / 128 := by rw [h_i60]; exact own_vn _ (by omega)
          refine g_istoreN (L' := #[.val (.ref a1), .val (.int i53), .val (.int p3), .val (.int i60)]) X55 C d1_25 h_i60 rfl rfl ?_
          refine g_goto (pc' := 2) X55 C d1_26 (by decide) (by decide) ?_
          refine g_iloadN X55 C d1_2 rfl rfl ?_
          refine g_sipush (v := 128) X55 C d1_3 (by decide) rfl ?_
          refine g_icmp_lt (a := i60.toInt) (b := 128) X55 C d1_6 rfl (by decide) (by decide) (pT := 29) (by decide) (pF := 9) rfl (fun hc6 => ?_) (fun hc6 => absurd hc6 (by omega))
          refine g_aloadN X55 C d1_29 rfl rfl rfl ?_
          refine g_iloadN X55 C d1_30 rfl rfl ?_
          obtain ⟨i61, h_i61⟩ : ∃ z, z = (i53 + (1 : Int32)) := ⟨_, rfl⟩
          have hx_i61 : i61.toInt = (o + 5 : Nat) := by
              have g1 := c_iadd i53 1; have g2 := rng32 i61; have g3 : (1 : Int32).toInt = 1 := by decide
              rw [← h_i61] at g1; omega
          refine g_iinc (L' := #[.val (.ref a1), .val (.int i61), .val (.int p3), .val (.int i60)]) X55 C d1_31 rfl h_i61 rfl rfl ?_
          refine g_iloadN X55 C d1_34 rfl rfl ?_
          refine g_i2b X55 C d1_35 rfl ?_
          refine g_bastoreB (i := (o + 4)) X55 C A_a1 hx_i53 (by omega) ga_a1 d1_36 rfl (fun T62 h64 X63 A_a1 K65 => ?_)
          have hz66 := Nat.le_trans hz58 K65.1
          have KK67 := KK59.trans K65 (allS (Or.inl (List.mem_of_getElem? (i := 0) rfl)) all0)
          refine g_iloadN X63 C d1_37 rfl rfl ?_
          rw [hRS]
          refine g_retI X63 C d1_38 ?_ (by decide) (by decide)
          refine ⟨5, (fun k => if k = (o + 4) then ((nar .byte i60.toInt8.toInt32)) else (fun k => if k = (o + 3) then ((nar .byte (i45 ||| (128 : Int32)).toInt8.toInt32)) else (fun k => if k = (o + 2) then ((nar .byte (i30 ||| (128 : Int32)).toInt8.toInt32)) else (fun k => if k = (o + 1) then ((nar .byte (i15 ||| (128 : Int32)).toInt8.toInt32)) else (fun k => if k = o then ((nar .byte (p3 ||| (128 : Int32)).toInt8.toInt32)) else g k) k) k) k) k), _, by unfold own_R; omega, rfl, hx_i61, KK67, A_a1.congr (fun j hj => ?_), fun k hk => ?_⟩
          · (try dsimp only); repeat' split
            all_goals rfl
          · (try dsimp only)
            by_cases q4 : k = o + 4
            · rw [q4]
              rw [if_pos (c := o ≤ o + 4 ∧ o + 4 < o + 5) ⟨by omega, by omega⟩]
              rw [if_pos (by omega)]
              rw [show o + 4 - o = 4 by omega]
              rw [own_wl _ (by omega) (by omega)]; simp only [own_bI, own_pw]; rw [if_neg (by decide)]; omega
            by_cases q3 : k = o + 3
            · rw [q3]
              rw [if_pos (c := o ≤ o + 3 ∧ o + 3 < o + 5) ⟨by omega, by omega⟩]
              rw [if_neg (by omega)]
              rw [if_pos (by omega)]
              rw [show o + 3 - o = 3 by omega]
              rw [own_wb]; simp only [own_bI, own_pw]; rw [if_pos (by decide)]; omega
            by_cases q2 : k = o + 2
            · rw [q2]
              rw [if_pos (c := o ≤ o + 2 ∧ o + 2 < o + 5) ⟨by omega, by omega⟩]
              rw [if_neg (by omega)]
              rw [if_neg (by omega)]
              rw [if_pos (by omega)]
              rw [show o + 2 - o = 2 by omega]
              rw [own_wb]; simp only [own_bI, own_pw]; rw [if_pos (by decide)]; omega
            by_cases q1 : k = o + 1
            · rw [q1]
              rw [if_pos (c := o ≤ o + 1 ∧ o + 1 < o + 5) ⟨by omega, by omega⟩]
              rw [if_neg (by omega)]
              rw [if_neg (by omega)]
              rw [if_neg (by omega)]
              rw [if_pos (by omega)]
              rw [show o + 1 - o = 1 by omega]
              rw [own_wb]; simp only [own_bI, own_pw]; rw [if_pos (by decide)]; omega
            by_cases q0 : k = o + 0
            · rw [q0]
              rw [if_pos (c := o ≤ o + 0 ∧ o + 0 < o + 5) ⟨by omega, by omega⟩]
              rw [if_neg (by omega)]
              rw [if_neg (by omega)]
              rw [if_neg (by omega)]
              rw [if_neg (by omega)]
              rw [if_pos (by omega)]
              rw [show o + 0 - o = 0 by omega]
              rw [own_wb]; simp only [own_bI, own_pw]; rw [if_pos (by decide)]; omega
            rw [if_neg (c := o ≤ k ∧ k < o + 5) (by omega)]
            rw [if_neg (by omega)]
            rw [if_neg (by omega)]
            rw [if_neg (by omega)]
            rw [if_neg (by omega)]
            rw [if_neg (by omega)]
theorem ef_rmO (m : MethodId) (a1 : Addr) (p2 : Int32) (p3 : Int32) (p4 : Int32) (p5 : Int32) (p6 : Int32) : entryFrame m #[(.ref a1), (.int p2), (.int p3), (.int p4), (.int p5), (.int p6)] 9 = mkF m 0 #[.val (.ref a1), .val (.int p2), .val (.int p3), .val (.int p4), .val (.int p5), .val (.int p6), .unset, .unset, .unset] [] := by first | (simp [entryFrame, mkF, argsToLocals, Value.category]; done) | rfl
set_option maxRecDepth 65536 in
set_option maxHeartbeats 40000000 in
theorem rmO (l : Launch) (Z : State) (a0 : Array Value) (hw : ∀ d ∈ tables_1, d.before a0 Z = true) (a1 : Addr) (p2 p3 p4 p5 p6 : Int32) (g : Nat → Int32) (j o n : Nat) (h0 : Heap) (n0 : Nat) (hz0 : n0 ≤ h0.size) (hj : p2.toInt = j) (hj12 : j < 12) (ho : p3.toInt = o) (ho7 : o ≤ 7) (hn : p4.toInt = n) (hn5 : n ≤ 5) (hc0 : 0 ≤ p5.toInt ∧ p5.toInt < 2147483648) (hval : (g j).toInt = if o ≤ j ∧ j < o + n then own_bI p5.toInt (j - o) n else p6.toInt) (A_a1 : Ar Z h0 a1 .byte 12 (fun k => .int (g k))) (ws : List Jvm.Cond) :
    Ctr l (⟨"com/example/libxmlkey/libxmlkey/RecordBytesWriteCountPinLaw", "ok", "([BIIIIB)Z"⟩ : MethodName) method_3_code 9 (some .boolean) ({ frames := 0, cells := 0, slots := 0, locals := 0 } : Room) Z n0 #[(.ref a1), (.int p2), (.int p3), (.int p4), (.int p5), (.int p6)] h0 (fun v h => v = some (.int 1) ∧ h = h0) ws := by
  refine ctr_of (plainFor_of_name pn_1) ?_
  intro p e s m below meth c T0 X0 C
  refine go_cast (ef_rmO m a1 p2 p3 p4 p5 p6) ?_
  obtain ⟨RS, hRS⟩ : ∃ RS, RS = Rs s below n0 (fun v h => v = some (.int 1) ∧ h = h0) ({ frames := 0, cells := 0, slots := 0, locals := 0 } : Room).cells ({ frames := 0, cells := 0, slots := 0, locals := 0 } : Room).slots := ⟨_, rfl⟩
  suffices HG : Go p e below RS T0 (mkF m 0 #[.val (.ref a1), .val (.int p2), .val (.int p3), .val (.int p4), .val (.int p5), .val (.int p6), .unset, .unset, .unset] []) by rw [hRS] at HG; exact HG
  show Go p e below RS T0 (mkF m 0 #[.val (.ref a1), .val (.int p2), .val (.int p3), .val (.int p4), .val (.int p5), .val (.int p6), .unset, .unset, .unset] [])
  refine g_iloadN X0 C d2_0 rfl rfl ?_
  refine g_iloadN X0 C d2_1 rfl rfl ?_
  refine g_isub X0 C d2_2 rfl ?_
  obtain ⟨i68, h_i68⟩ : ∃ z, z = (p2 - p3) := ⟨_, rfl⟩
  have hk : i68.toInt = (j : Int) - o := by
      have g1 := c_isub p2 p3; have g2 := rng32 i68
      rw [← h_i68] at g1; omega
  refine g_istore (L' := #[.val (.ref a1), .val (.int p2), .val (.int p3), .val (.int p4), .val (.int p5), .val (.int p6), .val (.int i68), .unset, .unset]) X0 C d2_3 h_i68 rfl rfl ?_
  refine g_iload X0 C d2_5 rfl rfl ?_
  refine g_if_lt (a := i68.toInt) X0 C d2_7 rfl (by decide) (pT := 16) (by decide) (pF := 10) rfl (fun hc7 => ?_) (fun hc7 => ?_)
  ·
    refine g_iload X0 C d2_16 rfl rfl ?_
    refine g_istore (L' := #[.val (.ref a1), .val (.int p2), .val (.int p3), .val (.int p4), .val (.int p5), .val (.int p6), .val (.int i68), .val (.int p6), .unset]) X0 C d2_18 rfl rfl rfl ?_
    refine g_goto (pc' := 57) X0 C d2_20 (by decide) (by decide) ?_
    refine g_aloadN X0 C d2_57 rfl rfl rfl ?_
    refine g_iloadN X0 C d2_58 rfl rfl ?_
    refine g_baloadB (i := j) (v := (.int (g j))) X0 C A_a1 hj (by omega) rfl d2_59 rfl ?_
    refine g_iload X0 C d2_60 rfl rfl ?_
    have hsame : g j = p6 := Int32.toInt_inj.mp (by rw [hval, if_neg (by omega)])
    refine g_icmp_ne (a := (g j).toInt) (b := p6.toInt) X0 C d2_62 rfl rfl (by decide) (pT := 69) (by decide) (pF := 65) rfl (fun hc62 => absurd hc62 (by rw [hsame]; exact fun q => q rfl)) (fun hc62 => ?_)
    refine g_iconst (v := 1) X0 C d2_65 (by decide) rfl ?_
    refine g_goto (pc' := 70) X0 C d2_66 (by decide) (by decide) ?_
    rw [hRS]
    refine g_retZ X0 C d2_70 ?_ (by decide) (by decide)
    exact ⟨rfl, rfl⟩
  ·
    refine g_iload X0 C d2_10 rfl rfl ?_
    refine g_iloadN X0 C d2_12 rfl rfl ?_
    refine g_icmp_lt (a := i68.toInt) (b := p4.toInt) X0 C d2_13 rfl rfl (by decide) (pT := 23) (by decide) (pF := 16) rfl (fun hc13 => ?_) (fun hc13 => ?_)
    ·
      refine g_iload X0 C d2_23 rfl rfl ?_
      refine g_bipush (v := 7) X0 C d2_25 (by decide) rfl ?_
      refine g_iload X0 C d2_27 rfl rfl ?_
      refine g_imul X0 C d2_29 rfl ?_
      refine g_iushr X0 C d2_30 rfl ?_
      refine g_bipush (v := 127) X0 C d2_31 (by decide) rfl ?_
      refine g_iand X0 C d2_33 rfl ?_
      obtain ⟨i69, h_i69⟩ : ∃ z, z = (((p5.toUInt32 >>> (((7 : Int32) * i68) &&& 31).toUInt32).toInt32) &&& (127 : Int32)) := ⟨_, rfl⟩
      have hg : i69.toInt = (p5.toInt / own_pw (j - o)) % 128 := by rw [h_i69]; exact own_sh p5 i68 (j - o) (by omega) (by omega) hc0.1
      refine g_istore (L' := #[.val (.ref a1), .val (.int p2), .val (.int p3), .val (.int p4), .val (.int p5), .val (.int p6), .val (.int i68), .unset, .val (.int i69)]) X0 C d2_34 h_i69 rfl rfl ?_
      refine g_iload X0 C d2_36 rfl rfl ?_
      refine g_iloadN X0 C d2_38 rfl rfl ?_
      refine g_iconst (v := 1) X0 C d2_39 (by decide) rfl ?_
      refine g_isub X0 C d2_40 rfl ?_
      have hn1 : (p4 - (1 : Int32)).toInt = (n : Int) - 1 := by
          have g1 := c_isub p4 1; have g2 := rng32 (p4 - 1); have g3 : (1 : Int32).toInt = 1 := by decide
          omega
      refine g_icmp_ge (a := i68.toInt) (b := (p4 - (1 : Int32)).toInt) X0 C d2_41 rfl rfl (by decide) (pT := 52) (by decide) (pF := 44) rfl (fun hc41 => ?_) (fun hc41 => ?_)
      ·
        refine g_iload X0 C d2_52 rfl rfl ?_
        refine g_i2b X0 C d2_54 rfl ?_
        obtain ⟨i70, h_i70⟩ : ∃ z, z = i69.toInt8.toInt32 := ⟨_, rfl⟩
        refine g_istore (L' := #[.val (.ref a1), .val (.int p2), .val (.int p3), .val (.int p4), .val (.int p5), .val (.int p6), .val (.int i68), .val (.int i70), .val (.int i69)]) X0 C d2_55 h_i70 rfl rfl ?_
        refine g_aloadN X0 C d2_57 rfl rfl rfl ?_
        refine g_iloadN X0 C d2_58 rfl rfl ?_
        refine g_baloadB (i := j) (v := (.int (g j))) X0 C A_a1 hj (by omega) rfl d2_59 rfl ?_
        refine g_iload X0 C d2_60 rfl rfl ?_
        have hsame : g j = i70 := Int32.toInt_inj.mp (by
            rw [hval, if_pos (by omega)]; simp only [own_bI]; rw [if_neg (by omega)]; have q := own_wl i69 (by omega) (by omega); rw [own_narb] at q; rw [h_i70, q]; omega)
        refine g_icmp_ne (a := (g j).toInt) (b := i70.toInt) X0 C d2_62 rfl rfl (by decide) (pT := 69) (by decide) (pF := 65) rfl (fun hc62 => absurd hc62 (by rw [hsame]; exact fun q => q rfl)) (fun hc62 => ?_)
        refine g_iconst (v := 1) X0 C d2_65 (by decide) rfl ?_
        refine g_goto (pc' := 70) X0 C d2_66 (by decide) (by decide) ?_
        rw [hRS]
        refine g_retZ X0 C d2_70 ?_ (by decide) (by decide)
        exact ⟨rfl, rfl⟩
      ·
        refine g_iload X0 C d2_44 rfl rfl ?_
        refine g_sipush (v := 128) X0 C d2_46 (by decide) rfl ?_
        refine g_ior X0 C d2_49 rfl ?_
        obtain ⟨i71, h_i71⟩ : ∃ z, z = (i69 ||| (128 : Int32)) := ⟨_, rfl⟩
        refine g_istore (L' := #[.val (.ref a1), .val (.int p2), .val (.int p3), .val (.int p4), .val (.int p5), .val (.int p6), .val (.int i68), .unset, .val (.int i71)]) X0 C d2_50 h_i71 rfl rfl ?_
        refine g_iload X0 C d2_52 rfl rfl ?_
        refine g_i2b X0 C d2_54 rfl ?_
        obtain ⟨i72, h_i72⟩ : ∃ z, z = i71.toInt8.toInt32 := ⟨_, rfl⟩
        refine g_istore (L' := #[.val (.ref a1), .val (.int p2), .val (.int p3), .val (.int p4), .val (.int p5), .val (.int p6), .val (.int i68), .val (.int i72), .val (.int i71)]) X0 C d2_55 h_i72 rfl rfl ?_
        refine g_aloadN X0 C d2_57 rfl rfl rfl ?_
        refine g_iloadN X0 C d2_58 rfl rfl ?_
        refine g_baloadB (i := j) (v := (.int (g j))) X0 C A_a1 hj (by omega) rfl d2_59 rfl ?_
        refine g_iload X0 C d2_60 rfl rfl ?_
        have hsame : g j = i72 := Int32.toInt_inj.mp (by
            rw [hval, if_pos (by omega)]; simp only [own_bI]; rw [if_pos (by omega)]; have q := own_wb i69; rw [own_narb] at q; rw [h_i72, h_i71, q]; omega)
        refine g_icmp_ne (a := (g j).toInt) (b := i72.toInt) X0 C d2_62 rfl rfl (by decide) (pT := 69) (by decide) (pF := 65) rfl (fun hc62 => absurd hc62 (by rw [hsame]; exact fun q => q rfl)) (fun hc62 => ?_)
        refine g_iconst (v := 1) X0 C d2_65 (by decide) rfl ?_
        refine g_goto (pc' := 70) X0 C d2_66 (by decide) (by decide) ?_
        rw [hRS]
        refine g_retZ X0 C d2_70 ?_ (by decide) (by decide)
        exact ⟨rfl, rfl⟩
    ·
      refine g_iload X0 C d2_16 rfl rfl ?_
      refine g_istore (L' := #[.val (.ref a1), .val (.int p2), .val (.int p3), .val (.int p4), .val (.int p5), .val (.int p6), .val (.int i68), .val (.int p6), .unset]) X0 C d2_18 rfl rfl rfl ?_
      refine g_goto (pc' := 57) X0 C d2_20 (by decide) (by decide) ?_
      refine g_aloadN X0 C d2_57 rfl rfl rfl ?_
      refine g_iloadN X0 C d2_58 rfl rfl ?_
      refine g_baloadB (i := j) (v := (.int (g j))) X0 C A_a1 hj (by omega) rfl d2_59 rfl ?_
      refine g_iload X0 C d2_60 rfl rfl ?_
      have hsame : g j = p6 := Int32.toInt_inj.mp (by rw [hval, if_neg (by omega)])
      refine g_icmp_ne (a := (g j).toInt) (b := p6.toInt) X0 C d2_62 rfl rfl (by decide) (pT := 69) (by decide) (pF := 65) rfl (fun hc62 => absurd hc62 (by rw [hsame]; exact fun q => q rfl)) (fun hc62 => ?_)
      refine g_iconst (v := 1) X0 C d2_65 (by decide) rfl ?_
      refine g_goto (pc' := 70) X0 C d2_66 (by decide) (by decide) ?_
      rw [hRS]
      refine g_retZ X0 C d2_70 ?_ (by decide) (by decide)
      exact ⟨rfl, rfl⟩
theorem ef_rm0 (m : MethodId) (p1 : Int32) (p2 : Int32) (p3 : Int32) (p4 : Int32) : entryFrame m #[(.int p1), (.int p2), (.int p3), (.int p4)] maxLocals = mkF m 0 #[.val (.int p1), .val (.int p2), .val (.int p3), .val (.int p4), .unset, .unset, .unset, .unset, .unset, .unset] [] := by first | (simp [entryFrame, mkF, argsToLocals, Value.category, maxLocals]; done) | rfl
set_option maxRecDepth 65536 in
set_option maxHeartbeats 40000000 in
theorem rm0 (l : Launch) (Z : State) (a0 : Array Value) (hw : ∀ d ∈ tables_1, d.before a0 Z = true) (p1 p2 p3 p4 : Int32) (h0 : Heap) (n0 : Nat) (hz0 : n0 ≤ h0.size)  (ws : List Jvm.Cond) :
    Ctr l x code maxLocals ret room_1 Z n0 #[(.int p1), (.int p2), (.int p3), (.int p4)] h0 (fun v h => v = some (.int 1)) ws := by
  refine ctr_of (plainFor_of_name pn_1) ?_
  intro p e s m below meth c T0 X0 C
  refine go_cast (ef_rm0 m p1 p2 p3 p4) ?_
  obtain ⟨RS, hRS⟩ : ∃ RS, RS = Rs s below n0 (fun v h => v = some (.int 1)) room_1.cells room_1.slots := ⟨_, rfl⟩
  suffices HG : Go p e below RS T0 (mkF m 0 #[.val (.int p1), .val (.int p2), .val (.int p3), .val (.int p4), .unset, .unset, .unset, .unset, .unset, .unset] []) by rw [hRS] at HG; exact HG
  show Go p e below RS T0 (mkF m 0 #[.val (.int p1), .val (.int p2), .val (.int p3), .val (.int p4), .unset, .unset, .unset, .unset, .unset, .unset] [])
  refine g_iloadN X0 C at_0 rfl rfl ?_
  refine g_ldcI X0 C (hw _ (List.mem_of_getElem? (i := 0) rfl)) at_1 rfl ?_
  refine g_iand X0 C at_3 rfl ?_
  refine g_iloadN X0 C at_4 rfl rfl ?_
  refine g_bipush (v := 31) X0 C at_5 (by decide) rfl ?_
  refine g_iand X0 C at_7 rfl ?_
  refine g_iushr X0 C at_8 rfl ?_
  obtain ⟨i73, h_i73⟩ : ∃ z, z = (((p1 &&& (2147483647 : Int32)).toUInt32 >>> ((p2 &&& (31 : Int32)) &&& 31).toUInt32).toInt32) := ⟨_, rfl⟩
  have hc0 : 0 ≤ i73.toInt ∧ i73.toInt < 2147483648 := by
    have g1 := c_mask p1 2147483647 31 (by decide) (by decide)
    simp only [Nat.reducePow] at g1
    have g0 : 0 ≤ (p1 &&& 2147483647).toInt := by omega
    have g9 := rng32 i73; refine ⟨?_, by omega⟩
    by_cases hs : (p2 &&& 31).toBitVec.toNat % 32 = 0
    · have g2 := c_ishr (p1 &&& 2147483647) (p2 &&& 31) 0 hs
      have g3 : (((p1 &&& 2147483647).toUInt32 >>> ((p2 &&& 31) &&& 31).toUInt32).toInt32) = (p1 &&& 2147483647) := own_shr0 _ _ hs
      rw [h_i73, g3]; exact g0
    · have g2 := c_iushr (p1 &&& 2147483647) (p2 &&& 31) _ rfl (Nat.pos_of_ne_zero hs)
      rw [h_i73, g2]; exact Int.ediv_nonneg (Int.emod_nonneg _ (by decide)) (Int.ofNat_nonneg _)
  refine g_istore (L' := #[.val (.int p1), .val (.int p2), .val (.int p3), .val (.int p4), .val (.int i73), .unset, .unset, .unset, .unset, .unset]) X0 C at_9 h_i73 rfl rfl ?_
  refine g_iloadN X0 C at_11 rfl rfl ?_
  refine g_bipush (v := 7) X0 C at_12 (by decide) rfl ?_
  refine g_iand X0 C at_14 rfl ?_
  obtain ⟨i74, h_i74⟩ : ∃ z, z = (p3 &&& (7 : Int32)) := ⟨_, rfl⟩
  obtain ⟨o, ho, ho7⟩ : ∃ o : Nat, i74.toInt = o ∧ o ≤ 7 := by
    have g1 := c_mask p3 7 3 (by decide) (by decide)
    rw [← h_i74] at g1; simp only [Nat.reducePow] at g1
    exact ⟨i74.toInt.toNat, by omega, by omega⟩
  refine g_istore (L' := #[.val (.int p1), .val (.int p2), .val (.int p3), .val (.int p4), .val (.int i73), .val (.int i74), .unset, .unset, .unset, .unset]) X0 C at_15 h_i74 rfl rfl ?_
  refine g_iloadN X0 C at_17 rfl rfl ?_
  refine g_i2b X0 C at_18 rfl ?_
  obtain ⟨i75, h_i75⟩ : ∃ z, z = p4.toInt8.toInt32 := ⟨_, rfl⟩
  have hns : nar .byte i75 = i75 := by rw [h_i75]; exact own_narb _
  refine g_istore (L' := #[.val (.int p1), .val (.int p2), .val (.int p3), .val (.int p4), .val (.int i73), .val (.int i74), .val (.int i75), .unset, .unset, .unset]) X0 C at_19 h_i75 rfl rfl ?_
  refine g_bipush (v := 12) X0 C at_21 (by decide) rfl ?_
  refine g_newarr (n := 12) (cap := 12) X0 C (hw _ (List.mem_of_getElem? (i := 1) rfl)) (by decide) (by decide) (by decide) (by decide) (by decide) at_23 rfl (fun T76 h78 b80 hb81 X77 A_b80 K79 => ?_)
  have A_b80 : Ar Z h78 b80 .byte 12 (fun _ => .int 0) := A_b80
  have ga_b80 : n0 ≤ b80 := hb81 ▸ hz0
  have hz82 := Nat.le_trans hz0 K79.1
  refine g_dup X77 C at_25 rfl rfl ?_
  refine g_iconst (v := 0) X77 C at_26 (by decide) rfl ?_
  refine g_iload X77 C at_27 rfl rfl ?_
  refine g_bastoreB (i := 0) X77 C A_b80 (by decide) (by decide) ga_b80 at_29 rfl (fun T83 h85 X84 A_b80 K86 => ?_)
  have hz87 := Nat.le_trans hz82 K86.1
  refine g_dup X84 C at_30 rfl rfl ?_
  refine g_iconst (v := 1) X84 C at_31 (by decide) rfl ?_
  refine g_iload X84 C at_32 rfl rfl ?_
  refine g_bastoreB (i := 1) X84 C A_b80 (by decide) (by decide) ga_b80 at_34 rfl (fun T88 h90 X89 A_b80 K91 => ?_)
  have hz92 := Nat.le_trans hz87 K91.1
  refine g_dup X89 C at_35 rfl rfl ?_
  refine g_iconst (v := 2) X89 C at_36 (by decide) rfl ?_
  refine g_iload X89 C at_37 rfl rfl ?_
  refine g_bastoreB (i := 2) X89 C A_b80 (by decide) (by decide) ga_b80 at_39 rfl (fun T93 h95 X94 A_b80 K96 => ?_)
  have hz97 := Nat.le_trans hz92 K96.1
  refine g_dup X94 C at_40 rfl rfl ?_
  refine g_iconst (v := 3) X94 C at_41 (by decide) rfl ?_
  refine g_iload X94 C at_42 rfl rfl ?_
  refine g_bastoreB (i := 3) X94 C A_b80 (by decide) (by decide) ga_b80 at_44 rfl (fun T98 h100 X99 A_b80 K101 => ?_)
  have hz102 := Nat.le_trans hz97 K101.1
  refine g_dup X99 C at_45 rfl rfl ?_
  refine g_iconst (v := 4) X99 C at_46 (by decide) rfl ?_
  refine g_iload X99 C at_47 rfl rfl ?_
  refine g_bastoreB (i := 4) X99 C A_b80 (by decide) (by decide) ga_b80 at_49 rfl (fun T103 h105 X104 A_b80 K106 => ?_)
  have hz107 := Nat.le_trans hz102 K106.1
  refine g_dup X104 C at_50 rfl rfl ?_
  refine g_iconst (v := 5) X104 C at_51 (by decide) rfl ?_
  refine g_iload X104 C at_52 rfl rfl ?_
  refine g_bastoreB (i := 5) X104 C A_b80 (by decide) (by decide) ga_b80 at_54 rfl (fun T108 h110 X109 A_b80 K111 => ?_)
  have hz112 := Nat.le_trans hz107 K111.1
  refine g_dup X109 C at_55 rfl rfl ?_
  refine g_bipush (v := 6) X109 C at_56 (by decide) rfl ?_
  refine g_iload X109 C at_58 rfl rfl ?_
  refine g_bastoreB (i := 6) X109 C A_b80 (by decide) (by decide) ga_b80 at_60 rfl (fun T113 h115 X114 A_b80 K116 => ?_)
  have hz117 := Nat.le_trans hz112 K116.1
  refine g_dup X114 C at_61 rfl rfl ?_
  refine g_bipush (v := 7) X114 C at_62 (by decide) rfl ?_
  refine g_iload X114 C at_64 rfl rfl ?_
  refine g_bastoreB (i := 7) X114 C A_b80 (by decide) (by decide) ga_b80 at_66 rfl (fun T118 h120 X119 A_b80 K121 => ?_)
  have hz122 := Nat.le_trans hz117 K121.1
  refine g_dup X119 C at_67 rfl rfl ?_
  refine g_bipush (v := 8) X119 C at_68 (by decide) rfl ?_
  refine g_iload X119 C at_70 rfl rfl ?_
  refine g_bastoreB (i := 8) X119 C A_b80 (by decide) (by decide) ga_b80 at_72 rfl (fun T123 h125 X124 A_b80 K126 => ?_)
  have hz127 := Nat.le_trans hz122 K126.1
  refine g_dup X124 C at_73 rfl rfl ?_
  refine g_bipush (v := 9) X124 C at_74 (by decide) rfl ?_
  refine g_iload X124 C at_76 rfl rfl ?_
  refine g_bastoreB (i := 9) X124 C A_b80 (by decide) (by decide) ga_b80 at_78 rfl (fun T128 h130 X129 A_b80 K131 => ?_)
  have hz132 := Nat.le_trans hz127 K131.1
  refine g_dup X129 C at_79 rfl rfl ?_
  refine g_bipush (v := 10) X129 C at_80 (by decide) rfl ?_
  refine g_iload X129 C at_82 rfl rfl ?_
  refine g_bastoreB (i := 10) X129 C A_b80 (by decide) (by decide) ga_b80 at_84 rfl (fun T133 h135 X134 A_b80 K136 => ?_)
  have hz137 := Nat.le_trans hz132 K136.1
  refine g_dup X134 C at_85 rfl rfl ?_
  refine g_bipush (v := 11) X134 C at_86 (by decide) rfl ?_
  refine g_iload X134 C at_88 rfl rfl ?_
  refine g_bastoreB (i := 11) X134 C A_b80 (by decide) (by decide) ga_b80 at_90 rfl (fun T138 h140 X139 A_b80 K141 => ?_)
  have hz142 := Nat.le_trans hz137 K141.1
  have A_b80 : Ar Z h140 b80 .byte 12 (fun k => .int ((fun _ => i75) k)) := by
    refine A_b80.congr (fun j hj => ?_)
    have hc : j = 0 ∨ j = 1 ∨ j = 2 ∨ j = 3 ∨ j = 4 ∨ j = 5 ∨ j = 6 ∨ j = 7 ∨ j = 8 ∨ j = 9 ∨ j = 10 ∨ j = 11 := by omega
    rcases hc with rfl | rfl | rfl | rfl | rfl | rfl | rfl | rfl | rfl | rfl | rfl | rfl <;> simp [hns]
  refine g_astore (L' := #[.val (.int p1), .val (.int p2), .val (.int p3), .val (.int p4), .val (.int i73), .val (.int i74), .val (.int i75), .val (.ref b80), .unset, .unset]) X139 C at_91 rfl rfl rfl ?_
  refine g_aload X139 C at_93 rfl rfl rfl ?_
  refine g_iload X139 C at_95 rfl rfl ?_
  refine g_iload X139 C at_97 rfl rfl ?_
  refine g_static (argsL := [(.ref b80), (.int i74), (.int i73)]) (rest := []) (W := 0) X139 C (rmW l Z a0 hw b80 i74 i73 (fun _ => i75) o h140 n0 hz142 ho ho7 hc0 ga_b80 A_b80 []) (hw _ (List.mem_of_getElem? (i := 2) rfl)) (hw _ (List.mem_of_getElem? (i := 3) rfl)) (hw _ (List.mem_of_getElem? (i := 4) rfl)) (hw _ (List.mem_of_getElem? (i := 5) rfl)) (by decide) pd_0 rfl rfl rfl rfl rfl (by decide) (by decide) (by decide) (by decide) at_99 rfl (fun r146 T143 h145 hQ147 X144 => ?_)
  obtain ⟨n, gf, rv, hR, rfl, hrv, KW, AW, hval⟩ := hQ147
  have hzW := Nat.le_trans hz142 KW.1
  have hn15 : 1 ≤ n ∧ n ≤ 5 := by unfold own_R at hR; omega
  show Go p e below RS T143 (mkF m 102 #[.val (.int p1), .val (.int p2), .val (.int p3), .val (.int p4), .val (.int i73), .val (.int i74), .val (.int i75), .val (.ref b80), .unset, .unset] [(.int rv)])
  refine g_istore (L' := #[.val (.int p1), .val (.int p2), .val (.int p3), .val (.int p4), .val (.int i73), .val (.int i74), .val (.int i75), .val (.ref b80), .val (.int rv), .unset]) X144 C at_102 rfl rfl rfl ?_
  refine g_iload X144 C at_104 rfl rfl ?_
  refine g_sipush (v := 128) X144 C at_106 (by decide) rfl ?_
  have J161_148 : ∀ (i148 : Int32) (_ : (128 ≤ i73.toInt ∧ 16384 ≤ i73.toInt ∧ 2097152 ≤ i73.toInt ∧ 268435456 ≤ i73.toInt ∧ i148 = (5 : Int32) ∧ i148.toInt = 5) ∨ (128 ≤ i73.toInt ∧ 16384 ≤ i73.toInt ∧ 2097152 ≤ i73.toInt ∧ i73.toInt < 268435456 ∧ i148 = (4 : Int32) ∧ i148.toInt = 4) ∨ (128 ≤ i73.toInt ∧ 16384 ≤ i73.toInt ∧ i73.toInt < 2097152 ∧ i148 = (3 : Int32) ∧ i148.toInt = 3) ∨ (128 ≤ i73.toInt ∧ i73.toInt < 16384 ∧ i148 = (2 : Int32) ∧ i148.toInt = 2) ∨ (i73.toInt < 128 ∧ i148 = (1 : Int32) ∧ i148.toInt = 1)), Go p e below RS T143 (mkF m 161 #[.val (.int p1), .val (.int p2), .val (.int p3), .val (.int p4), .val (.int i73), .val (.int i74), .val (.int i75), .val (.ref b80), .val (.int rv), .val (.int i148)] []) := by
    intro i148 hJ161
    have hn : i148.toInt = n := by unfold own_R at hR; omega
    refine g_iload X144 C at_161 rfl rfl ?_
    refine g_iload X144 C at_163 rfl rfl ?_
    refine g_iload X144 C at_165 rfl rfl ?_
    refine g_iadd X144 C at_167 rfl ?_
    have hend : rv.toInt = (i74 + i148).toInt := by
        have g1 := c_iadd i74 i148; have g2 := rng32 (i74 + i148)
        omega
    refine g_icmp_eq (a := rv.toInt) (b := (i74 + i148).toInt) X144 C at_168 rfl rfl (by decide) (pT := 173) (by decide) (pF := 171) rfl (fun hc168 => ?_) (fun hc168 => absurd hc168 (by omega))
    refine g_aload X144 C at_173 rfl rfl rfl ?_
    refine g_iconst (v := 0) X144 C at_175 (by decide) rfl ?_
    refine g_iload X144 C at_176 rfl rfl ?_
    refine g_iload X144 C at_178 rfl rfl ?_
    refine g_iload X144 C at_180 rfl rfl ?_
    refine g_iload X144 C at_182 rfl rfl ?_
    refine g_static (argsL := [(.ref b80), (.int (0 : Int32)), (.int i74), (.int i148), (.int i73), (.int i75)]) (rest := []) (W := 0) X144 C (rmO l Z a0 hw b80 (0 : Int32) i74 i148 i73 i75 gf 0 o n h145 n0 hzW (by decide) (by decide) ho ho7 hn hn15.2 hc0 (hval 0 (by decide)) AW []) (hw _ (List.mem_of_getElem? (i := 6) rfl)) (hw _ (List.mem_of_getElem? (i := 7) rfl)) (hw _ (List.mem_of_getElem? (i := 8) rfl)) (hw _ (List.mem_of_getElem? (i := 9) rfl)) (by decide) pd_1 rfl rfl rfl rfl rfl (by decide) (by decide) (by decide) (by decide) at_184 rfl (fun r153 T150 h152 hQ154 X151 => ?_)
    obtain ⟨rfl, hh⟩ := hQ154; rw [hh] at X151
    show Go p e below RS T150 (mkF m 187 #[.val (.int p1), .val (.int p2), .val (.int p3), .val (.int p4), .val (.int i73), .val (.int i74), .val (.int i75), .val (.ref b80), .val (.int rv), .val (.int i148)] [(.int (1 : Int32))])
    refine g_if_eq (a := 1) X151 C at_187 (by decide) (by decide) (pT := 387) (by decide) (pF := 190) rfl (fun hc187 => absurd hc187 (by omega)) (fun hc187 => ?_)
    refine g_aload X151 C at_190 rfl rfl rfl ?_
    refine g_iconst (v := 1) X151 C at_192 (by decide) rfl ?_
    refine g_iload X151 C at_193 rfl rfl ?_
    refine g_iload X151 C at_195 rfl rfl ?_
    refine g_iload X151 C at_197 rfl rfl ?_
    refine g_iload X151 C at_199 rfl rfl ?_
    refine g_static (argsL := [(.ref b80), (.int (1 : Int32)), (.int i74), (.int i148), (.int i73), (.int i75)]) (rest := []) (W := 0) X151 C (rmO l Z a0 hw b80 (1 : Int32) i74 i148 i73 i75 gf 1 o n h145 n0 hzW (by decide) (by decide) ho ho7 hn hn15.2 hc0 (hval 1 (by decide)) AW []) (hw _ (List.mem_of_getElem? (i := 6) rfl)) (hw _ (List.mem_of_getElem? (i := 7) rfl)) (hw _ (List.mem_of_getElem? (i := 8) rfl)) (hw _ (List.mem_of_getElem? (i := 9) rfl)) (by decide) pd_1 rfl rfl rfl rfl rfl (by decide) (by decide) (by decide) (by decide) at_201 rfl (fun r158 T155 h157 hQ159 X156 => ?_)
    obtain ⟨rfl, hh⟩ := hQ159; rw [hh] at X156
    show Go p e below RS T155 (mkF m 204 #[.val (.int p1), .val (.int p2), .val (.int p3), .val (.int p4), .val (.int i73), .val (.int i74), .val (.int i75), .val (.ref b80), .val (.int rv), .val (.int i148)] [(.int (1 : Int32))])
    refine g_if_eq (a := 1) X156 C at_204 (by decide) (by decide) (pT := 387) (by decide) (pF := 207) rfl (fun hc204 => absurd hc204 (by omega)) (fun hc204 => ?_)
    refine g_aload X156 C at_207 rfl rfl rfl ?_
    refine g_iconst (v := 2) X156 C at_209 (by decide) rfl ?_
    refine g_iload X156 C at_210 rfl rfl ?_
    refine g_iload X156 C at_212 rfl rfl ?_
    refine g_iload X156 C at_214 rfl rfl ?_
    refine g_iload X156 C at_216 rfl rfl ?_
    refine g_static (argsL := [(.ref b80), (.int (2 : Int32)), (.int i74), (.int i148), (.int i73), (.int i75)]) (rest := []) (W := 0) X156 C (rmO l Z a0 hw b80 (2 : Int32) i74 i148 i73 i75 gf 2 o n h145 n0 hzW (by decide) (by decide) ho ho7 hn hn15.2 hc0 (hval 2 (by decide)) AW []) (hw _ (List.mem_of_getElem? (i := 6) rfl)) (hw _ (List.mem_of_getElem? (i := 7) rfl)) (hw _ (List.mem_of_getElem? (i := 8) rfl)) (hw _ (List.mem_of_getElem? (i := 9) rfl)) (by decide) pd_1 rfl rfl rfl rfl rfl (by decide) (by decide) (by decide) (by decide) at_218 rfl (fun r163 T160 h162 hQ164 X161 => ?_)
    obtain ⟨rfl, hh⟩ := hQ164; rw [hh] at X161
    show Go p e below RS T160 (mkF m 221 #[.val (.int p1), .val (.int p2), .val (.int p3), .val (.int p4), .val (.int i73), .val (.int i74), .val (.int i75), .val (.ref b80), .val (.int rv), .val (.int i148)] [(.int (1 : Int32))])
    refine g_if_eq (a := 1) X161 C at_221 (by decide) (by decide) (pT := 387) (by decide) (pF := 224) rfl (fun hc221 => absurd hc221 (by omega)) (fun hc221 => ?_)
    refine g_aload X161 C at_224 rfl rfl rfl ?_
    refine g_iconst (v := 3) X161 C at_226 (by decide) rfl ?_
    refine g_iload X161 C at_227 rfl rfl ?_
    refine g_iload X161 C at_229 rfl rfl ?_
    refine g_iload X161 C at_231 rfl rfl ?_
    refine g_iload X161 C at_233 rfl rfl ?_
    refine g_static (argsL := [(.ref b80), (.int (3 : Int32)), (.int i74), (.int i148), (.int i73), (.int i75)]) (rest := []) (W := 0) X161 C (rmO l Z a0 hw b80 (3 : Int32) i74 i148 i73 i75 gf 3 o n h145 n0 hzW (by decide) (by decide) ho ho7 hn hn15.2 hc0 (hval 3 (by decide)) AW []) (hw _ (List.mem_of_getElem? (i := 6) rfl)) (hw _ (List.mem_of_getElem? (i := 7) rfl)) (hw _ (List.mem_of_getElem? (i := 8) rfl)) (hw _ (List.mem_of_getElem? (i := 9) rfl)) (by decide) pd_1 rfl rfl rfl rfl rfl (by decide) (by decide) (by decide) (by decide) at_235 rfl (fun r168 T165 h167 hQ169 X166 => ?_)
    obtain ⟨rfl, hh⟩ := hQ169; rw [hh] at X166
    show Go p e below RS T165 (mkF m 238 #[.val (.int p1), .val (.int p2), .val (.int p3), .val (.int p4), .val (.int i73), .val (.int i74), .val (.int i75), .val (.ref b80), .val (.int rv), .val (.int i148)] [(.int (1 : Int32))])
    refine g_if_eq (a := 1) X166 C at_238 (by decide) (by decide) (pT := 387) (by decide) (pF := 241) rfl (fun hc238 => absurd hc238 (by omega)) (fun hc238 => ?_)
    refine g_aload X166 C at_241 rfl rfl rfl ?_
    refine g_iconst (v := 4) X166 C at_243 (by decide) rfl ?_
    refine g_iload X166 C at_244 rfl rfl ?_
    refine g_iload X166 C at_246 rfl rfl ?_
    refine g_iload X166 C at_248 rfl rfl ?_
    refine g_iload X166 C at_250 rfl rfl ?_
    refine g_static (argsL := [(.ref b80), (.int (4 : Int32)), (.int i74), (.int i148), (.int i73), (.int i75)]) (rest := []) (W := 0) X166 C (rmO l Z a0 hw b80 (4 : Int32) i74 i148 i73 i75 gf 4 o n h145 n0 hzW (by decide) (by decide) ho ho7 hn hn15.2 hc0 (hval 4 (by decide)) AW []) (hw _ (List.mem_of_getElem? (i := 6) rfl)) (hw _ (List.mem_of_getElem? (i := 7) rfl)) (hw _ (List.mem_of_getElem? (i := 8) rfl)) (hw _ (List.mem_of_getElem? (i := 9) rfl)) (by decide) pd_1 rfl rfl rfl rfl rfl (by decide) (by decide) (by decide) (by decide) at_252 rfl (fun r173 T170 h172 hQ174 X171 => ?_)
    obtain ⟨rfl, hh⟩ := hQ174; rw [hh] at X171
    show Go p e below RS T170 (mkF m 255 #[.val (.int p1), .val (.int p2), .val (.int p3), .val (.int p4), .val (.int i73), .val (.int i74), .val (.int i75), .val (.ref b80), .val (.int rv), .val (.int i148)] [(.int (1 : Int32))])
    refine g_if_eq (a := 1) X171 C at_255 (by decide) (by decide) (pT := 387) (by decide) (pF := 258) rfl (fun hc255 => absurd hc255 (by omega)) (fun hc255 => ?_)
    refine g_aload X171 C at_258 rfl rfl rfl ?_
    refine g_iconst (v := 5) X171 C at_260 (by decide) rfl ?_
    refine g_iload X171 C at_261 rfl rfl ?_
    refine g_iload X171 C at_263 rfl rfl ?_
    refine g_iload X171 C at_265 rfl rfl ?_
    refine g_iload X171 C at_267 rfl rfl ?_
    refine g_static (argsL := [(.ref b80), (.int (5 : Int32)), (.int i74), (.int i148), (.int i73), (.int i75)]) (rest := []) (W := 0) X171 C (rmO l Z a0 hw b80 (5 : Int32) i74 i148 i73 i75 gf 5 o n h145 n0 hzW (by decide) (by decide) ho ho7 hn hn15.2 hc0 (hval 5 (by decide)) AW []) (hw _ (List.mem_of_getElem? (i := 6) rfl)) (hw _ (List.mem_of_getElem? (i := 7) rfl)) (hw _ (List.mem_of_getElem? (i := 8) rfl)) (hw _ (List.mem_of_getElem? (i := 9) rfl)) (by decide) pd_1 rfl rfl rfl rfl rfl (by decide) (by decide) (by decide) (by decide) at_269 rfl (fun r178 T175 h177 hQ179 X176 => ?_)
    obtain ⟨rfl, hh⟩ := hQ179; rw [hh] at X176
    show Go p e below RS T175 (mkF m 272 #[.val (.int p1), .val (.int p2), .val (.int p3), .val (.int p4), .val (.int i73), .val (.int i74), .val (.int i75), .val (.ref b80), .val (.int rv), .val (.int i148)] [(.int (1 : Int32))])
    refine g_if_eq (a := 1) X176 C at_272 (by decide) (by decide) (pT := 387) (by decide) (pF := 275) rfl (fun hc272 => absurd hc272 (by omega)) (fun hc272 => ?_)
    refine g_aload X176 C at_275 rfl rfl rfl ?_
    refine g_bipush (v := 6) X176 C at_277 (by decide) rfl ?_
    refine g_iload X176 C at_279 rfl rfl ?_
    refine g_iload X176 C at_281 rfl rfl ?_
    refine g_iload X176 C at_283 rfl rfl ?_
    refine g_iload X176 C at_285 rfl rfl ?_
    refine g_static (argsL := [(.ref b80), (.int (6 : Int32)), (.int i74), (.int i148), (.int i73), (.int i75)]) (rest := []) (W := 0) X176 C (rmO l Z a0 hw b80 (6 : Int32) i74 i148 i73 i75 gf 6 o n h145 n0 hzW (by decide) (by decide) ho ho7 hn hn15.2 hc0 (hval 6 (by decide)) AW []) (hw _ (List.mem_of_getElem? (i := 6) rfl)) (hw _ (List.mem_of_getElem? (i := 7) rfl)) (hw _ (List.mem_of_getElem? (i := 8) rfl)) (hw _ (List.mem_of_getElem? (i := 9) rfl)) (by decide) pd_1 rfl rfl rfl rfl rfl (by decide) (by decide) (by decide) (by decide) at_287 rfl (fun r183 T180 h182 hQ184 X181 => ?_)
    obtain ⟨rfl, hh⟩ := hQ184; rw [hh] at X181
    show Go p e below RS T180 (mkF m 290 #[.val (.int p1), .val (.int p2), .val (.int p3), .val (.int p4), .val (.int i73), .val (.int i74), .val (.int i75), .val (.ref b80), .val (.int rv), .val (.int i148)] [(.int (1 : Int32))])
    refine g_if_eq (a := 1) X181 C at_290 (by decide) (by decide) (pT := 387) (by decide) (pF := 293) rfl (fun hc290 => absurd hc290 (by omega)) (fun hc290 => ?_)
    refine g_aload X181 C at_293 rfl rfl rfl ?_
    refine g_bipush (v := 7) X181 C at_295 (by decide) rfl ?_
    refine g_iload X181 C at_297 rfl rfl ?_
    refine g_iload X181 C at_299 rfl rfl ?_
    refine g_iload X181 C at_301 rfl rfl ?_
    refine g_iload X181 C at_303 rfl rfl ?_
    refine g_static (argsL := [(.ref b80), (.int (7 : Int32)), (.int i74), (.int i148), (.int i73), (.int i75)]) (rest := []) (W := 0) X181 C (rmO l Z a0 hw b80 (7 : Int32) i74 i148 i73 i75 gf 7 o n h145 n0 hzW (by decide) (by decide) ho ho7 hn hn15.2 hc0 (hval 7 (by decide)) AW []) (hw _ (List.mem_of_getElem? (i := 6) rfl)) (hw _ (List.mem_of_getElem? (i := 7) rfl)) (hw _ (List.mem_of_getElem? (i := 8) rfl)) (hw _ (List.mem_of_getElem? (i := 9) rfl)) (by decide) pd_1 rfl rfl rfl rfl rfl (by decide) (by decide) (by decide) (by decide) at_305 rfl (fun r188 T185 h187 hQ189 X186 => ?_)
    obtain ⟨rfl, hh⟩ := hQ189; rw [hh] at X186
    show Go p e below RS T185 (mkF m 308 #[.val (.int p1), .val (.int p2), .val (.int p3), .val (.int p4), .val (.int i73), .val (.int i74), .val (.int i75), .val (.ref b80), .val (.int rv), .val (.int i148)] [(.int (1 : Int32))])
    refine g_if_eq (a := 1) X186 C at_308 (by decide) (by decide) (pT := 387) (by decide) (pF := 311) rfl (fun hc308 => absurd hc308 (by omega)) (fun hc308 => ?_)
    refine g_aload X186 C at_311 rfl rfl rfl ?_
    refine g_bipush (v := 8) X186 C at_313 (by decide) rfl ?_
    refine g_iload X186 C at_315 rfl rfl ?_
    refine g_iload X186 C at_317 rfl rfl ?_
    refine g_iload X186 C at_319 rfl rfl ?_
    refine g_iload X186 C at_321 rfl rfl ?_
    refine g_static (argsL := [(.ref b80), (.int (8 : Int32)), (.int i74), (.int i148), (.int i73), (.int i75)]) (rest := []) (W := 0) X186 C (rmO l Z a0 hw b80 (8 : Int32) i74 i148 i73 i75 gf 8 o n h145 n0 hzW (by decide) (by decide) ho ho7 hn hn15.2 hc0 (hval 8 (by decide)) AW []) (hw _ (List.mem_of_getElem? (i := 6) rfl)) (hw _ (List.mem_of_getElem? (i := 7) rfl)) (hw _ (List.mem_of_getElem? (i := 8) rfl)) (hw _ (List.mem_of_getElem? (i := 9) rfl)) (by decide) pd_1 rfl rfl rfl rfl rfl (by decide) (by decide) (by decide) (by decide) at_323 rfl (fun r193 T190 h192 hQ194 X191 => ?_)
    obtain ⟨rfl, hh⟩ := hQ194; rw [hh] at X191
    show Go p e below RS T190 (mkF m 326 #[.val (.int p1), .val (.int p2), .val (.int p3), .val (.int p4), .val (.int i73), .val (.int i74), .val (.int i75), .val (.ref b80), .val (.int rv), .val (.int i148)] [(.int (1 : Int32))])
    refine g_if_eq (a := 1) X191 C at_326 (by decide) (by decide) (pT := 387) (by decide) (pF := 329) rfl (fun hc326 => absurd hc326 (by omega)) (fun hc326 => ?_)
    refine g_aload X191 C at_329 rfl rfl rfl ?_
    refine g_bipush (v := 9) X191 C at_331 (by decide) rfl ?_
    refine g_iload X191 C at_333 rfl rfl ?_
    refine g_iload X191 C at_335 rfl rfl ?_
    refine g_iload X191 C at_337 rfl rfl ?_
    refine g_iload X191 C at_339 rfl rfl ?_
    refine g_static (argsL := [(.ref b80), (.int (9 : Int32)), (.int i74), (.int i148), (.int i73), (.int i75)]) (rest := []) (W := 0) X191 C (rmO l Z a0 hw b80 (9 : Int32) i74 i148 i73 i75 gf 9 o n h145 n0 hzW (by decide) (by decide) ho ho7 hn hn15.2 hc0 (hval 9 (by decide)) AW []) (hw _ (List.mem_of_getElem? (i := 6) rfl)) (hw _ (List.mem_of_getElem? (i := 7) rfl)) (hw _ (List.mem_of_getElem? (i := 8) rfl)) (hw _ (List.mem_of_getElem? (i := 9) rfl)) (by decide) pd_1 rfl rfl rfl rfl rfl (by decide) (by decide) (by decide) (by decide) at_341 rfl (fun r198 T195 h197 hQ199 X196 => ?_)
    obtain ⟨rfl, hh⟩ := hQ199; rw [hh] at X196
    show Go p e below RS T195 (mkF m 344 #[.val (.int p1), .val (.int p2), .val (.int p3), .val (.int p4), .val (.int i73), .val (.int i74), .val (.int i75), .val (.ref b80), .val (.int rv), .val (.int i148)] [(.int (1 : Int32))])
    refine g_if_eq (a := 1) X196 C at_344 (by decide) (by decide) (pT := 387) (by decide) (pF := 347) rfl (fun hc344 => absurd hc344 (by omega)) (fun hc344 => ?_)
    refine g_aload X196 C at_347 rfl rfl rfl ?_
    refine g_bipush (v := 10) X196 C at_349 (by decide) rfl ?_
    refine g_iload X196 C at_351 rfl rfl ?_
    refine g_iload X196 C at_353 rfl rfl ?_
    refine g_iload X196 C at_355 rfl rfl ?_
    refine g_iload X196 C at_357 rfl rfl ?_
    refine g_static (argsL := [(.ref b80), (.int (10 : Int32)), (.int i74), (.int i148), (.int i73), (.int i75)]) (rest := []) (W := 0) X196 C (rmO l Z a0 hw b80 (10 : Int32) i74 i148 i73 i75 gf 10 o n h145 n0 hzW (by decide) (by decide) ho ho7 hn hn15.2 hc0 (hval 10 (by decide)) AW []) (hw _ (List.mem_of_getElem? (i := 6) rfl)) (hw _ (List.mem_of_getElem? (i := 7) rfl)) (hw _ (List.mem_of_getElem? (i := 8) rfl)) (hw _ (List.mem_of_getElem? (i := 9) rfl)) (by decide) pd_1 rfl rfl rfl rfl rfl (by decide) (by decide) (by decide) (by decide) at_359 rfl (fun r203 T200 h202 hQ204 X201 => ?_)
    obtain ⟨rfl, hh⟩ := hQ204; rw [hh] at X201
    show Go p e below RS T200 (mkF m 362 #[.val (.int p1), .val (.int p2), .val (.int p3), .val (.int p4), .val (.int i73), .val (.int i74), .val (.int i75), .val (.ref b80), .val (.int rv), .val (.int i148)] [(.int (1 : Int32))])
    refine g_if_eq (a := 1) X201 C at_362 (by decide) (by decide) (pT := 387) (by decide) (pF := 365) rfl (fun hc362 => absurd hc362 (by omega)) (fun hc362 => ?_)
    refine g_aload X201 C at_365 rfl rfl rfl ?_
    refine g_bipush (v := 11) X201 C at_367 (by decide) rfl ?_
    refine g_iload X201 C at_369 rfl rfl ?_
    refine g_iload X201 C at_371 rfl rfl ?_
    refine g_iload X201 C at_373 rfl rfl ?_
    refine g_iload X201 C at_375 rfl rfl ?_
    refine g_static (argsL := [(.ref b80), (.int (11 : Int32)), (.int i74), (.int i148), (.int i73), (.int i75)]) (rest := []) (W := 0) X201 C (rmO l Z a0 hw b80 (11 : Int32) i74 i148 i73 i75 gf 11 o n h145 n0 hzW (by decide) (by decide) ho ho7 hn hn15.2 hc0 (hval 11 (by decide)) AW []) (hw _ (List.mem_of_getElem? (i := 6) rfl)) (hw _ (List.mem_of_getElem? (i := 7) rfl)) (hw _ (List.mem_of_getElem? (i := 8) rfl)) (hw _ (List.mem_of_getElem? (i := 9) rfl)) (by decide) pd_1 rfl rfl rfl rfl rfl (by decide) (by decide) (by decide) (by decide) at_377 rfl (fun r208 T205 h207 hQ209 X206 => ?_)
    obtain ⟨rfl, hh⟩ := hQ209; rw [hh] at X206
    show Go p e below RS T205 (mkF m 380 #[.val (.int p1), .val (.int p2), .val (.int p3), .val (.int p4), .val (.int i73), .val (.int i74), .val (.int i75), .val (.ref b80), .val (.int rv), .val (.int i148)] [(.int (1 : Int32))])
    refine g_if_eq (a := 1) X206 C at_380 (by decide) (by decide) (pT := 387) (by decide) (pF := 383) rfl (fun hc380 => absurd hc380 (by omega)) (fun hc380 => ?_)
    refine g_iconst (v := 1) X206 C at_383 (by decide) rfl ?_
    refine g_goto (pc' := 388) X206 C at_384 (by decide) (by decide) ?_
    rw [hRS]
    refine g_retZ X206 C at_388 ?_ (by decide) (by decide)
    exact rfl
  refine g_icmp_ge (a := i73.toInt) (b := 128) X144 C at_109 rfl (by decide) (by decide) (pT := 118) (by decide) (pF := 112) rfl (fun hc109 => ?_) (fun hc109 => ?_)
  ·
    refine g_iload X144 C at_118 rfl rfl ?_
    refine g_sipush (v := 16384) X144 C at_120 (by decide) rfl ?_
    refine g_icmp_ge (a := i73.toInt) (b := 16384) X144 C at_123 rfl (by decide) (by decide) (pT := 132) (by decide) (pF := 126) rfl (fun hc123 => ?_) (fun hc123 => ?_)
    ·
      refine g_iload X144 C at_132 rfl rfl ?_
      refine g_ldcI X144 C (hw _ (List.mem_of_getElem? (i := 10) rfl)) at_134 rfl ?_
      refine g_icmp_ge (a := i73.toInt) (b := 2097152) X144 C at_136 rfl (by decide) (by decide) (pT := 145) (by decide) (pF := 139) rfl (fun hc136 => ?_) (fun hc136 => ?_)
      ·
        refine g_iload X144 C at_145 rfl rfl ?_
        refine g_ldcI X144 C (hw _ (List.mem_of_getElem? (i := 11) rfl)) at_147 rfl ?_
        refine g_icmp_ge (a := i73.toInt) (b := 268435456) X144 C at_149 rfl (by decide) (by decide) (pT := 158) (by decide) (pF := 152) rfl (fun hc149 => ?_) (fun hc149 => ?_)
        ·
          refine g_iconst (v := 5) X144 C at_158 (by decide) rfl ?_
          refine g_istore (L' := #[.val (.int p1), .val (.int p2), .val (.int p3), .val (.int p4), .val (.int i73), .val (.int i74), .val (.int i75), .val (.ref b80), .val (.int rv), .val (.int (5 : Int32))]) X144 C at_159 rfl rfl rfl ?_
          exact J161_148 (5 : Int32) (Or.inl (⟨hc109, hc123, hc136, hc149, rfl, by decide⟩))
        ·
          refine g_iconst (v := 4) X144 C at_152 (by decide) rfl ?_
          refine g_istore (L' := #[.val (.int p1), .val (.int p2), .val (.int p3), .val (.int p4), .val (.int i73), .val (.int i74), .val (.int i75), .val (.ref b80), .val (.int rv), .val (.int (4 : Int32))]) X144 C at_153 rfl rfl rfl ?_
          refine g_goto (pc' := 161) X144 C at_155 (by decide) (by decide) ?_
          exact J161_148 (4 : Int32) (Or.inr (Or.inl (⟨hc109, hc123, hc136, hc149, rfl, by decide⟩)))
      ·
        refine g_iconst (v := 3) X144 C at_139 (by decide) rfl ?_
        refine g_istore (L' := #[.val (.int p1), .val (.int p2), .val (.int p3), .val (.int p4), .val (.int i73), .val (.int i74), .val (.int i75), .val (.ref b80), .val (.int rv), .val (.int (3 : Int32))]) X144 C at_140 rfl rfl rfl ?_
        refine g_goto (pc' := 161) X144 C at_142 (by decide) (by decide) ?_
        exact J161_148 (3 : Int32) (Or.inr (Or.inr (Or.inl (⟨hc109, hc123, hc136, rfl, by decide⟩))))
    ·
      refine g_iconst (v := 2) X144 C at_126 (by decide) rfl ?_
      refine g_istore (L' := #[.val (.int p1), .val (.int p2), .val (.int p3), .val (.int p4), .val (.int i73), .val (.int i74), .val (.int i75), .val (.ref b80), .val (.int rv), .val (.int (2 : Int32))]) X144 C at_127 rfl rfl rfl ?_
      refine g_goto (pc' := 161) X144 C at_129 (by decide) (by decide) ?_
      exact J161_148 (2 : Int32) (Or.inr (Or.inr (Or.inr (Or.inl (⟨hc109, hc123, rfl, by decide⟩)))))
  ·
    refine g_iconst (v := 1) X144 C at_112 (by decide) rfl ?_
    refine g_istore (L' := #[.val (.int p1), .val (.int p2), .val (.int p3), .val (.int p4), .val (.int i73), .val (.int i74), .val (.int i75), .val (.ref b80), .val (.int rv), .val (.int (1 : Int32))]) X144 C at_113 rfl rfl rfl ?_
    refine g_goto (pc' := 161) X144 C at_115 (by decide) (by decide) ?_
    exact J161_148 (1 : Int32) (Or.inr (Or.inr (Or.inr (Or.inr (⟨hc109, rfl, by decide⟩)))))
set_option maxRecDepth 65536 in
set_option maxHeartbeats 40000000 in
theorem comes_1 {Post : Tables → Env → Array Value → State → Outcome → State → Prop} (hpost : ∀ tb e args s v u, (limb_1_1.after args s (.returned v) u = true ∧ limb_1_2.after args s (.returned v) u = true ∧ True) → FrameEnd s (.returned v) u (Jvm.fieldLocs frame_1_writes args s ++ Jvm.arrayLocs frame_1_arrays args s ++ Jvm.staticLocs frame_1_statics s) 16 128 → Post tb e args s (.returned v) u) :
    ArmFor flags0 classFile x code maxLocals ret World_1 tables_1 room_1 Calls_1 rest_1 Pre_1 Post := by
  intro l hfl _ _ p e ha hc hk s m args below hf hA hF happ hP
  obtain ⟨hcalls, hrest, hpre⟩ := hP
  obtain ⟨-, -, -, hnamed, -, -, -, hat⟩ := (Spec.applies_iff hf).mp happ
  obtain ⟨hg, hn⟩ := and_e (Cond.before_iff.mp (show (Jvm.Cond.and given_1 narrow_1).before args s = true from hpre))
  obtain ⟨h1, h2⟩ := and_e hg
  obtain ⟨w0, w1, w2, w3, rfl⟩ : ∃ w0 w1 w2 w3 : Value, args = #[w0, w1, w2, w3] := by
    have hs : args.size = 4 := by simpa [Cond.value, given_1] using h1
    obtain ⟨L⟩ := args
    match L, hs with
    | [w0, w1, w2, w3], _ => exact ⟨w0, w1, w2, w3, rfl⟩
  have hw := fun d (hd : d ∈ tables_1) => atoms_spec (ws := Jvm.Cond.code x code maxLocals ret :: tables_1) hat d (List.mem_cons_of_mem _ hd)
  obtain ⟨g0, r0⟩ := and_e h2
  obtain ⟨k0, e0⟩ := is_v g0
  obtain rfl : w0 = (.int k0) := Option.some.inj e0
  obtain ⟨g1, r1⟩ := and_e r0
  obtain ⟨k1, e1⟩ := is_v g1
  obtain rfl : w1 = (.int k1) := Option.some.inj e1
  obtain ⟨g2, r2⟩ := and_e r1
  obtain ⟨k2, e2⟩ := is_v g2
  obtain rfl : w2 = (.int k2) := Option.some.inj e2
  obtain ⟨k3, e3⟩ := is_v r2
  obtain rfl : w3 = (.int k3) := Option.some.inj e3
  obtain ⟨n, o, h1, h2, h3, _, L, rfl, ⟨rfl, N⟩, hq⟩ := rm0 l s _ hw k0 k1 k2 k3 s.heap s.heap.size (Nat.le_refl _) tables_1 p e ha hc hk s m _ below hf ((Spec.applies_iff_loose hf).mp happ).1 ⟨rfl, State.Warmed39.refl s, rfl⟩ trivial
  refine ⟨n, _, h1, h2, h3, hpost _ _ _ _ _ _ ⟨Cond.after_iff.mpr rfl, Cond.after_iff.mpr (eq_i res_at (Term.int_eval (1)) rfl), trivial⟩ ⟨hq.1, hq.2.1, (hq.2.2.sift fun y hy => Or.inr (N y hy)).mono (by decide) (by decide)⟩⟩
theorem main_1_1 : Claimed_1_1 := comes_1 fun _ _ _ _ _ _ h hF => ⟨h.1, hF⟩
theorem main_1_2 : Claimed_1_2 := comes_1 fun _ _ _ _ _ _ h hF => ⟨h.2.1, hF⟩
end Jvm.Pilot.@@N@@
namespace Jvm.Pilot.@@N@@
open Jvm Jvm.ClassFile Sem Op Lib Jvm.Free Jvm.Stand Jvm.Pilot.@@N@@.Jvm.D
/-! MADE BY PROGRAM (witnessworld.py) out of the Statement's table words and the real class files: 9 classes; the members and pool entries that the words name. The judged class is class 1, her method 1. -/
namespace start1
open Jvm.ClassFile
def u (s : String) : CpInfo := .utf8 (stringToUtf16 s)
/-- a pool by its gaps: so many unusable entries, then the entry; so many at the end -/
def gap : Nat → List CpInfo → List CpInfo
  | 0, r => r
  | n + 1, r => .unusable :: gap n r
def poolList (es : List (Nat × CpInfo)) (last : Nat) : List CpInfo := es.foldr (fun e r => gap e.1 (e.2 :: r)) (gap last [])
def pool (es : List (Nat × CpInfo)) (last : Nat) : Array CpInfo := ⟨poolList es last⟩
def fileOf (pool : Array CpInfo) (this : Nat) (attrs : Array Attribute := #[]) (ms : Array MethodInfo := #[]) (fl : Nat := 33) (sup : Nat := 0) (ifs : Array Nat := #[]) (fds : Array FieldInfo := #[]) : ClassFile where
  minorVersion := 0
  majorVersion := 65
  constantPool := pool
  accessFlags := fl
  thisClass := this
  superClass := sup
  interfaces := ifs
  fields := fds
  methods := ms
  attributes := attrs
def plain (name : String) (sup : Option ClassId) : Class where
  name := name
  kind := .ordinary
  loader := none
  accessFlags := 33
  super := sup
  interfaces := #[]
  cf := none
  fields := #[]
  methods := #[]
  instanceTypes := #[]
  staticTypes := #[]
  resolved := #[]
  callSites := []
  init := .initialized
  statics := none
  mirror := none

def pool0 : Array CpInfo := pool [(5, u "<init>"), (0, u "()V"), (1, .class_ 10), (1, u "java/lang/Object")] 113

def k0m0 : Method := { name := "<init>", desc := "()V", sig := { parameters := [], returnType := none }, accessFlags := 1, code := none }
/-- java/lang/Object -/
def k0 : Class := { plain "java/lang/Object" none with
  accessFlags := 33
  interfaces := #[]
  cf := some (fileOf pool0 8 #[] #[{ accessFlags := 1, nameIndex := 5, descriptorIndex := 6, attributes := #[] }] 33 0 #[] #[])
  fields := #[]
  methods := #[k0m0]
  instanceTypes := #[]
  staticTypes := #[]
  resolved := Array.replicate 124 none
  statics := none }

def pool1 : Array CpInfo := pool [(2, .class_ 4), (1, u "java/lang/Object"), (0, u "<init>"), (0, u "()V"), (0, .integer 2147483647), (0, .methodref 9 10), (0, .class_ 11), (0, .nameAndType 12 13), (0, u "com/example/libxmlkey/libxmlkey/RecordBytes"), (0, u "writeCount"), (0, u "([BII)I"), (0, .integer 2097152), (0, .integer 268435456), (0, .methodref 17 18), (0, .class_ 19), (0, .nameAndType 20 21), (0, u "com/example/libxmlkey/libxmlkey/RecordBytesWriteCountPinLaw"), (0, u "ok"), (0, u "([BIIIIB)Z"), (2, u "law"), (0, u "(IIII)Z")] 5

def k1m0 : Method := { name := "<init>", desc := "()V", sig := { parameters := [], returnType := none }, accessFlags := 1, code := none }
def k1c1 : Code := { maxStack := 6, maxLocals := 10, code := code, exceptionTable := #[], attributes := #[] }
def k1m1 : Method := { name := "law", desc := "(IIII)Z", sig := { parameters := [.int, .int, .int, .int], returnType := some .boolean }, accessFlags := 9, code := some k1c1 }
def k1c2 : Code := { maxStack := 3, maxLocals := 9, code := method_3_code, exceptionTable := #[], attributes := #[] }
def k1m2 : Method := { name := "ok", desc := "([BIIIIB)Z", sig := { parameters := [(.array .byte), .int, .int, .int, .int, .byte], returnType := some .boolean }, accessFlags := 10, code := some k1c2 }
/-- com/example/libxmlkey/libxmlkey/RecordBytesWriteCountPinLaw -/
def k1 : Class := { plain "com/example/libxmlkey/libxmlkey/RecordBytesWriteCountPinLaw" (some 0) with
  accessFlags := 49
  interfaces := #[]
  cf := some (fileOf pool1 17 #[] #[{ accessFlags := 1, nameIndex := 5, descriptorIndex := 6, attributes := #[] }, { accessFlags := 9, nameIndex := 24, descriptorIndex := 25, attributes := #[] }, { accessFlags := 10, nameIndex := 20, descriptorIndex := 21, attributes := #[] }] 49 2 #[] #[])
  fields := #[]
  methods := #[k1m0, k1m1, k1m2]
  instanceTypes := #[]
  staticTypes := #[]
  resolved := Array.replicate 31 none
  statics := none }

def pool2 : Array CpInfo := pool [(4, .class_ 6), (1, u "java/lang/Object"), (0, u "<init>"), (0, u "()V"), (7, .class_ 18), (1, u "com/example/libxmlkey/libxmlkey/RecordBytes"), (0, u "sipHash"), (0, u "Lcom/example/libxmlkey/libxmlkey/SipHash;"), (2, u "bytes"), (0, u "[B"), (2, u "length"), (0, u "I"), (2, u "hashed"), (0, u "Z"), (16, u "writeCount"), (0, u "([BII)I"), (20, u "hash"), (59, u "MAX_LENGTH")] 35

def k2m0 : Method := { name := "<init>", desc := "()V", sig := { parameters := [], returnType := none }, accessFlags := 0, code := none }
def k2c1 : Code := { maxStack := 4, maxLocals := 4, code := prog_133_method_11_code, exceptionTable := #[], attributes := #[] }
def k2m1 : Method := { name := "writeCount", desc := "([BII)I", sig := { parameters := [(.array .byte), .int, .int], returnType := some .int }, accessFlags := 8, code := some k2c1 }
/-- com/example/libxmlkey/libxmlkey/RecordBytes -/
def k2 : Class := { plain "com/example/libxmlkey/libxmlkey/RecordBytes" (some 0) with
  accessFlags := 48
  interfaces := #[]
  cf := some (fileOf pool2 16 #[] #[{ accessFlags := 0, nameIndex := 7, descriptorIndex := 8, attributes := #[] }, { accessFlags := 8, nameIndex := 49, descriptorIndex := 50, attributes := #[] }] 48 4 #[] #[{ accessFlags := 26, nameIndex := 131, descriptorIndex := 28, attributes := #[] }, { accessFlags := 18, nameIndex := 19, descriptorIndex := 20, attributes := #[] }, { accessFlags := 2, nameIndex := 23, descriptorIndex := 24, attributes := #[] }, { accessFlags := 2, nameIndex := 27, descriptorIndex := 28, attributes := #[] }, { accessFlags := 2, nameIndex := 71, descriptorIndex := 28, attributes := #[] }, { accessFlags := 2, nameIndex := 31, descriptorIndex := 32, attributes := #[] }])
  fields := #[{ name := "MAX_LENGTH", type := .int, accessFlags := 26, slot := 0, constantValue := 0 }, { name := "sipHash", type := (.object "com/example/libxmlkey/libxmlkey/SipHash"), accessFlags := 18, slot := 0, constantValue := 0 }, { name := "bytes", type := (.array .byte), accessFlags := 2, slot := 1, constantValue := 0 }, { name := "length", type := .int, accessFlags := 2, slot := 2, constantValue := 0 }, { name := "hash", type := .int, accessFlags := 2, slot := 3, constantValue := 0 }, { name := "hashed", type := .boolean, accessFlags := 2, slot := 4, constantValue := 0 }]
  methods := #[k2m0, k2m1]
  instanceTypes := #[(.object "com/example/libxmlkey/libxmlkey/SipHash"), (.array .byte), .int, .int, .boolean]
  staticTypes := #[.int]
  resolved := Array.replicate 167 none
  statics := none }

def pool3 : Array CpInfo := pool [(1, u "java/lang/Cloneable"), (0, .class_ 1), (0, u "java/lang/Object"), (0, .class_ 3)] 3

/-- java/lang/Cloneable -/
def k3 : Class := { plain "java/lang/Cloneable" (some 0) with
  accessFlags := 1537
  interfaces := #[]
  cf := some (fileOf pool3 2 #[] #[] 1537 4 #[] #[])
  fields := #[]
  methods := #[]
  instanceTypes := #[]
  staticTypes := #[]
  resolved := Array.replicate 8 none
  statics := none }

def pool4 : Array CpInfo := pool [(1, u "java/io/Serializable"), (0, .class_ 1), (0, u "java/lang/Object"), (0, .class_ 3)] 3

/-- java/io/Serializable -/
def k4 : Class := { plain "java/io/Serializable" (some 0) with
  accessFlags := 1537
  interfaces := #[]
  cf := some (fileOf pool4 2 #[] #[] 1537 4 #[] #[])
  fields := #[]
  methods := #[]
  instanceTypes := #[]
  staticTypes := #[]
  resolved := Array.replicate 8 none
  statics := none }

/-- the primitive byte -/
def k5 : Class := { plain "byte" none with kind := .primitive 'B', accessFlags := 0x411 }
/-- [B -/
def k6 : Class := { plain "[B" (some 0) with kind := .array 5 .byte, interfaces := #[3, 4], accessFlags := 1041 }

/-- the primitive int -/
def k7 : Class := { plain "int" none with kind := .primitive 'I', accessFlags := 0x411 }
/-- [I -/
def k8 : Class := { plain "[I" (some 0) with kind := .array 7 .int, interfaces := #[3, 4], accessFlags := 1041 }

def heap : Heap := #[]
def classes : Array Class := #[k0, k1, k2, k3, k4, k5, k6, k7, k8]
def interned : List (Array UInt16 × Addr) := []
def slotsUsed : Nat := 0
def theMethod : MethodId := ⟨1, 1⟩
def args0 : Array Value := #[.int 5, .int 7, .int 9, .int 3]
def aboutOver (below : List Frame) : State where
  vm := { classes := classes, interned := interned.toArray }
  heap := heap
  slotsUsed := slotsUsed
  threads := #[{ frames := .invoking theMethod args0 :: below }]
def below0 : List Frame := [.native { method := ⟨0, 0⟩, args := #[] }]
def about1 : State := aboutOver below0
def p0 : Program := .bare "" "" ""
def e0 : Env := launch0.env 0 0 0
theorem w_frames : about1.frames = Frame.invoking theMethod args0 :: below0 := rfl
set_option maxRecDepth 65536 in
theorem w_args : argsFit about1.vm theMethod args0 = true := by decide +kernel
set_option maxRecDepth 65536 in
theorem w_heap : heapFits about1 = true := by decide +kernel
set_option maxRecDepth 65536 in
theorem w_runnable : about1.curStatus? = some .runnable := by decide +kernel
set_option maxRecDepth 65536 in
theorem w_alone : about1.alone = true := by decide +kernel
set_option maxRecDepth 65536 in
theorem w_named : about1.methodNamed? x = some theMethod := by decide +kernel
set_option maxRecDepth 65536 in
theorem w_hears : about1.hears theMethod below0 = true := by decide +kernel
set_option maxRecDepth 65536 in
theorem w_ripe : about1.ripe theMethod args0 below0 = true := by decide +kernel
theorem w_running : about1.status = .running := rfl
set_option maxRecDepth 65536 in
theorem w_room : about1.hasRoom e0.platform room_1 = true :=
  launch0.hasRoom_least _ room_1 (by decide +kernel) (by decide +kernel) (by decide +kernel) (by decide +kernel) (by decide +kernel) (by decide +kernel)
theorem allAtoms_all (ts : List Jvm.Cond) (a : Array Jvm.Value) (st : Jvm.State) : (allAtoms ts).before a st = ts.all (fun c => c.before a st) := by
  induction ts with
  | nil => rfl
  | cons c t ih =>
    show (Jvm.Cond.and c (allAtoms t)).before a st = _
    rw [Jvm.Cond.before_and, ih, List.all_cons]
def words1 : List Jvm.Cond := Jvm.Cond.code x code maxLocals ret :: tables_1
/-- a 'code' word, met by the world's own term for the bytes: nothing is compared byte by byte -/
theorem code_word {y : MethodName} {bytes : ByteArray} {mx : Nat} {rt : Option FieldType} {a : Array Value} {s : State} {m : MethodId} {meth : Method} {c : Code} (h1 : s.methodNamed? y = some m) (h2 : s.vm.method? m = some meth) (h3 : meth.code = some c) (h4 : c.code = bytes)
    (h5 : (c.maxLocals == mx && c.exceptionTable.isEmpty && decide (c.maxStack ≤ mostOperands) && decide (meth.sig.returnType = rt) && !meth.locks && decide (parseMethodDescriptor y.desc = some meth.sig)) = true) : (Jvm.Cond.code y bytes mx rt).before a s = true := by
  simp only [Bool.and_eq_true, beq_iff_eq, Bool.not_eq_true', decide_eq_true_eq] at h5
  obtain ⟨⟨⟨⟨⟨g1, g2⟩, g3⟩, g4⟩, g5⟩, g6⟩ := h5
  simp [Cond.before, Cond.holds, Cond.value, h1, h2, h3, h4, g1, g2, g3, g4, g5, g6]
def isCode : Jvm.Cond → Bool
  | .code _ _ _ _ => true
  | _ => false
theorem all_split {L : List Jvm.Cond} {P : Jvm.Cond → Bool} (h1 : L.all (fun c => isCode c || P c) = true) (h2 : ∀ c ∈ L.filter isCode, P c = true) : L.all P = true := by
  refine List.all_eq_true.mpr fun c hc => ?_
  have h := List.all_eq_true.mp h1 c hc
  rcases Bool.eq_false_or_eq_true (isCode c) with hi | hi
  · exact h2 c (List.mem_filter.mpr ⟨hc, hi⟩)
  · simpa [hi] using h
set_option maxRecDepth 65536 in
theorem w_c0 : (Jvm.Cond.code x code maxLocals ret).before args0 about1 = true := code_word (m := ⟨1, 1⟩) (meth := k1m1) (c := k1c1) (by decide +kernel) rfl rfl rfl (by decide +kernel)
set_option maxRecDepth 65536 in
theorem w_c1 : (Jvm.Cond.code ({ cls := "com/example/libxmlkey/libxmlkey/RecordBytes", name := "writeCount", desc := "([BII)I" } : Jvm.MethodName) prog_133_method_11_code (4 : Nat) (Option.some Jvm.ClassFile.FieldType.int)).before args0 about1 = true := code_word (m := ⟨2, 1⟩) (meth := k2m1) (c := k2c1) (by decide +kernel) rfl rfl rfl (by decide +kernel)
set_option maxRecDepth 65536 in
theorem w_c2 : (Jvm.Cond.code ({ cls := "com/example/libxmlkey/libxmlkey/RecordBytesWriteCountPinLaw", name := "ok", desc := "([BIIIIB)Z" } : Jvm.MethodName) method_3_code (9 : Nat) (Option.some Jvm.ClassFile.FieldType.boolean)).before args0 about1 = true := code_word (m := ⟨1, 2⟩) (meth := k1m2) (c := k1c2) (by decide +kernel) rfl rfl rfl (by decide +kernel)
def codes1 : List Jvm.Cond := [Jvm.Cond.code x code maxLocals ret, Jvm.Cond.code ({ cls := "com/example/libxmlkey/libxmlkey/RecordBytes", name := "writeCount", desc := "([BII)I" } : Jvm.MethodName) prog_133_method_11_code (4 : Nat) (Option.some Jvm.ClassFile.FieldType.int), Jvm.Cond.code ({ cls := "com/example/libxmlkey/libxmlkey/RecordBytesWriteCountPinLaw", name := "ok", desc := "([BIIIIB)Z" } : Jvm.MethodName) method_3_code (9 : Nat) (Option.some Jvm.ClassFile.FieldType.boolean)]
set_option maxRecDepth 65536 in
theorem codes_eq : words1.filter isCode = codes1 := rfl
theorem w_codes : ∀ c ∈ words1.filter isCode, c.before args0 about1 = true := by
  rw [codes_eq]
  intro c hc
  simp only [codes1, List.mem_cons, List.not_mem_nil, or_false] at hc
  rcases hc with rfl | rfl | rfl
  · exact w_c0
  · exact w_c1
  · exact w_c2
set_option maxRecDepth 65536 in
theorem w_t1 : words1.all (fun c => isCode c || c.before args0 about1) = true := by decide +kernel
theorem w_tables : (allAtoms (Jvm.Cond.code x code maxLocals ret :: tables_1)).before args0 about1 = true := by
  rw [allAtoms_all]
  show words1.all (fun c => c.before args0 about1) = true
  refine all_split ?_ w_codes
  rw [w_t1]
set_option maxRecDepth 65536 in
theorem w_case : (Jvm.Cond.and given_1 narrow_1).before args0 about1 = true := by decide +kernel
theorem w_applies : (headSpec (Jvm.Cond.code x code maxLocals ret :: tables_1) room_1).applies x e0.platform about1 = true :=
  (Spec.applies_iff w_frames).mpr ⟨w_running, w_runnable, w_alone, w_named, w_hears, w_ripe, w_room, w_tables⟩
theorem atStart : AtStart classFile x code maxLocals ret World_1 tables_1 room_1 Calls_1 rest_1 Pre_1 launch0 p0 e0 about1 theMethod args0 below0 :=
  ⟨lists_1, trivial, launch0.admits_env _ _ _, launch0.least_env, fairChoices_fair.cas, fairChoices_fair.clock, w_frames, w_args, w_heap, w_applies, trivial, trivial, w_case⟩
end start1
theorem witness_1 : WitnessClaimed_1 := ⟨start1.p0, start1.e0, start1.about1, start1.theMethod, start1.args0, start1.below0, start1.atStart⟩
end Jvm.Pilot.@@N@@
