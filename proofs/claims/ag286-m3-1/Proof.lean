import JvmDerived
import JvmDerived.Pilot.@@N@@Statement
import JvmDerived.Pilot.@@N@@Code
set_option linter.unusedVariables false
set_option linter.unusedSimpArgs false
namespace Jvm.Own
open Sem ClassFile Op Lib Jvm.Stand Jvm.Free Jvm.LawKit Jvm.RoadKit
section Lay
variable {p : Program} {l : Launch} {e : Env} {R : Room} {s : State} {m : MethodId} {args : Array Value} {below : List Frame} {meth : Method} {c : Code} {T T' : State} {cells slots n0 : Nat} {Z : State} {a0 : Array Value} {h h' : Heap} {Rest : State → Outcome → Prop} {pc pc' : Nat} {L L' : Array Slot} {S : List Value} {f f' : JFrame} {bytes : ByteArray} {maxL : Nat} {ret : Option FieldType} {own nme : String}
/-- the run stands here: a Stand whose written places are all new -/
def St (p : Program) (l : Launch) (e : Env) (R : Room) (s : State) (m : MethodId) (args : Array Value) (below : List Frame) (meth : Method) (c : Code) (n0 : Nat) (T : State) (h : Heap) (cells slots : Nat) : Prop := ∃ locs, Stand p l e R s m args below meth c T locs cells slots ∧ Fr n0 locs ∧ T.heap = h
def Cx (p : Program) (s : State) (m : MethodId) (meth : Method) (c : Code) (Z : State) (bytes : ByteArray) (maxL : Nat) (ret : Option FieldType) (own nme : String) : Prop := p.tables.exec = Jvm.exec ∧ c.code = bytes ∧ c.maxLocals = maxL ∧ meth.sig.returnType = ret ∧ meth.locks = false ∧ s.vm.findClass own = some m.cls ∧ meth.name = nme ∧ Z.Warmed39 s.vm
def Go (p : Program) (e : Env) (below : List Frame) (Rest : State → Outcome → Prop) (T : State) (f : JFrame) : Prop := ∃ t o, Steps p.tables e below (T.setTop f) t ∧ Rest t o
theorem go_by (st : ∀ t, Steps p.tables e below (T'.setTop f') t → Steps p.tables e below (T.setTop f) t) (k : Go p e below Rest T' f') : Go p e below Rest T f := by
  obtain ⟨t, o, h1, h2⟩ := k; exact ⟨t, o, st t h1, h2⟩
theorem go_tr (st : Steps p.tables e below (T.setTop f) (T'.setTop f')) (k : Go p e below Rest T' f') : Go p e below Rest T f := by
  obtain ⟨t, o, h1, h2⟩ := k; exact ⟨t, o, st.trans h1, h2⟩
theorem go_cast (q : f = f') (k : Go p e below Rest T f') : Go p e below Rest T f := q ▸ k
abbrev Rs (s : State) (below : List Frame) (n0 : Nat) (Q : Option Value → Heap → Prop) (k n : Nat) : State → Outcome → Prop := fun t o => t.status = .running ∧ Ended t below o ∧ ∃ v L, o = .returned v ∧ (Q v t.heap ∧ Fr n0 L) ∧ FrameEnd s o t L k n
abbrev Ctr (l : Launch) (y : MethodName) (bytes : ByteArray) (maxL : Nat) (ret : Option FieldType) (rm : Room) (Z : State) (n0 : Nat) (as : Array Value) (h : Heap) (Q : Option Value → Heap → Prop) (ws : List Jvm.Cond) : Prop :=
  MetFree l y (head1 (Jvm.Cond.code y bytes maxL ret :: ws) rm) (fun a U => a = as ∧ Z.Warmed39 U.vm ∧ U.heap = h) (fun _ _ _ _ _ => True) (fun _ U o U' => ∃ v L, o = .returned v ∧ (Q v U'.heap ∧ Fr n0 L) ∧ FrameEnd U o U' L rm.cells rm.slots)
theorem ctr_of {y : MethodName} {rm : Room} {as : Array Value} {Q : Option Value → Heap → Prop} {ws : List Jvm.Cond} (hpn : plainFor y = true)
    (body : ∀ p e s m below meth c s₁, St p l e rm s m as below meth c n0 s₁ h 0 0 → Cx p s m meth c Z bytes maxL ret y.cls y.name → Go p e below (Rs s below n0 Q rm.cells rm.slots) s₁ (entryFrame m as maxL)) :
    Ctr l y bytes maxL ret rm Z n0 as h Q ws := by
  refine MetFree.of_bodySF hpn hisR ?_
  intro p e s m args below meth c s₁ Bd hml0 hP hK
  obtain ⟨rfl, hZ, hh⟩ := hP
  have hown := findClass_of_methodNamed Bd.named
  have hnm := (name_of_methodNamed Bd.named Bd.method).1
  have X0 : Stand p l e rm s m args below meth c s₁ [] 0 0 := Stand.of_body Bd
  have e0 : s₁.heap = h := by rw [← hh, Bd.state]; rfl
  obtain ⟨t, o, h1, h2, h3, h4⟩ := body p e s m below meth c s₁ ⟨[], X0, Fr.nil n0, e0⟩ ⟨Bd.exec, Bd.bytes, hml0, Bd.returns, Bd.notSynchronized, hown, hnm, hZ⟩
  exact ⟨t, o, h1, h2, h3, h4⟩
theorem g_iload (X : St p l e R s m args below meth c n0 T h cells slots) (C : Cx p s m meth c Z bytes maxL ret own nme) {k : Nat} {v : Int32} (hd : decode bytes pc = .ok (.iload k, 2)) (hl : L[k]? = some (.val (.int v))) (hp : pc + 2 = pc') (r : Go p e below Rest T (mkF m pc' L (.int v :: S))) : Go p e below Rest T (mkF m pc L S) := by
  obtain ⟨_, X, -, -⟩ := X; obtain ⟨hx, hby, -⟩ := C; subst hp
  exact go_by (fun t k => XS.iload X.here hx rfl (hb hby hd) hl k) r
theorem g_iloadN (X : St p l e R s m args below meth c n0 T h cells slots) (C : Cx p s m meth c Z bytes maxL ret own nme) {k : Fin 4} {v : Int32} (hd : decode bytes pc = .ok (.iload_n k, 1)) (hl : L[k.val]? = some (.val (.int v))) (hp : pc + 1 = pc') (r : Go p e below Rest T (mkF m pc' L (.int v :: S))) : Go p e below Rest T (mkF m pc L S) := by
  obtain ⟨_, X, -, -⟩ := X; obtain ⟨hx, hby, -⟩ := C; subst hp
  exact go_by (fun t k => XS.iloadN X.here hx rfl (hb hby hd) hl k) r
theorem g_istore (X : St p l e R s m args below meth c n0 T h cells slots) (C : Cx p s m meth c Z bytes maxL ret own nme) {k : Nat} {v v' : Int32} (hd : decode bytes pc = .ok (.istore k, 2)) (hv : v' = v) (hl : storeLocals L k (.int v') = some L') (hp : pc + 2 = pc') (r : Go p e below Rest T (mkF m pc' L' S)) : Go p e below Rest T (mkF m pc L (.int v :: S)) := by
  obtain ⟨_, X, -, -⟩ := X; obtain ⟨hx, hby, -⟩ := C; subst hp
  exact go_by (fun t k => XS.istore X.here hx rfl (hb hby hd) rfl (hv ▸ hl) k) r
theorem g_istoreN (X : St p l e R s m args below meth c n0 T h cells slots) (C : Cx p s m meth c Z bytes maxL ret own nme) {k : Fin 4} {v v' : Int32} (hd : decode bytes pc = .ok (.istore_n k, 1)) (hv : v' = v) (hl : storeLocals L k.val (.int v') = some L') (hp : pc + 1 = pc') (r : Go p e below Rest T (mkF m pc' L' S)) : Go p e below Rest T (mkF m pc L (.int v :: S)) := by
  obtain ⟨_, X, -, -⟩ := X; obtain ⟨hx, hby, -⟩ := C; subst hp
  exact go_by (fun t k => XS.istoreN X.here hx rfl (hb hby hd) rfl (hv ▸ hl) k) r
theorem g_lload (X : St p l e R s m args below meth c n0 T h cells slots) (C : Cx p s m meth c Z bytes maxL ret own nme) {k : Nat} {v : Int64} (hd : decode bytes pc = .ok (.lload k, 2)) (hl : L[k]? = some (.val (.long v))) (hp : pc + 2 = pc') (r : Go p e below Rest T (mkF m pc' L (.long v :: S))) : Go p e below Rest T (mkF m pc L S) := by
  obtain ⟨_, X, -, -⟩ := X; obtain ⟨hx, hby, -⟩ := C; subst hp
  exact go_by (fun t k => XS.lload X.here hx rfl (hb hby hd) hl k) r
theorem g_lloadN (X : St p l e R s m args below meth c n0 T h cells slots) (C : Cx p s m meth c Z bytes maxL ret own nme) {k : Fin 4} {v : Int64} (hd : decode bytes pc = .ok (.lload_n k, 1)) (hl : L[k.val]? = some (.val (.long v))) (hp : pc + 1 = pc') (r : Go p e below Rest T (mkF m pc' L (.long v :: S))) : Go p e below Rest T (mkF m pc L S) := by
  obtain ⟨_, X, -, -⟩ := X; obtain ⟨hx, hby, -⟩ := C; subst hp
  exact go_by (fun t k => XS.lloadN X.here hx rfl (hb hby hd) hl k) r
theorem g_lstore (X : St p l e R s m args below meth c n0 T h cells slots) (C : Cx p s m meth c Z bytes maxL ret own nme) {k : Nat} {v v' : Int64} (hd : decode bytes pc = .ok (.lstore k, 2)) (hv : v' = v) (hl : storeLocals L k (.long v') = some L') (hp : pc + 2 = pc') (r : Go p e below Rest T (mkF m pc' L' S)) : Go p e below Rest T (mkF m pc L (.long v :: S)) := by
  obtain ⟨_, X, -, -⟩ := X; obtain ⟨hx, hby, -⟩ := C; subst hp
  exact go_by (fun t k => XS.lstore X.here hx rfl (hb hby hd) rfl (hv ▸ hl) k) r
theorem g_lstoreN (X : St p l e R s m args below meth c n0 T h cells slots) (C : Cx p s m meth c Z bytes maxL ret own nme) {k : Fin 4} {v v' : Int64} (hd : decode bytes pc = .ok (.lstore_n k, 1)) (hv : v' = v) (hl : storeLocals L k.val (.long v') = some L') (hp : pc + 1 = pc') (r : Go p e below Rest T (mkF m pc' L' S)) : Go p e below Rest T (mkF m pc L (.long v :: S)) := by
  obtain ⟨_, X, -, -⟩ := X; obtain ⟨hx, hby, -⟩ := C; subst hp
  exact go_by (fun t k => XS.lstoreN X.here hx rfl (hb hby hd) rfl (hv ▸ hl) k) r
theorem g_aload (X : St p l e R s m args below meth c n0 T h cells slots) (C : Cx p s m meth c Z bytes maxL ret own nme) {k : Nat} {v : Value} (hd : decode bytes pc = .ok (.aload k, 2)) (hl : L[k]? = some (.val v)) (hv : v.isRef = true) (hp : pc + 2 = pc') (r : Go p e below Rest T (mkF m pc' L (v :: S))) : Go p e below Rest T (mkF m pc L S) := by
  obtain ⟨_, X, -, -⟩ := X; obtain ⟨hx, hby, -⟩ := C; subst hp
  exact go_by (fun t k => XS.aload X.here hx rfl (hb hby hd) hl hv k) r
theorem g_aloadN (X : St p l e R s m args below meth c n0 T h cells slots) (C : Cx p s m meth c Z bytes maxL ret own nme) {k : Fin 4} {v : Value} (hd : decode bytes pc = .ok (.aload_n k, 1)) (hl : L[k.val]? = some (.val v)) (hv : v.isRef = true) (hp : pc + 1 = pc') (r : Go p e below Rest T (mkF m pc' L (v :: S))) : Go p e below Rest T (mkF m pc L S) := by
  obtain ⟨_, X, -, -⟩ := X; obtain ⟨hx, hby, -⟩ := C; subst hp
  exact go_by (fun t k => XS.aloadN X.here hx rfl (hb hby hd) hl hv k) r
theorem g_astore (X : St p l e R s m args below meth c n0 T h cells slots) (C : Cx p s m meth c Z bytes maxL ret own nme) {k : Nat} {v : Value} (hd : decode bytes pc = .ok (.astore k, 2)) (hv : v.isRef = true) (hl : storeLocals L k v = some L') (hp : pc + 2 = pc') (r : Go p e below Rest T (mkF m pc' L' S)) : Go p e below Rest T (mkF m pc L (v :: S)) := by
  obtain ⟨_, X, -, -⟩ := X; obtain ⟨hx, hby, -⟩ := C; subst hp
  exact go_by (fun t k => XS.astore X.here hx rfl (hb hby hd) rfl hv hl k) r
theorem g_astoreN (X : St p l e R s m args below meth c n0 T h cells slots) (C : Cx p s m meth c Z bytes maxL ret own nme) {k : Fin 4} {v : Value} (hd : decode bytes pc = .ok (.astore_n k, 1)) (hv : v.isRef = true) (hl : storeLocals L k.val v = some L') (hp : pc + 1 = pc') (r : Go p e below Rest T (mkF m pc' L' S)) : Go p e below Rest T (mkF m pc L (v :: S)) := by
  obtain ⟨_, X, -, -⟩ := X; obtain ⟨hx, hby, -⟩ := C; subst hp
  exact go_by (fun t k => XS.astoreN X.here hx rfl (hb hby hd) rfl hv hl k) r
theorem g_iconst (X : St p l e R s m args below meth c n0 T h cells slots) (C : Cx p s m meth c Z bytes maxL ret own nme) {i : Int} {v : Int32} (hd : decode bytes pc = .ok (.iconst i, 1)) (hv : Int32.ofInt i = v) (hp : pc + 1 = pc') (r : Go p e below Rest T (mkF m pc' L (.int v :: S))) : Go p e below Rest T (mkF m pc L S) := by
  obtain ⟨_, X, -, -⟩ := X; obtain ⟨hx, hby, -⟩ := C; subst hp hv
  exact go_by (fun t k => XS.iconst X.here hx rfl (hb hby hd) k) r
theorem g_bipush (X : St p l e R s m args below meth c n0 T h cells slots) (C : Cx p s m meth c Z bytes maxL ret own nme) {i : Int} {v : Int32} (hd : decode bytes pc = .ok (.bipush i, 2)) (hv : (Int8.ofInt i).toInt32 = v) (hp : pc + 2 = pc') (r : Go p e below Rest T (mkF m pc' L (.int v :: S))) : Go p e below Rest T (mkF m pc L S) := by
  obtain ⟨_, X, -, -⟩ := X; obtain ⟨hx, hby, -⟩ := C; subst hp hv
  exact go_by (fun t k => XS.bipush X.here hx rfl (hb hby hd) k) r
theorem g_sipush (X : St p l e R s m args below meth c n0 T h cells slots) (C : Cx p s m meth c Z bytes maxL ret own nme) {i : Int} {v : Int32} (hd : decode bytes pc = .ok (.sipush i, 3)) (hv : (Int16.ofInt i).toInt32 = v) (hp : pc + 3 = pc') (r : Go p e below Rest T (mkF m pc' L (.int v :: S))) : Go p e below Rest T (mkF m pc L S) := by
  obtain ⟨_, X, -, -⟩ := X; obtain ⟨hx, hby, -⟩ := C; subst hp hv
  exact go_by (fun t k => XS.sipush X.here hx rfl (hb hby hd) k) r
theorem g_lconst (X : St p l e R s m args below meth c n0 T h cells slots) (C : Cx p s m meth c Z bytes maxL ret own nme) {i : Fin 2} {v : Int64} (hd : decode bytes pc = .ok (.lconst i, 1)) (hv : Int64.ofNat i = v) (hp : pc + 1 = pc') (r : Go p e below Rest T (mkF m pc' L (.long v :: S))) : Go p e below Rest T (mkF m pc L S) := by
  obtain ⟨_, X, -, -⟩ := X; obtain ⟨hx, hby, -⟩ := C; subst hp hv
  exact go_by (fun t k => XS.lconst X.here hx rfl (hb hby hd) k) r
theorem g_aconst (X : St p l e R s m args below meth c n0 T h cells slots) (C : Cx p s m meth c Z bytes maxL ret own nme)  (hd : decode bytes pc = .ok (.aconst_null, 1))  (hp : pc + 1 = pc') (r : Go p e below Rest T (mkF m pc' L (.null :: S))) : Go p e below Rest T (mkF m pc L S) := by
  obtain ⟨_, X, -, -⟩ := X; obtain ⟨hx, hby, -⟩ := C; subst hp
  exact go_by (fun t k => XS.aconstNull X.here hx rfl (hb hby hd)  k) r
theorem g_iadd (X : St p l e R s m args below meth c n0 T h cells slots) (C : Cx p s m meth c Z bytes maxL ret own nme) {x y : Int32} (hd : decode bytes pc = .ok (.iadd, 1))  (hp : pc + 1 = pc') (r : Go p e below Rest T (mkF m pc' L (.int (x + y) :: S))) : Go p e below Rest T (mkF m pc L (.int y :: .int x :: S)) := by
  obtain ⟨_, X, -, -⟩ := X; obtain ⟨hx, hby, -⟩ := C; subst hp
  exact go_by (fun t k => XS.iadd X.here hx rfl (hb hby hd) rfl k) r
theorem g_ladd (X : St p l e R s m args below meth c n0 T h cells slots) (C : Cx p s m meth c Z bytes maxL ret own nme) {x y : Int64} (hd : decode bytes pc = .ok (.ladd, 1))  (hp : pc + 1 = pc') (r : Go p e below Rest T (mkF m pc' L (.long (x + y) :: S))) : Go p e below Rest T (mkF m pc L (.long y :: .long x :: S)) := by
  obtain ⟨_, X, -, -⟩ := X; obtain ⟨hx, hby, -⟩ := C; subst hp
  exact go_by (fun t k => XS.ladd X.here hx rfl (hb hby hd) rfl k) r
theorem g_isub (X : St p l e R s m args below meth c n0 T h cells slots) (C : Cx p s m meth c Z bytes maxL ret own nme) {x y : Int32} (hd : decode bytes pc = .ok (.isub, 1))  (hp : pc + 1 = pc') (r : Go p e below Rest T (mkF m pc' L (.int (x - y) :: S))) : Go p e below Rest T (mkF m pc L (.int y :: .int x :: S)) := by
  obtain ⟨_, X, -, -⟩ := X; obtain ⟨hx, hby, -⟩ := C; subst hp
  exact go_by (fun t k => XS.isub X.here hx rfl (hb hby hd) rfl k) r
theorem g_lsub (X : St p l e R s m args below meth c n0 T h cells slots) (C : Cx p s m meth c Z bytes maxL ret own nme) {x y : Int64} (hd : decode bytes pc = .ok (.lsub, 1))  (hp : pc + 1 = pc') (r : Go p e below Rest T (mkF m pc' L (.long (x - y) :: S))) : Go p e below Rest T (mkF m pc L (.long y :: .long x :: S)) := by
  obtain ⟨_, X, -, -⟩ := X; obtain ⟨hx, hby, -⟩ := C; subst hp
  exact go_by (fun t k => XS.lsub X.here hx rfl (hb hby hd) rfl k) r
theorem g_imul (X : St p l e R s m args below meth c n0 T h cells slots) (C : Cx p s m meth c Z bytes maxL ret own nme) {x y : Int32} (hd : decode bytes pc = .ok (.imul, 1))  (hp : pc + 1 = pc') (r : Go p e below Rest T (mkF m pc' L (.int (x * y) :: S))) : Go p e below Rest T (mkF m pc L (.int y :: .int x :: S)) := by
  obtain ⟨_, X, -, -⟩ := X; obtain ⟨hx, hby, -⟩ := C; subst hp
  exact go_by (fun t k => XS.imul X.here hx rfl (hb hby hd) rfl k) r
theorem g_lmul (X : St p l e R s m args below meth c n0 T h cells slots) (C : Cx p s m meth c Z bytes maxL ret own nme) {x y : Int64} (hd : decode bytes pc = .ok (.lmul, 1))  (hp : pc + 1 = pc') (r : Go p e below Rest T (mkF m pc' L (.long (x * y) :: S))) : Go p e below Rest T (mkF m pc L (.long y :: .long x :: S)) := by
  obtain ⟨_, X, -, -⟩ := X; obtain ⟨hx, hby, -⟩ := C; subst hp
  exact go_by (fun t k => XS.lmul X.here hx rfl (hb hby hd) rfl k) r
theorem g_iand (X : St p l e R s m args below meth c n0 T h cells slots) (C : Cx p s m meth c Z bytes maxL ret own nme) {x y : Int32} (hd : decode bytes pc = .ok (.iand, 1))  (hp : pc + 1 = pc') (r : Go p e below Rest T (mkF m pc' L (.int (x &&& y) :: S))) : Go p e below Rest T (mkF m pc L (.int y :: .int x :: S)) := by
  obtain ⟨_, X, -, -⟩ := X; obtain ⟨hx, hby, -⟩ := C; subst hp
  exact go_by (fun t k => XS.iand X.here hx rfl (hb hby hd) rfl k) r
theorem g_land (X : St p l e R s m args below meth c n0 T h cells slots) (C : Cx p s m meth c Z bytes maxL ret own nme) {x y : Int64} (hd : decode bytes pc = .ok (.land, 1))  (hp : pc + 1 = pc') (r : Go p e below Rest T (mkF m pc' L (.long (x &&& y) :: S))) : Go p e below Rest T (mkF m pc L (.long y :: .long x :: S)) := by
  obtain ⟨_, X, -, -⟩ := X; obtain ⟨hx, hby, -⟩ := C; subst hp
  exact go_by (fun t k => XS.land X.here hx rfl (hb hby hd) rfl k) r
theorem g_ior (X : St p l e R s m args below meth c n0 T h cells slots) (C : Cx p s m meth c Z bytes maxL ret own nme) {x y : Int32} (hd : decode bytes pc = .ok (.ior, 1))  (hp : pc + 1 = pc') (r : Go p e below Rest T (mkF m pc' L (.int (x ||| y) :: S))) : Go p e below Rest T (mkF m pc L (.int y :: .int x :: S)) := by
  obtain ⟨_, X, -, -⟩ := X; obtain ⟨hx, hby, -⟩ := C; subst hp
  exact go_by (fun t k => XS.ior X.here hx rfl (hb hby hd) rfl k) r
theorem g_lor (X : St p l e R s m args below meth c n0 T h cells slots) (C : Cx p s m meth c Z bytes maxL ret own nme) {x y : Int64} (hd : decode bytes pc = .ok (.lor, 1))  (hp : pc + 1 = pc') (r : Go p e below Rest T (mkF m pc' L (.long (x ||| y) :: S))) : Go p e below Rest T (mkF m pc L (.long y :: .long x :: S)) := by
  obtain ⟨_, X, -, -⟩ := X; obtain ⟨hx, hby, -⟩ := C; subst hp
  exact go_by (fun t k => XS.lor X.here hx rfl (hb hby hd) rfl k) r
theorem g_ixor (X : St p l e R s m args below meth c n0 T h cells slots) (C : Cx p s m meth c Z bytes maxL ret own nme) {x y : Int32} (hd : decode bytes pc = .ok (.ixor, 1))  (hp : pc + 1 = pc') (r : Go p e below Rest T (mkF m pc' L (.int (x ^^^ y) :: S))) : Go p e below Rest T (mkF m pc L (.int y :: .int x :: S)) := by
  obtain ⟨_, X, -, -⟩ := X; obtain ⟨hx, hby, -⟩ := C; subst hp
  exact go_by (fun t k => XS.ixor X.here hx rfl (hb hby hd) rfl k) r
theorem g_lxor (X : St p l e R s m args below meth c n0 T h cells slots) (C : Cx p s m meth c Z bytes maxL ret own nme) {x y : Int64} (hd : decode bytes pc = .ok (.lxor, 1))  (hp : pc + 1 = pc') (r : Go p e below Rest T (mkF m pc' L (.long (x ^^^ y) :: S))) : Go p e below Rest T (mkF m pc L (.long y :: .long x :: S)) := by
  obtain ⟨_, X, -, -⟩ := X; obtain ⟨hx, hby, -⟩ := C; subst hp
  exact go_by (fun t k => XS.lxor X.here hx rfl (hb hby hd) rfl k) r
theorem g_ishl (X : St p l e R s m args below meth c n0 T h cells slots) (C : Cx p s m meth c Z bytes maxL ret own nme) {x : Int32} {y : Int32} (hd : decode bytes pc = .ok (.ishl, 1))  (hp : pc + 1 = pc') (r : Go p e below Rest T (mkF m pc' L (.int (x <<< (y &&& 31)) :: S))) : Go p e below Rest T (mkF m pc L (.int y :: .int x :: S)) := by
  obtain ⟨_, X, -, -⟩ := X; obtain ⟨hx, hby, -⟩ := C; subst hp
  exact go_by (fun t k => XS.ishl X.here hx rfl (hb hby hd) rfl k) r
theorem g_ishr (X : St p l e R s m args below meth c n0 T h cells slots) (C : Cx p s m meth c Z bytes maxL ret own nme) {x : Int32} {y : Int32} (hd : decode bytes pc = .ok (.ishr, 1))  (hp : pc + 1 = pc') (r : Go p e below Rest T (mkF m pc' L (.int (x >>> (y &&& 31)) :: S))) : Go p e below Rest T (mkF m pc L (.int y :: .int x :: S)) := by
  obtain ⟨_, X, -, -⟩ := X; obtain ⟨hx, hby, -⟩ := C; subst hp
  exact go_by (fun t k => XS.ishr X.here hx rfl (hb hby hd) rfl k) r
theorem g_iushr (X : St p l e R s m args below meth c n0 T h cells slots) (C : Cx p s m meth c Z bytes maxL ret own nme) {x : Int32} {y : Int32} (hd : decode bytes pc = .ok (.iushr, 1))  (hp : pc + 1 = pc') (r : Go p e below Rest T (mkF m pc' L (.int ((x.toUInt32 >>> (y &&& 31).toUInt32).toInt32) :: S))) : Go p e below Rest T (mkF m pc L (.int y :: .int x :: S)) := by
  obtain ⟨_, X, -, -⟩ := X; obtain ⟨hx, hby, -⟩ := C; subst hp
  exact go_by (fun t k => XS.iushr X.here hx rfl (hb hby hd) rfl k) r
theorem g_lshl (X : St p l e R s m args below meth c n0 T h cells slots) (C : Cx p s m meth c Z bytes maxL ret own nme) {x : Int64} {y : Int32} (hd : decode bytes pc = .ok (.lshl, 1))  (hp : pc + 1 = pc') (r : Go p e below Rest T (mkF m pc' L (.long (x <<< (y &&& 0x3f).toInt64) :: S))) : Go p e below Rest T (mkF m pc L (.int y :: .long x :: S)) := by
  obtain ⟨_, X, -, -⟩ := X; obtain ⟨hx, hby, -⟩ := C; subst hp
  exact go_by (fun t k => XS.lshl X.here hx rfl (hb hby hd) rfl k) r
theorem g_lshr (X : St p l e R s m args below meth c n0 T h cells slots) (C : Cx p s m meth c Z bytes maxL ret own nme) {x : Int64} {y : Int32} (hd : decode bytes pc = .ok (.lshr, 1))  (hp : pc + 1 = pc') (r : Go p e below Rest T (mkF m pc' L (.long (x >>> (y &&& 0x3f).toInt64) :: S))) : Go p e below Rest T (mkF m pc L (.int y :: .long x :: S)) := by
  obtain ⟨_, X, -, -⟩ := X; obtain ⟨hx, hby, -⟩ := C; subst hp
  exact go_by (fun t k => XS.lshr X.here hx rfl (hb hby hd) rfl k) r
theorem g_lushr (X : St p l e R s m args below meth c n0 T h cells slots) (C : Cx p s m meth c Z bytes maxL ret own nme) {x : Int64} {y : Int32} (hd : decode bytes pc = .ok (.lushr, 1))  (hp : pc + 1 = pc') (r : Go p e below Rest T (mkF m pc' L (.long ((x.toUInt64 >>> (y &&& 0x3f).toInt64.toUInt64).toInt64) :: S))) : Go p e below Rest T (mkF m pc L (.int y :: .long x :: S)) := by
  obtain ⟨_, X, -, -⟩ := X; obtain ⟨hx, hby, -⟩ := C; subst hp
  exact go_by (fun t k => XS.lushr X.here hx rfl (hb hby hd) rfl k) r
theorem g_idiv (X : St p l e R s m args below meth c n0 T h cells slots) (C : Cx p s m meth c Z bytes maxL ret own nme) {x y : Int32} (hd : decode bytes pc = .ok (.idiv, 1)) (hy : y ≠ 0) (hp : pc + 1 = pc') (r : Go p e below Rest T (mkF m pc' L (.int (x / y) :: S))) : Go p e below Rest T (mkF m pc L (.int y :: .int x :: S)) := by
  obtain ⟨_, X, -, -⟩ := X; obtain ⟨hx, hby, -⟩ := C; subst hp
  exact go_by (fun t k => XS.idiv X.here hx rfl (hb hby hd) rfl hy k) r
theorem g_ldiv (X : St p l e R s m args below meth c n0 T h cells slots) (C : Cx p s m meth c Z bytes maxL ret own nme) {x y : Int64} (hd : decode bytes pc = .ok (.ldiv, 1)) (hy : y ≠ 0) (hp : pc + 1 = pc') (r : Go p e below Rest T (mkF m pc' L (.long (x / y) :: S))) : Go p e below Rest T (mkF m pc L (.long y :: .long x :: S)) := by
  obtain ⟨_, X, -, -⟩ := X; obtain ⟨hx, hby, -⟩ := C; subst hp
  exact go_by (fun t k => XS.ldiv X.here hx rfl (hb hby hd) rfl hy k) r
theorem g_ineg (X : St p l e R s m args below meth c n0 T h cells slots) (C : Cx p s m meth c Z bytes maxL ret own nme) {x : Int32} (hd : decode bytes pc = .ok (.ineg, 1))  (hp : pc + 1 = pc') (r : Go p e below Rest T (mkF m pc' L (.int ((-x)) :: S))) : Go p e below Rest T (mkF m pc L (.int x :: S)) := by
  obtain ⟨_, X, -, -⟩ := X; obtain ⟨hx, hby, -⟩ := C; subst hp
  exact go_by (fun t k => XS.ineg X.here hx rfl (hb hby hd) rfl k) r
theorem g_lneg (X : St p l e R s m args below meth c n0 T h cells slots) (C : Cx p s m meth c Z bytes maxL ret own nme) {x : Int64} (hd : decode bytes pc = .ok (.lneg, 1))  (hp : pc + 1 = pc') (r : Go p e below Rest T (mkF m pc' L (.long ((-x)) :: S))) : Go p e below Rest T (mkF m pc L (.long x :: S)) := by
  obtain ⟨_, X, -, -⟩ := X; obtain ⟨hx, hby, -⟩ := C; subst hp
  exact go_by (fun t k => XS.lneg X.here hx rfl (hb hby hd) rfl k) r
theorem g_i2l (X : St p l e R s m args below meth c n0 T h cells slots) (C : Cx p s m meth c Z bytes maxL ret own nme) {x : Int32} (hd : decode bytes pc = .ok (.i2l, 1))  (hp : pc + 1 = pc') (r : Go p e below Rest T (mkF m pc' L (.long (x.toInt64) :: S))) : Go p e below Rest T (mkF m pc L (.int x :: S)) := by
  obtain ⟨_, X, -, -⟩ := X; obtain ⟨hx, hby, -⟩ := C; subst hp
  exact go_by (fun t k => XS.i2l X.here hx rfl (hb hby hd) rfl k) r
theorem g_l2i (X : St p l e R s m args below meth c n0 T h cells slots) (C : Cx p s m meth c Z bytes maxL ret own nme) {x : Int64} (hd : decode bytes pc = .ok (.l2i, 1))  (hp : pc + 1 = pc') (r : Go p e below Rest T (mkF m pc' L (.int (x.toInt32) :: S))) : Go p e below Rest T (mkF m pc L (.long x :: S)) := by
  obtain ⟨_, X, -, -⟩ := X; obtain ⟨hx, hby, -⟩ := C; subst hp
  exact go_by (fun t k => XS.l2i X.here hx rfl (hb hby hd) rfl k) r
theorem g_i2b (X : St p l e R s m args below meth c n0 T h cells slots) (C : Cx p s m meth c Z bytes maxL ret own nme) {x : Int32} (hd : decode bytes pc = .ok (.i2b, 1))  (hp : pc + 1 = pc') (r : Go p e below Rest T (mkF m pc' L (.int (x.toInt8.toInt32) :: S))) : Go p e below Rest T (mkF m pc L (.int x :: S)) := by
  obtain ⟨_, X, -, -⟩ := X; obtain ⟨hx, hby, -⟩ := C; subst hp
  exact go_by (fun t k => XS.i2b X.here hx rfl (hb hby hd) rfl k) r
theorem g_i2s (X : St p l e R s m args below meth c n0 T h cells slots) (C : Cx p s m meth c Z bytes maxL ret own nme) {x : Int32} (hd : decode bytes pc = .ok (.i2s, 1))  (hp : pc + 1 = pc') (r : Go p e below Rest T (mkF m pc' L (.int (x.toInt16.toInt32) :: S))) : Go p e below Rest T (mkF m pc L (.int x :: S)) := by
  obtain ⟨_, X, -, -⟩ := X; obtain ⟨hx, hby, -⟩ := C; subst hp
  exact go_by (fun t k => XS.i2s X.here hx rfl (hb hby hd) rfl k) r
theorem g_i2c (X : St p l e R s m args below meth c n0 T h cells slots) (C : Cx p s m meth c Z bytes maxL ret own nme) {x : Int32} (hd : decode bytes pc = .ok (.i2c, 1))  (hp : pc + 1 = pc') (r : Go p e below Rest T (mkF m pc' L (.int (x.toUInt32.toUInt16.toUInt32.toInt32) :: S))) : Go p e below Rest T (mkF m pc L (.int x :: S)) := by
  obtain ⟨_, X, -, -⟩ := X; obtain ⟨hx, hby, -⟩ := C; subst hp
  exact go_by (fun t k => XS.i2c X.here hx rfl (hb hby hd) rfl k) r
theorem g_lcmp (X : St p l e R s m args below meth c n0 T h cells slots) (C : Cx p s m meth c Z bytes maxL ret own nme) {x y : Int64} (hd : decode bytes pc = .ok (.lcmp, 1))  (hp : pc + 1 = pc') (r : Go p e below Rest T (mkF m pc' L (.int (lcmpW x y) :: S))) : Go p e below Rest T (mkF m pc L (.long y :: .long x :: S)) := by
  obtain ⟨_, X, -, -⟩ := X; obtain ⟨hx, hby, -⟩ := C; subst hp
  exact go_by (fun t k => XS.lcmp X.here hx rfl (hb hby hd) rfl k) r
theorem g_dup (X : St p l e R s m args below meth c n0 T h cells slots) (C : Cx p s m meth c Z bytes maxL ret own nme) {x : Value} (hd : decode bytes pc = .ok (.dup, 1)) (hc : x.category = 1) (hp : pc + 1 = pc') (r : Go p e below Rest T (mkF m pc' L (x :: x :: S))) : Go p e below Rest T (mkF m pc L (x :: S)) := by
  obtain ⟨_, X, -, -⟩ := X; obtain ⟨hx, hby, -⟩ := C; subst hp
  exact go_by (fun t k => XS.dup X.here hx rfl (hb hby hd) rfl hc k) r
theorem g_pop (X : St p l e R s m args below meth c n0 T h cells slots) (C : Cx p s m meth c Z bytes maxL ret own nme) {x : Value} (hd : decode bytes pc = .ok (.pop, 1)) (hc : x.category = 1) (hp : pc + 1 = pc') (r : Go p e below Rest T (mkF m pc' L S)) : Go p e below Rest T (mkF m pc L (x :: S)) := by
  obtain ⟨_, X, -, -⟩ := X; obtain ⟨hx, hby, -⟩ := C; subst hp
  exact go_by (fun t k => XS.pop X.here hx rfl (hb hby hd) rfl hc k) r
theorem g_dupx1 (X : St p l e R s m args below meth c n0 T h cells slots) (C : Cx p s m meth c Z bytes maxL ret own nme) {x y : Value} (hd : decode bytes pc = .ok (.dup_x1, 1)) (hc : x.category = 1) (hc' : y.category = 1) (hp : pc + 1 = pc') (r : Go p e below Rest T (mkF m pc' L (x :: y :: x :: S))) : Go p e below Rest T (mkF m pc L (x :: y :: S)) := by
  obtain ⟨_, X, -, -⟩ := X; obtain ⟨hx, hby, -⟩ := C; subst hp
  exact go_by (fun t k => XS.dupX1 X.here hx rfl (hb hby hd) rfl hc hc' k) r
theorem g_dup2 (X : St p l e R s m args below meth c n0 T h cells slots) (C : Cx p s m meth c Z bytes maxL ret own nme) {x y : Value} (hd : decode bytes pc = .ok (.dup2, 1)) (hc : x.category = 1) (hc' : y.category = 1) (hp : pc + 1 = pc') (r : Go p e below Rest T (mkF m pc' L (x :: y :: x :: y :: S))) : Go p e below Rest T (mkF m pc L (x :: y :: S)) := by
  obtain ⟨_, X, -, -⟩ := X; obtain ⟨hx, hby, -⟩ := C; subst hp
  exact go_by (fun t k => XT.dup2 X.here hx rfl (hb hby hd) rfl hc hc' k) r
theorem g_dup2L (X : St p l e R s m args below meth c n0 T h cells slots) (C : Cx p s m meth c Z bytes maxL ret own nme) {x : Int64} (hd : decode bytes pc = .ok (.dup2, 1))  (hp : pc + 1 = pc') (r : Go p e below Rest T (mkF m pc' L (.long x :: .long x :: S))) : Go p e below Rest T (mkF m pc L (.long x :: S)) := by
  obtain ⟨_, X, -, -⟩ := X; obtain ⟨hx, hby, -⟩ := C; subst hp
  exact go_by (fun t k => XT.dup2L X.here hx rfl (hb hby hd) rfl k) r
theorem g_iinc (X : St p l e R s m args below meth c n0 T h cells slots) (C : Cx p s m meth c Z bytes maxL ret own nme) {k : Nat} {i : Int} {v v' : Int32} (hd : decode bytes pc = .ok (.iinc k i, 3)) (hl : L[k]? = some (.val (.int v))) (hv : v' = v + Int32.ofInt i) (hs : storeLocals L k (.int v') = some L') (hp : pc + 3 = pc') (r : Go p e below Rest T (mkF m pc' L' S)) : Go p e below Rest T (mkF m pc L S) := by
  obtain ⟨_, X, -, -⟩ := X; obtain ⟨hx, hby, -⟩ := C; subst hp
  exact go_by (fun t k => XS.iinc X.here hx rfl (hb hby hd) hl (hv ▸ hs) k) r
theorem g_goto (X : St p l e R s m args below meth c n0 T h cells slots) (C : Cx p s m meth c Z bytes maxL ret own nme) {o : Int} (hd : decode bytes pc = .ok (.goto o, 3)) (h0 : 0 ≤ (pc : Int) + o) (hp : ((pc : Int) + o).toNat = pc') (r : Go p e below Rest T (mkF m pc' L S)) : Go p e below Rest T (mkF m pc L S) := by
  obtain ⟨_, X, -, -⟩ := X; obtain ⟨hx, hby, -⟩ := C
  exact go_by (fun t k => XS.goto X.here hx rfl (pc0 := pc) rfl (hb hby hd) h0 hp k) r
theorem g_icmp (X : St p l e R s m args below meth c n0 T h cells slots) (C : Cx p s m meth c Z bytes maxL ret own nme) {cd : ClassFile.Cond} {o : Int} {x y : Int32} {pT pF : Nat} (hd : decode bytes pc = .ok (.if_icmp cd o, 3)) (h0 : 0 ≤ (pc : Int) + o) (hT : ((pc : Int) + o).toNat = pT) (hF : pc + 3 = pF) (r1 : if_icmp.holds cd x y = true → Go p e below Rest T (mkF m pT L S)) (r2 : if_icmp.holds cd x y = false → Go p e below Rest T (mkF m pF L S)) : Go p e below Rest T (mkF m pc L (.int y :: .int x :: S)) := by
  obtain ⟨_, X, -, -⟩ := X; obtain ⟨hx, hby, -⟩ := C
  rcases Bool.eq_false_or_eq_true (if_icmp.holds cd x y) with q | q
  · exact go_by (fun t k => XS.icmpYes X.here hx rfl (pc0 := pc) rfl (hb hby hd) rfl q h0 hT k) (r1 q)
  · subst hF; exact go_by (fun t k => XS.icmpNo X.here hx rfl (hb hby hd) rfl q k) (r2 q)
theorem g_if (X : St p l e R s m args below meth c n0 T h cells slots) (C : Cx p s m meth c Z bytes maxL ret own nme) {cd : ClassFile.Cond} {o : Int} {x : Int32} {pT pF : Nat} (hd : decode bytes pc = .ok (.ifCond cd o, 3)) (h0 : 0 ≤ (pc : Int) + o) (hT : ((pc : Int) + o).toNat = pT) (hF : pc + 3 = pF) (r1 : if_icmp.holds cd x 0 = true → Go p e below Rest T (mkF m pT L S)) (r2 : if_icmp.holds cd x 0 = false → Go p e below Rest T (mkF m pF L S)) : Go p e below Rest T (mkF m pc L (.int x :: S)) := by
  obtain ⟨_, X, -, -⟩ := X; obtain ⟨hx, hby, -⟩ := C
  rcases Bool.eq_false_or_eq_true (if_icmp.holds cd x 0) with q | q
  · exact go_by (fun t k => XS.ifYes X.here hx rfl (pc0 := pc) rfl (hb hby hd) rfl ((if0 _ _).trans q) h0 hT k) (r1 q)
  · subst hF; exact go_by (fun t k => XS.ifNo X.here hx rfl (hb hby hd) rfl ((if0 _ _).trans q) k) (r2 q)
theorem hold_lt {x y : Int32} {a b : Int} (ha : x.toInt = a) (hb' : y.toInt = b) : (if_icmp.holds .lt x y = true → a < b) ∧ (if_icmp.holds .lt x y = false → b ≤ a) := by
  subst ha hb'
  constructor <;> intro q <;> simp [if_icmp.holds, Int32.lt_iff_toInt_lt, Int32.le_iff_toInt_le, ← Int32.toInt_inj] at q <;> omega
theorem g_icmp_lt (X : St p l e R s m args below meth c n0 T h cells slots) (C : Cx p s m meth c Z bytes maxL ret own nme) {o : Int} {x y : Int32} {a b : Int} {pT pF : Nat} (hd : decode bytes pc = .ok (.if_icmp .lt o, 3)) (ha : x.toInt = a) (hb' : y.toInt = b) (h0 : 0 ≤ (pc : Int) + o) (hT : ((pc : Int) + o).toNat = pT) (hF : pc + 3 = pF) (r1 : a < b → Go p e below Rest T (mkF m pT L S)) (r2 : b ≤ a → Go p e below Rest T (mkF m pF L S)) : Go p e below Rest T (mkF m pc L (.int y :: .int x :: S)) :=
  g_icmp X C hd h0 hT hF (fun q => r1 ((hold_lt ha hb').1 q)) (fun q => r2 ((hold_lt ha hb').2 q))
theorem g_if_lt (X : St p l e R s m args below meth c n0 T h cells slots) (C : Cx p s m meth c Z bytes maxL ret own nme) {o : Int} {x : Int32} {a : Int} {pT pF : Nat} (hd : decode bytes pc = .ok (.ifCond .lt o, 3)) (ha : x.toInt = a) (h0 : 0 ≤ (pc : Int) + o) (hT : ((pc : Int) + o).toNat = pT) (hF : pc + 3 = pF) (r1 : a < 0 → Go p e below Rest T (mkF m pT L S)) (r2 : 0 ≤ a → Go p e below Rest T (mkF m pF L S)) : Go p e below Rest T (mkF m pc L (.int x :: S)) :=
  g_if X C hd h0 hT hF (fun q => r1 ((hold_lt ha (by decide)).1 q)) (fun q => r2 ((hold_lt ha (by decide)).2 q))
theorem hlc_lt {x y : Int64} {a b : Int} (ha : x.toInt = a) (hb' : y.toInt = b) : (if_icmp.holds .lt (lcmpW x y) 0 = true → a < b) ∧ (if_icmp.holds .lt (lcmpW x y) 0 = false → b ≤ a) := by
  have h1 := c_lcmp x y; subst ha hb'
  have h3 := hold_lt (x := lcmpW x y) (y := 0) rfl (b := 0) (by decide)
  refine ⟨fun q => ?_, fun q => ?_⟩
  · have := h3.1 q; omega
  · have := h3.2 q; omega
theorem g_lif_lt (X : St p l e R s m args below meth c n0 T h cells slots) (C : Cx p s m meth c Z bytes maxL ret own nme) {o : Int} {x y : Int64} {a b : Int} {pT pF : Nat} (hd : decode bytes pc = .ok (.ifCond .lt o, 3)) (ha : x.toInt = a) (hb' : y.toInt = b) (h0 : 0 ≤ (pc : Int) + o) (hT : ((pc : Int) + o).toNat = pT) (hF : pc + 3 = pF) (r1 : a < b → Go p e below Rest T (mkF m pT L S)) (r2 : b ≤ a → Go p e below Rest T (mkF m pF L S)) : Go p e below Rest T (mkF m pc L (.int (lcmpW x y) :: S)) :=
  g_if X C hd h0 hT hF (fun q => r1 ((hlc_lt ha hb').1 q)) (fun q => r2 ((hlc_lt ha hb').2 q))
theorem hold_ge {x y : Int32} {a b : Int} (ha : x.toInt = a) (hb' : y.toInt = b) : (if_icmp.holds .ge x y = true → b ≤ a) ∧ (if_icmp.holds .ge x y = false → a < b) := by
  subst ha hb'
  constructor <;> intro q <;> simp [if_icmp.holds, Int32.lt_iff_toInt_lt, Int32.le_iff_toInt_le, ← Int32.toInt_inj] at q <;> omega
theorem g_icmp_ge (X : St p l e R s m args below meth c n0 T h cells slots) (C : Cx p s m meth c Z bytes maxL ret own nme) {o : Int} {x y : Int32} {a b : Int} {pT pF : Nat} (hd : decode bytes pc = .ok (.if_icmp .ge o, 3)) (ha : x.toInt = a) (hb' : y.toInt = b) (h0 : 0 ≤ (pc : Int) + o) (hT : ((pc : Int) + o).toNat = pT) (hF : pc + 3 = pF) (r1 : b ≤ a → Go p e below Rest T (mkF m pT L S)) (r2 : a < b → Go p e below Rest T (mkF m pF L S)) : Go p e below Rest T (mkF m pc L (.int y :: .int x :: S)) :=
  g_icmp X C hd h0 hT hF (fun q => r1 ((hold_ge ha hb').1 q)) (fun q => r2 ((hold_ge ha hb').2 q))
theorem g_if_ge (X : St p l e R s m args below meth c n0 T h cells slots) (C : Cx p s m meth c Z bytes maxL ret own nme) {o : Int} {x : Int32} {a : Int} {pT pF : Nat} (hd : decode bytes pc = .ok (.ifCond .ge o, 3)) (ha : x.toInt = a) (h0 : 0 ≤ (pc : Int) + o) (hT : ((pc : Int) + o).toNat = pT) (hF : pc + 3 = pF) (r1 : 0 ≤ a → Go p e below Rest T (mkF m pT L S)) (r2 : a < 0 → Go p e below Rest T (mkF m pF L S)) : Go p e below Rest T (mkF m pc L (.int x :: S)) :=
  g_if X C hd h0 hT hF (fun q => r1 ((hold_ge ha (by decide)).1 q)) (fun q => r2 ((hold_ge ha (by decide)).2 q))
theorem hlc_ge {x y : Int64} {a b : Int} (ha : x.toInt = a) (hb' : y.toInt = b) : (if_icmp.holds .ge (lcmpW x y) 0 = true → b ≤ a) ∧ (if_icmp.holds .ge (lcmpW x y) 0 = false → a < b) := by
  have h1 := c_lcmp x y; subst ha hb'
  have h3 := hold_ge (x := lcmpW x y) (y := 0) rfl (b := 0) (by decide)
  refine ⟨fun q => ?_, fun q => ?_⟩
  · have := h3.1 q; omega
  · have := h3.2 q; omega
theorem g_lif_ge (X : St p l e R s m args below meth c n0 T h cells slots) (C : Cx p s m meth c Z bytes maxL ret own nme) {o : Int} {x y : Int64} {a b : Int} {pT pF : Nat} (hd : decode bytes pc = .ok (.ifCond .ge o, 3)) (ha : x.toInt = a) (hb' : y.toInt = b) (h0 : 0 ≤ (pc : Int) + o) (hT : ((pc : Int) + o).toNat = pT) (hF : pc + 3 = pF) (r1 : b ≤ a → Go p e below Rest T (mkF m pT L S)) (r2 : a < b → Go p e below Rest T (mkF m pF L S)) : Go p e below Rest T (mkF m pc L (.int (lcmpW x y) :: S)) :=
  g_if X C hd h0 hT hF (fun q => r1 ((hlc_ge ha hb').1 q)) (fun q => r2 ((hlc_ge ha hb').2 q))
theorem hold_gt {x y : Int32} {a b : Int} (ha : x.toInt = a) (hb' : y.toInt = b) : (if_icmp.holds .gt x y = true → b < a) ∧ (if_icmp.holds .gt x y = false → a ≤ b) := by
  subst ha hb'
  constructor <;> intro q <;> simp [if_icmp.holds, Int32.lt_iff_toInt_lt, Int32.le_iff_toInt_le, ← Int32.toInt_inj] at q <;> omega
theorem g_icmp_gt (X : St p l e R s m args below meth c n0 T h cells slots) (C : Cx p s m meth c Z bytes maxL ret own nme) {o : Int} {x y : Int32} {a b : Int} {pT pF : Nat} (hd : decode bytes pc = .ok (.if_icmp .gt o, 3)) (ha : x.toInt = a) (hb' : y.toInt = b) (h0 : 0 ≤ (pc : Int) + o) (hT : ((pc : Int) + o).toNat = pT) (hF : pc + 3 = pF) (r1 : b < a → Go p e below Rest T (mkF m pT L S)) (r2 : a ≤ b → Go p e below Rest T (mkF m pF L S)) : Go p e below Rest T (mkF m pc L (.int y :: .int x :: S)) :=
  g_icmp X C hd h0 hT hF (fun q => r1 ((hold_gt ha hb').1 q)) (fun q => r2 ((hold_gt ha hb').2 q))
theorem g_if_gt (X : St p l e R s m args below meth c n0 T h cells slots) (C : Cx p s m meth c Z bytes maxL ret own nme) {o : Int} {x : Int32} {a : Int} {pT pF : Nat} (hd : decode bytes pc = .ok (.ifCond .gt o, 3)) (ha : x.toInt = a) (h0 : 0 ≤ (pc : Int) + o) (hT : ((pc : Int) + o).toNat = pT) (hF : pc + 3 = pF) (r1 : 0 < a → Go p e below Rest T (mkF m pT L S)) (r2 : a ≤ 0 → Go p e below Rest T (mkF m pF L S)) : Go p e below Rest T (mkF m pc L (.int x :: S)) :=
  g_if X C hd h0 hT hF (fun q => r1 ((hold_gt ha (by decide)).1 q)) (fun q => r2 ((hold_gt ha (by decide)).2 q))
theorem hlc_gt {x y : Int64} {a b : Int} (ha : x.toInt = a) (hb' : y.toInt = b) : (if_icmp.holds .gt (lcmpW x y) 0 = true → b < a) ∧ (if_icmp.holds .gt (lcmpW x y) 0 = false → a ≤ b) := by
  have h1 := c_lcmp x y; subst ha hb'
  have h3 := hold_gt (x := lcmpW x y) (y := 0) rfl (b := 0) (by decide)
  refine ⟨fun q => ?_, fun q => ?_⟩
  · have := h3.1 q; omega
  · have := h3.2 q; omega
theorem g_lif_gt (X : St p l e R s m args below meth c n0 T h cells slots) (C : Cx p s m meth c Z bytes maxL ret own nme) {o : Int} {x y : Int64} {a b : Int} {pT pF : Nat} (hd : decode bytes pc = .ok (.ifCond .gt o, 3)) (ha : x.toInt = a) (hb' : y.toInt = b) (h0 : 0 ≤ (pc : Int) + o) (hT : ((pc : Int) + o).toNat = pT) (hF : pc + 3 = pF) (r1 : b < a → Go p e below Rest T (mkF m pT L S)) (r2 : a ≤ b → Go p e below Rest T (mkF m pF L S)) : Go p e below Rest T (mkF m pc L (.int (lcmpW x y) :: S)) :=
  g_if X C hd h0 hT hF (fun q => r1 ((hlc_gt ha hb').1 q)) (fun q => r2 ((hlc_gt ha hb').2 q))
theorem hold_le {x y : Int32} {a b : Int} (ha : x.toInt = a) (hb' : y.toInt = b) : (if_icmp.holds .le x y = true → a ≤ b) ∧ (if_icmp.holds .le x y = false → b < a) := by
  subst ha hb'
  constructor <;> intro q <;> simp [if_icmp.holds, Int32.lt_iff_toInt_lt, Int32.le_iff_toInt_le, ← Int32.toInt_inj] at q <;> omega
theorem g_icmp_le (X : St p l e R s m args below meth c n0 T h cells slots) (C : Cx p s m meth c Z bytes maxL ret own nme) {o : Int} {x y : Int32} {a b : Int} {pT pF : Nat} (hd : decode bytes pc = .ok (.if_icmp .le o, 3)) (ha : x.toInt = a) (hb' : y.toInt = b) (h0 : 0 ≤ (pc : Int) + o) (hT : ((pc : Int) + o).toNat = pT) (hF : pc + 3 = pF) (r1 : a ≤ b → Go p e below Rest T (mkF m pT L S)) (r2 : b < a → Go p e below Rest T (mkF m pF L S)) : Go p e below Rest T (mkF m pc L (.int y :: .int x :: S)) :=
  g_icmp X C hd h0 hT hF (fun q => r1 ((hold_le ha hb').1 q)) (fun q => r2 ((hold_le ha hb').2 q))
theorem g_if_le (X : St p l e R s m args below meth c n0 T h cells slots) (C : Cx p s m meth c Z bytes maxL ret own nme) {o : Int} {x : Int32} {a : Int} {pT pF : Nat} (hd : decode bytes pc = .ok (.ifCond .le o, 3)) (ha : x.toInt = a) (h0 : 0 ≤ (pc : Int) + o) (hT : ((pc : Int) + o).toNat = pT) (hF : pc + 3 = pF) (r1 : a ≤ 0 → Go p e below Rest T (mkF m pT L S)) (r2 : 0 < a → Go p e below Rest T (mkF m pF L S)) : Go p e below Rest T (mkF m pc L (.int x :: S)) :=
  g_if X C hd h0 hT hF (fun q => r1 ((hold_le ha (by decide)).1 q)) (fun q => r2 ((hold_le ha (by decide)).2 q))
theorem hlc_le {x y : Int64} {a b : Int} (ha : x.toInt = a) (hb' : y.toInt = b) : (if_icmp.holds .le (lcmpW x y) 0 = true → a ≤ b) ∧ (if_icmp.holds .le (lcmpW x y) 0 = false → b < a) := by
  have h1 := c_lcmp x y; subst ha hb'
  have h3 := hold_le (x := lcmpW x y) (y := 0) rfl (b := 0) (by decide)
  refine ⟨fun q => ?_, fun q => ?_⟩
  · have := h3.1 q; omega
  · have := h3.2 q; omega
theorem g_lif_le (X : St p l e R s m args below meth c n0 T h cells slots) (C : Cx p s m meth c Z bytes maxL ret own nme) {o : Int} {x y : Int64} {a b : Int} {pT pF : Nat} (hd : decode bytes pc = .ok (.ifCond .le o, 3)) (ha : x.toInt = a) (hb' : y.toInt = b) (h0 : 0 ≤ (pc : Int) + o) (hT : ((pc : Int) + o).toNat = pT) (hF : pc + 3 = pF) (r1 : a ≤ b → Go p e below Rest T (mkF m pT L S)) (r2 : b < a → Go p e below Rest T (mkF m pF L S)) : Go p e below Rest T (mkF m pc L (.int (lcmpW x y) :: S)) :=
  g_if X C hd h0 hT hF (fun q => r1 ((hlc_le ha hb').1 q)) (fun q => r2 ((hlc_le ha hb').2 q))
theorem hold_eq {x y : Int32} {a b : Int} (ha : x.toInt = a) (hb' : y.toInt = b) : (if_icmp.holds .eq x y = true → a = b) ∧ (if_icmp.holds .eq x y = false → a ≠ b) := by
  subst ha hb'
  constructor <;> intro q <;> simp [if_icmp.holds, Int32.lt_iff_toInt_lt, Int32.le_iff_toInt_le, ← Int32.toInt_inj] at q <;> omega
theorem g_icmp_eq (X : St p l e R s m args below meth c n0 T h cells slots) (C : Cx p s m meth c Z bytes maxL ret own nme) {o : Int} {x y : Int32} {a b : Int} {pT pF : Nat} (hd : decode bytes pc = .ok (.if_icmp .eq o, 3)) (ha : x.toInt = a) (hb' : y.toInt = b) (h0 : 0 ≤ (pc : Int) + o) (hT : ((pc : Int) + o).toNat = pT) (hF : pc + 3 = pF) (r1 : a = b → Go p e below Rest T (mkF m pT L S)) (r2 : a ≠ b → Go p e below Rest T (mkF m pF L S)) : Go p e below Rest T (mkF m pc L (.int y :: .int x :: S)) :=
  g_icmp X C hd h0 hT hF (fun q => r1 ((hold_eq ha hb').1 q)) (fun q => r2 ((hold_eq ha hb').2 q))
theorem g_if_eq (X : St p l e R s m args below meth c n0 T h cells slots) (C : Cx p s m meth c Z bytes maxL ret own nme) {o : Int} {x : Int32} {a : Int} {pT pF : Nat} (hd : decode bytes pc = .ok (.ifCond .eq o, 3)) (ha : x.toInt = a) (h0 : 0 ≤ (pc : Int) + o) (hT : ((pc : Int) + o).toNat = pT) (hF : pc + 3 = pF) (r1 : a = 0 → Go p e below Rest T (mkF m pT L S)) (r2 : a ≠ 0 → Go p e below Rest T (mkF m pF L S)) : Go p e below Rest T (mkF m pc L (.int x :: S)) :=
  g_if X C hd h0 hT hF (fun q => r1 ((hold_eq ha (by decide)).1 q)) (fun q => r2 ((hold_eq ha (by decide)).2 q))
theorem hlc_eq {x y : Int64} {a b : Int} (ha : x.toInt = a) (hb' : y.toInt = b) : (if_icmp.holds .eq (lcmpW x y) 0 = true → a = b) ∧ (if_icmp.holds .eq (lcmpW x y) 0 = false → a ≠ b) := by
  have h1 := c_lcmp x y; subst ha hb'
  have h3 := hold_eq (x := lcmpW x y) (y := 0) rfl (b := 0) (by decide)
  refine ⟨fun q => ?_, fun q => ?_⟩
  · have := h3.1 q; omega
  · have := h3.2 q; omega
theorem g_lif_eq (X : St p l e R s m args below meth c n0 T h cells slots) (C : Cx p s m meth c Z bytes maxL ret own nme) {o : Int} {x y : Int64} {a b : Int} {pT pF : Nat} (hd : decode bytes pc = .ok (.ifCond .eq o, 3)) (ha : x.toInt = a) (hb' : y.toInt = b) (h0 : 0 ≤ (pc : Int) + o) (hT : ((pc : Int) + o).toNat = pT) (hF : pc + 3 = pF) (r1 : a = b → Go p e below Rest T (mkF m pT L S)) (r2 : a ≠ b → Go p e below Rest T (mkF m pF L S)) : Go p e below Rest T (mkF m pc L (.int (lcmpW x y) :: S)) :=
  g_if X C hd h0 hT hF (fun q => r1 ((hlc_eq ha hb').1 q)) (fun q => r2 ((hlc_eq ha hb').2 q))
theorem hold_ne {x y : Int32} {a b : Int} (ha : x.toInt = a) (hb' : y.toInt = b) : (if_icmp.holds .ne x y = true → a ≠ b) ∧ (if_icmp.holds .ne x y = false → a = b) := by
  subst ha hb'
  constructor <;> intro q <;> simp [if_icmp.holds, Int32.lt_iff_toInt_lt, Int32.le_iff_toInt_le, ← Int32.toInt_inj] at q <;> omega
theorem g_icmp_ne (X : St p l e R s m args below meth c n0 T h cells slots) (C : Cx p s m meth c Z bytes maxL ret own nme) {o : Int} {x y : Int32} {a b : Int} {pT pF : Nat} (hd : decode bytes pc = .ok (.if_icmp .ne o, 3)) (ha : x.toInt = a) (hb' : y.toInt = b) (h0 : 0 ≤ (pc : Int) + o) (hT : ((pc : Int) + o).toNat = pT) (hF : pc + 3 = pF) (r1 : a ≠ b → Go p e below Rest T (mkF m pT L S)) (r2 : a = b → Go p e below Rest T (mkF m pF L S)) : Go p e below Rest T (mkF m pc L (.int y :: .int x :: S)) :=
  g_icmp X C hd h0 hT hF (fun q => r1 ((hold_ne ha hb').1 q)) (fun q => r2 ((hold_ne ha hb').2 q))
theorem g_if_ne (X : St p l e R s m args below meth c n0 T h cells slots) (C : Cx p s m meth c Z bytes maxL ret own nme) {o : Int} {x : Int32} {a : Int} {pT pF : Nat} (hd : decode bytes pc = .ok (.ifCond .ne o, 3)) (ha : x.toInt = a) (h0 : 0 ≤ (pc : Int) + o) (hT : ((pc : Int) + o).toNat = pT) (hF : pc + 3 = pF) (r1 : a ≠ 0 → Go p e below Rest T (mkF m pT L S)) (r2 : a = 0 → Go p e below Rest T (mkF m pF L S)) : Go p e below Rest T (mkF m pc L (.int x :: S)) :=
  g_if X C hd h0 hT hF (fun q => r1 ((hold_ne ha (by decide)).1 q)) (fun q => r2 ((hold_ne ha (by decide)).2 q))
theorem hlc_ne {x y : Int64} {a b : Int} (ha : x.toInt = a) (hb' : y.toInt = b) : (if_icmp.holds .ne (lcmpW x y) 0 = true → a ≠ b) ∧ (if_icmp.holds .ne (lcmpW x y) 0 = false → a = b) := by
  have h1 := c_lcmp x y; subst ha hb'
  have h3 := hold_ne (x := lcmpW x y) (y := 0) rfl (b := 0) (by decide)
  refine ⟨fun q => ?_, fun q => ?_⟩
  · have := h3.1 q; omega
  · have := h3.2 q; omega
theorem g_lif_ne (X : St p l e R s m args below meth c n0 T h cells slots) (C : Cx p s m meth c Z bytes maxL ret own nme) {o : Int} {x y : Int64} {a b : Int} {pT pF : Nat} (hd : decode bytes pc = .ok (.ifCond .ne o, 3)) (ha : x.toInt = a) (hb' : y.toInt = b) (h0 : 0 ≤ (pc : Int) + o) (hT : ((pc : Int) + o).toNat = pT) (hF : pc + 3 = pF) (r1 : a ≠ b → Go p e below Rest T (mkF m pT L S)) (r2 : a = b → Go p e below Rest T (mkF m pF L S)) : Go p e below Rest T (mkF m pc L (.int (lcmpW x y) :: S)) :=
  g_if X C hd h0 hT hF (fun q => r1 ((hlc_ne ha hb').1 q)) (fun q => r2 ((hlc_ne ha hb').2 q))
theorem g_nullY (X : St p l e R s m args below meth c n0 T h cells slots) (C : Cx p s m meth c Z bytes maxL ret own nme) {o : Int} {pT : Nat} (hd : decode bytes pc = .ok (.ifnull o, 3)) (h0 : 0 ≤ (pc : Int) + o) (hT : ((pc : Int) + o).toNat = pT) (r : Go p e below Rest T (mkF m pT L S)) : Go p e below Rest T (mkF m pc L (.null :: S)) := by
  obtain ⟨_, X, -, -⟩ := X; obtain ⟨hx, hby, -⟩ := C
  exact go_by (fun t k => XS.ifnullYes X.here hx rfl (pc0 := pc) rfl (hb hby hd) rfl h0 hT k) r
theorem g_nullN (X : St p l e R s m args below meth c n0 T h cells slots) (C : Cx p s m meth c Z bytes maxL ret own nme) {o : Int} {b : Addr} {pF : Nat} (hd : decode bytes pc = .ok (.ifnull o, 3)) (hF : pc + 3 = pF) (r : Go p e below Rest T (mkF m pF L S)) : Go p e below Rest T (mkF m pc L (.ref b :: S)) := by
  obtain ⟨_, X, -, -⟩ := X; obtain ⟨hx, hby, -⟩ := C; subst hF
  exact go_by (fun t k => XS.ifnullNo X.here hx rfl (hb hby hd) rfl k) r
theorem g_nonnullY (X : St p l e R s m args below meth c n0 T h cells slots) (C : Cx p s m meth c Z bytes maxL ret own nme) {o : Int} {b : Addr} {pT : Nat} (hd : decode bytes pc = .ok (.ifnonnull o, 3)) (h0 : 0 ≤ (pc : Int) + o) (hT : ((pc : Int) + o).toNat = pT) (r : Go p e below Rest T (mkF m pT L S)) : Go p e below Rest T (mkF m pc L (.ref b :: S)) := by
  obtain ⟨_, X, -, -⟩ := X; obtain ⟨hx, hby, -⟩ := C
  exact go_by (fun t k => XS.ifnonnullYes X.here hx rfl (pc0 := pc) rfl (hb hby hd) rfl h0 hT k) r
theorem g_nonnullN (X : St p l e R s m args below meth c n0 T h cells slots) (C : Cx p s m meth c Z bytes maxL ret own nme) {o : Int} {pF : Nat} (hd : decode bytes pc = .ok (.ifnonnull o, 3)) (hF : pc + 3 = pF) (r : Go p e below Rest T (mkF m pF L S)) : Go p e below Rest T (mkF m pc L (.null :: S)) := by
  obtain ⟨_, X, -, -⟩ := X; obtain ⟨hx, hby, -⟩ := C; subst hF
  exact go_by (fun t k => XS.ifnonnullNo X.here hx rfl (hb hby hd) rfl k) r
theorem g_irem (X : St p l e R s m args below meth c n0 T h cells slots) (C : Cx p s m meth c Z bytes maxL ret own nme) {x y : Int32} (hd : decode bytes pc = .ok (.irem, 1)) (hy : y ≠ 0) (hp : pc + 1 = pc') (r : Go p e below Rest T (mkF m pc' L (.int (x % y) :: S))) : Go p e below Rest T (mkF m pc L (.int y :: .int x :: S)) := by
  obtain ⟨_, X, -, -⟩ := X; obtain ⟨hx, hby, -⟩ := C; subst hp
  exact go_by (fun t k => iremM X hx rfl (hb hby hd) rfl hy k) r
theorem g_lrem (X : St p l e R s m args below meth c n0 T h cells slots) (C : Cx p s m meth c Z bytes maxL ret own nme) {x y : Int64} (hd : decode bytes pc = .ok (.lrem, 1)) (hy : y ≠ 0) (hp : pc + 1 = pc') (r : Go p e below Rest T (mkF m pc' L (.long (x % y) :: S))) : Go p e below Rest T (mkF m pc L (.long y :: .long x :: S)) := by
  obtain ⟨_, X, -, -⟩ := X; obtain ⟨hx, hby, -⟩ := C; subst hp
  rw [← lrem_mod] at r
  exact go_by (fun t k => XS.lrem X.here hx rfl (hb hby hd) rfl hy k) r
theorem g_ldcI (X : St p l e R s m args below meth c n0 T h cells slots) (C : Cx p s m meth c Z bytes maxL ret own nme) {index : Nat} {v : Int32} (w : (Jvm.Cond.constant own index v).before a0 Z = true) (hd : decode bytes pc = .ok (.ldc index, 2)) (hp : pc + 2 = pc') (r : Go p e below Rest T (mkF m pc' L (.int v :: S))) : Go p e below Rest T (mkF m pc L S) := by
  obtain ⟨_, X, -, -⟩ := X; obtain ⟨hx, hby, -, -, -, hown, -, hZ⟩ := C; subst hp
  exact go_by (X.ldcInt hx hown (mvT hZ w) (g := mkF m pc L S) rfl (hb hby hd)) r
theorem g_ldcJ (X : St p l e R s m args below meth c n0 T h cells slots) (C : Cx p s m meth c Z bytes maxL ret own nme) {index : Nat} {v : Int64} (w : (Jvm.Cond.constantLong own index v).before a0 Z = true) (hd : decode bytes pc = .ok (.ldc2_w index, 3)) (hp : pc + 3 = pc') (r : Go p e below Rest T (mkF m pc' L (.long v :: S))) : Go p e below Rest T (mkF m pc L S) := by
  obtain ⟨_, X, -, -⟩ := X; obtain ⟨hx, hby, -, -, -, hown, -, hZ⟩ := C; subst hp
  exact go_by (X.ldc2Long hx hown (mvT hZ w) (g := mkF m pc L S) rfl (hb hby hd)) r
/-- an array: its kind, its length, what each place holds -/
def Ar (Z : State) (h : Heap) (a : Addr) (ty : FieldType) (n : Nat) (fn : Nat → Value) : Prop := ∃ cl : Cell, Arr Z h a cl ty ∧ cl.slots.size = n ∧ ∀ j, j < n → cl.slots[j]? = some (fn j)
theorem Ar.lt {a : Addr} {ty : FieldType} {n : Nat} {fn : Nat → Value} (A : Ar Z h a ty n fn) : a < h.size := by obtain ⟨_, A, -⟩ := A; exact A.lt
theorem Ar.keep {a : Addr} {ty : FieldType} {n : Nat} {fn : Nat → Value} {ws : List Addr} (A : Ar Z h a ty n fn) (K : Keep h h' ws) (q : a ∉ ws) : Ar Z h' a ty n fn := by
  obtain ⟨cl, A, r⟩ := A; exact ⟨cl, ⟨K.2.1 a cl A.1 q, A.2⟩, r⟩
theorem Ar.congr {a : Addr} {ty : FieldType} {n : Nat} {fn gn : Nat → Value} (A : Ar Z h a ty n fn) (q : ∀ j, j < n → fn j = gn j) : Ar Z h a ty n gn := by
  obtain ⟨cl, A, r1, r2⟩ := A; exact ⟨cl, A, r1, fun j hj => by rw [r2 j hj, q j hj]⟩
theorem Ar.set {a : Addr} {ty : FieldType} {n i : Nat} {fn : Nat → Value} {v : Value} (A : Ar Z h a ty n fn) (hi : i < n) (W : Wr h h' a i v) : Ar Z h' a ty n (fun k => if k = i then v else fn k) := by
  obtain ⟨cl, A, r1, r2⟩ := A
  refine ⟨_, A.same W, by rw [sz_set]; exact r1, fun j hj => ?_⟩
  by_cases q : j = i
  · subst q; simp [Cell.setSlot, Array.getElem?_setIfInBounds, r1, hi]
  · have := r2 j hj; simp [Cell.setSlot, Array.getElem?_setIfInBounds, q, Ne.symm q, this]
theorem keepE (E : Ext h h') : Keep h h' [] := (Keep.refl _ _).ext E
theorem keepE' {ws : List Addr} (E : Ext h h') : Keep h h' ws := (Keep.refl _ _).ext E
theorem nneg {z : Int32} {n : Nat} (hz : z.toInt = n) : ¬ z < 0 := by
  rw [Int32.lt_iff_toInt_lt, hz]; have : (0 : Int32).toInt = 0 := by decide
  omega
theorem addn {x y : Int32} {i k : Nat} (hx : x.toInt = i) (hy : y.toInt = k) (hb : i + k < 2147483648) : (x + y).toInt = (i + k : Nat) := by
  have g1 := c_iadd x y; have g2 := rng32 (x + y); omega
theorem clamp_of {j : Int32} {i : Nat} (hi : j.toInt = i) : j.toNatClampNeg = i := by
  rw [Int32.toNatClampNeg, hi]; simp
theorem inb {j : Int32} {i n : Nat} {cl : Cell} (hi : j.toInt = i) (hlt : i < n) (hs : cl.slots.size = n) : ¬ (j < 0 ∨ cl.slots.size ≤ j.toNatClampNeg) := by
  rw [clamp_of hi, hs]
  rintro (q | q)
  · rw [Int32.lt_iff_toInt_lt, hi] at q; have : (0 : Int32).toInt = 0 := by decide
    omega
  · omega
def Ob (Z : State) (h : Heap) (a : Addr) (K : String) (NS : List (String × String)) (vs : List Value) : Prop := Exa Z h a K ∧ ∀ (i : Nat) (n d : String) (v : Value), NS[i]? = some (n, d) → vs[i]? = some v → Fld Z h a K n d v
def CF (Z : State) (a0 : Array Value) (K : String) (NS : List (String × String)) (k : Nat) : Prop := (NS.map (·.1)).Nodup ∧ (∀ x ∈ NS, Laid Z a0 K K x.1 x.2 ∧ (parseFieldDescriptor x.2).isSome = true) ∧ (Jvm.Cond.instantiable K k).before a0 Z = true
theorem Ob.lt {a : Addr} {K : String} {NS : List (String × String)} {vs : List Value} (O : Ob Z h a K NS vs) : a < h.size := O.1.lt
theorem Ob.keep {a : Addr} {K : String} {NS : List (String × String)} {vs : List Value} {ws : List Addr} (O : Ob Z h a K NS vs) (K' : Keep h h' ws) (q : a ∉ ws) : Ob Z h' a K NS vs := ⟨O.1.keep K', fun i n d v h1 h2 => (O.2 i n d v h1 h2).keep K' q⟩
theorem Ob.put {a : Addr} {K : String} {NS : List (String × String)} {vs vs' : List Value} {k i : Nat} {n d : String} {v old : Value} (O : Ob Z h a K NS vs) (F : CF Z a0 K NS k) (hN : NS[i]? = some (n, d)) (ho : vs[i]? = some old) (hvs : vs.set i v = vs') (W : Wr h h' a (Jvm.RoadKit.slotOf Z K n d) v) : Ob Z h' a K NS vs' := by
  subst hvs
  refine ⟨O.1.wr W, fun j n' d' w h1 h2 => ?_⟩
  by_cases q : j = i
  · subst q
    rw [hN] at h1; obtain ⟨rfl, rfl⟩ := Prod.mk.inj (Option.some.inj h1)
    rw [List.getElem?_set_self (by exact (List.getElem?_eq_some_iff.mp ho).1)] at h2
    obtain rfl := Option.some.inj h2
    exact (O.2 _ _ _ _ hN ho).same W
  · rw [List.getElem?_set_ne (Ne.symm q)] at h2
    have hne : n' ≠ n := by
      intro e
      have h3 : (NS.map (·.1))[j]? = some n' := by rw [List.getElem?_map, h1]; rfl
      have h4 : (NS.map (·.1))[i]? = some n := by rw [List.getElem?_map, hN]; rfl
      obtain ⟨l1, e1⟩ := List.getElem?_eq_some_iff.mp h3
      obtain ⟨l2, e2⟩ := List.getElem?_eq_some_iff.mp h4
      rcases Nat.lt_or_gt_of_ne q with u | u
      · exact (List.pairwise_iff_getElem.mp F.1) j i l1 l2 u (by rw [e1, e2, e])
      · exact (List.pairwise_iff_getElem.mp F.1) i j l2 l1 u (by rw [e1, e2, e])
    obtain ⟨p1, p2⟩ := F.2.1 _ (List.mem_of_getElem? h1)
    obtain ⟨p3, p4⟩ := F.2.1 _ (List.mem_of_getElem? hN)
    obtain ⟨t1, q1⟩ := Option.isSome_iff_exists.mp p2
    obtain ⟨t2, q2⟩ := Option.isSome_iff_exists.mp p4
    exact (O.2 _ _ _ _ h1 h2).other W (Or.inr (slot_ne p1 p3 hne q1 q2))
theorem g_getO (X : St p l e R s m args below meth c n0 T h cells slots) (C : Cx p s m meth c Z bytes maxL ret own nme) {a : Addr} {K n d host : String} {NS : List (String × String)} {vs : List Value} {i index : Nat} {v : Value} (O : Ob Z h a K NS vs) (hN : NS[i]? = some (n, d)) (hv : vs[i]? = some v) (w : (Jvm.Cond.fieldLink own index K n d).before a0 Z = true ∨ (Jvm.Cond.fieldLinkNest own index K n d host).before a0 Z = true) (hd : decode bytes pc = .ok (.getfield index, 3)) (hp : pc + 3 = pc') (r : ∀ T', St p l e R s m args below meth c n0 T' h cells slots → Go p e below Rest T' (mkF m pc' L (v :: S))) : Go p e below Rest T (mkF m pc L (.ref a :: S)) := by
  obtain ⟨locs, X, N, eT⟩ := X; obtain ⟨hx, hby, -, -, -, hown, -, hZ⟩ := C; subst hp
  obtain ⟨T', X', e', st⟩ := getF X hx hZ hown w Via.refl eT (O.2 _ _ _ _ hN hv) (g := mkF m pc L (.ref a :: S)) rfl rfl (hb hby hd)
  exact go_by st (r T' ⟨locs, X', N, e'⟩)
theorem g_putO (X : St p l e R s m args below meth c n0 T h cells slots) (C : Cx p s m meth c Z bytes maxL ret own nme) {a : Addr} {K n d host : String} {NS : List (String × String)} {vs vs' : List Value} {i k index : Nat} {v old : Value} {ty : FieldType} (O : Ob Z h a K NS vs) (F : CF Z a0 K NS k) (hN : NS[i]? = some (n, d)) (ho : vs[i]? = some old) (hvs : vs.set i v = vs') (ga : n0 ≤ a) (w : (Jvm.Cond.fieldLink own index K n d).before a0 Z = true ∨ (Jvm.Cond.fieldLinkNest own index K n d host).before a0 Z = true) (Ly : (Jvm.Cond.lays K K n d).before a0 Z = true ∨ ((Jvm.Cond.laysFinal K K n d).before a0 Z = true ∧ own = K ∧ nme = "<init>")) (hty : parseFieldDescriptor d = some ty) (hn : narrow ty v = v) (hf : fits ty v = true) (hd : decode bytes pc = .ok (.putfield index, 3)) (hp : pc + 3 = pc') (r : ∀ T' h', St p l e R s m args below meth c n0 T' h' cells slots → Ob Z h' a K NS vs' → Keep h h' [a] → Go p e below Rest T' (mkF m pc' L S)) : Go p e below Rest T (mkF m pc L (v :: .ref a :: S)) := by
  obtain ⟨locs, X, N, eT⟩ := X; obtain ⟨hx, hby, -, -, -, hown, hnm, hZ⟩ := C; subst hp
  obtain ⟨T', h', X', e', W, st⟩ := putF X hx hZ hown w Via.refl eT (O.2 _ _ _ _ hN ho) O.1 (Ly.imp id fun q => ⟨q.1, q.2.1, by rw [hnm]; exact q.2.2⟩) F.2.2 hty hn hf (g := mkF m pc L (v :: .ref a :: S)) rfl rfl (hb hby hd)
  exact go_by st (r T' h' ⟨_, X', Fr.snoc X' N ga, e'⟩ (O.put F hN ho hvs W) (Keep.of_wr W))
theorem g_putN (X : St p l e R s m args below meth c n0 T h cells slots) (C : Cx p s m meth c Z bytes maxL ret own nme) {a : Addr} {K n d : String} {NS : List (String × String)} {vs vs' : List Value} {i k index : Nat} {v v' old : Value} {ty : FieldType} (O : Ob Z h a K NS vs) (F : CF Z a0 K NS k) (hN : NS[i]? = some (n, d)) (ho : vs[i]? = some old) (hvs : vs.set i v' = vs') (ga : n0 ≤ a) (w : (Jvm.Cond.fieldLink own index K n d).before a0 Z = true) (Ly : (Jvm.Cond.lays K K n d).before a0 Z = true ∨ ((Jvm.Cond.laysFinal K K n d).before a0 Z = true ∧ own = K ∧ nme = "<init>")) (hty : parseFieldDescriptor d = some ty) (hn : narrow ty v = v') (hf : fits ty v' = true) (hd : decode bytes pc = .ok (.putfield index, 3)) (hp : pc + 3 = pc') (r : ∀ T' h', St p l e R s m args below meth c n0 T' h' cells slots → Ob Z h' a K NS vs' → Keep h h' [a] → Go p e below Rest T' (mkF m pc' L S)) : Go p e below Rest T (mkF m pc L (v :: .ref a :: S)) := by
  obtain ⟨locs, X, N, eT⟩ := X; obtain ⟨hx, hby, -, -, -, hown, hnm, hZ⟩ := C; subst hp
  obtain ⟨T', h', X', e', W, st⟩ := putFN X hx hZ hown w Via.refl eT (O.2 _ _ _ _ hN ho) O.1 (Ly.imp id fun q => ⟨q.1, q.2.1, by rw [hnm]; exact q.2.2⟩) F.2.2 hty hn hf (g := mkF m pc L (v :: .ref a :: S)) rfl rfl (hb hby hd)
  exact go_by st (r T' h' ⟨_, X', Fr.snoc X' N ga, e'⟩ (O.put F hN ho hvs W) (Keep.of_wr W))
def dflt (d : String) : Value := match parseFieldDescriptor d with | some ty => defaultValue ty | none => .null
theorem g_newO (X : St p l e R s m args below meth c n0 T h cells slots) (C : Cx p s m meth c Z bytes maxL ret own nme) {K : String} {NS : List (String × String)} {vs : List Value} {index k : Nat} (w : (Jvm.Cond.classLink own index K).before a0 Z = true) (F : CF Z a0 K NS k) (wz : (Jvm.Cond.initialized K).before a0 Z = true) (hvs : NS.map (fun x => dflt x.2) = vs) (hc : cells + 1 ≤ R.cells) (hl : slots + k ≤ R.slots) (hd : decode bytes pc = .ok (.new index, 3)) (hp : pc + 3 = pc') (r : ∀ T' h' b, b = h.size → St p l e R s m args below meth c n0 T' h' (cells + 1) (slots + k) → Ob Z h' b K NS vs → Keep h h' [] → Go p e below Rest T' (mkF m pc' L (.ref b :: S))) : Go p e below Rest T (mkF m pc L S) := by
  obtain ⟨locs, X, N, eT⟩ := X; obtain ⟨hx, hby, -, -, -, hown, hnm, hZ⟩ := C; subst hp hvs
  obtain ⟨T', h', X', e', E, A, D, -, st⟩ := newO X hx hZ hown w F.2.2 wz eT (g := mkF m pc L S) rfl (hb hby hd) hc hl
  refine go_by st (r T' h' _ rfl ⟨_, X', N, e'⟩ ⟨A, fun i n d v h1 h2 => ?_⟩ (keepE E))
  obtain ⟨p1, p2⟩ := F.2.1 _ (List.mem_of_getElem? h1)
  obtain ⟨t1, q1⟩ := Option.isSome_iff_exists.mp p2
  rw [List.getElem?_map, h1] at h2
  obtain rfl := Option.some.inj h2
  have := D p1 q1
  simp only [dflt, q1]
  exact this
theorem g_newarr (X : St p l e R s m args below meth c n0 T h cells slots) (C : Cx p s m meth c Z bytes maxL ret own nme) {aty : ArrayType} {z : Int32} {n cap : Nat} (w : (Jvm.Cond.arrayClass (newarray.typeOf aty)).before a0 Z = true) (hz : z.toInt = n) (hcap : n ≤ cap) (hcb : cap * 8 ≤ 536870912) (hc : cells + 1 ≤ R.cells) (hl : slots + cap ≤ R.slots) (hd : decode bytes pc = .ok (.newarray aty, 2)) (hp : pc + 2 = pc') (r : ∀ T' h' b, b = h.size → St p l e R s m args below meth c n0 T' h' (cells + 1) (slots + cap) → Ar Z h' b (newarray.typeOf aty) n (fun _ => defaultValue (newarray.typeOf aty)) → Keep h h' [] → Go p e below Rest T' (mkF m pc' L (.ref b :: S))) : Go p e below Rest T (mkF m pc L (.int z :: S)) := by
  obtain ⟨locs, X, N, eT⟩ := X; obtain ⟨hx, hby, -, -, -, hown, hnm, hZ⟩ := C; subst hp
  have hneg : ¬ z < 0 := nneg hz
  obtain ⟨T', h', cA, X', e', E, A, st⟩ := newP X hx hZ w eT (g := mkF m pc L (.int z :: S)) rfl (hb hby hd) rfl hneg (cap := cap) (by rw [clamp_of hz]; exact hcap) hcb hc hl
  refine go_by st (r T' h' _ rfl ⟨_, X', N, e'⟩ ⟨_, A, by rw [sz_new, clamp_of hz], fun j hj => ?_⟩ (keepE E))
  simp [newA, clamp_of hz, hj]
def ArR (Z : State) (h : Heap) (a : Addr) (K : String) (n : Nat) (fn : Nat → Value) : Prop := ∃ cl : Cell, Arr Z h a cl (.object K) ∧ Ovr Z cl.cls K ∧ cl.slots.size = n ∧ ∀ j, j < n → cl.slots[j]? = some (fn j)
theorem ArR.lt {a : Addr} {K : String} {n : Nat} {fn : Nat → Value} (A : ArR Z h a K n fn) : a < h.size := by obtain ⟨_, A, -⟩ := A; exact A.lt
theorem ArR.keep {a : Addr} {K : String} {n : Nat} {fn : Nat → Value} {ws : List Addr} (A : ArR Z h a K n fn) (K' : Keep h h' ws) (q : a ∉ ws) : ArR Z h' a K n fn := by
  obtain ⟨cl, A, r⟩ := A; exact ⟨cl, ⟨K'.2.1 a cl A.1 q, A.2⟩, r⟩
theorem g_newR (X : St p l e R s m args below meth c n0 T h cells slots) (C : Cx p s m meth c Z bytes maxL ret own nme) {K : String} {index : Nat} {z : Int32} {n cap : Nat} (w1 : (Jvm.Cond.classLink own index K).before a0 Z = true) (w2 : (Jvm.Cond.arrayOver (.object K)).before a0 Z = true) (hz : z.toInt = n) (hcap : n ≤ cap) (hcb : cap * 8 ≤ 536870912) (hc : cells + 1 ≤ R.cells) (hl : slots + cap ≤ R.slots) (hd : decode bytes pc = .ok (.anewarray index, 3)) (hp : pc + 3 = pc') (r : ∀ T' h' b, b = h.size → St p l e R s m args below meth c n0 T' h' (cells + 1) (slots + cap) → ArR Z h' b K n (fun _ => .null) → Keep h h' [] → Go p e below Rest T' (mkF m pc' L (.ref b :: S))) : Go p e below Rest T (mkF m pc L (.int z :: S)) := by
  obtain ⟨locs, X, N, eT⟩ := X; obtain ⟨hx, hby, -, -, -, hown, hnm, hZ⟩ := C; subst hp
  have hneg : ¬ z < 0 := nneg hz
  obtain ⟨T', h', cA, X', e', E, A, Ov, st⟩ := newR X hx hZ hown w1 w2 eT (g := mkF m pc L (.int z :: S)) rfl (hb hby hd) rfl hneg (cap := cap) (by rw [clamp_of hz]; exact hcap) hcb hc hl
  refine go_by st (r T' h' _ rfl ⟨_, X', N, e'⟩ ⟨_, A, Ov, by rw [sz_new, clamp_of hz], fun j hj => ?_⟩ (keepE E))
  simp [newA, clamp_of hz, hj, defaultValue]
theorem g_arrlen (X : St p l e R s m args below meth c n0 T h cells slots) (C : Cx p s m meth c Z bytes maxL ret own nme) {a : Addr} {ty : FieldType} {n : Nat} {fn : Nat → Value} {z : Int32} (A : Ar Z h a ty n fn) (hz : n.toInt32 = z) (hd : decode bytes pc = .ok (.arraylength, 1)) (hp : pc + 1 = pc') (r : Go p e below Rest T (mkF m pc' L (.int z :: S))) : Go p e below Rest T (mkF m pc L (.ref a :: S)) := by
  obtain ⟨locs, X, N, eT⟩ := X; obtain ⟨hx, hby, -, -, -, hown, hnm, hZ⟩ := C; subst hp hz
  obtain ⟨cl, A, r1, r2⟩ := A; subst r1
  exact go_by (fun t k => X.arraylength hx (by rw [eT]; exact A.1) (State.isArrayOf_alike hZ.alike A.2.1) (g := mkF m pc L (.ref a :: S)) rfl rfl (hb hby hd) t k) r
theorem g_iaload (X : St p l e R s m args below meth c n0 T h cells slots) (C : Cx p s m meth c Z bytes maxL ret own nme) {a : Addr} {n i : Nat} {fn : Nat → Value} {j : Int32} {v : Value} (A : Ar Z h a .int n fn) (hi : j.toInt = i) (hlt : i < n) (hv : fn i = v) (hd : decode bytes pc = .ok (.iaload, 1)) (hp : pc + 1 = pc') (r : Go p e below Rest T (mkF m pc' L (v :: S))) : Go p e below Rest T (mkF m pc L (.int j :: .ref a :: S)) := by
  obtain ⟨locs, X, N, eT⟩ := X; obtain ⟨hx, hby, -, -, -, hown, hnm, hZ⟩ := C; subst hp hv
  obtain ⟨cl, A, r1, r2⟩ := A
  exact go_by (fun t k => X.iaload hx (j := j) (by rw [eT]; exact A.1) (State.isArrayOf_alike hZ.alike A.2.1) A.2.2 (inb hi hlt r1) (by rw [clamp_of hi]; exact r2 i hlt) (g := mkF m pc L (.int j :: .ref a :: S)) rfl rfl (hb hby hd) t k) r
theorem g_laload (X : St p l e R s m args below meth c n0 T h cells slots) (C : Cx p s m meth c Z bytes maxL ret own nme) {a : Addr} {n i : Nat} {fn : Nat → Value} {j : Int32} {v : Value} (A : Ar Z h a .long n fn) (hi : j.toInt = i) (hlt : i < n) (hv : fn i = v) (hd : decode bytes pc = .ok (.laload, 1)) (hp : pc + 1 = pc') (r : Go p e below Rest T (mkF m pc' L (v :: S))) : Go p e below Rest T (mkF m pc L (.int j :: .ref a :: S)) := by
  obtain ⟨locs, X, N, eT⟩ := X; obtain ⟨hx, hby, -, -, -, hown, hnm, hZ⟩ := C; subst hp hv
  obtain ⟨cl, A, r1, r2⟩ := A
  exact go_by (fun t k => X.laload hx (j := j) (by rw [eT]; exact A.1) (State.isArrayOf_alike hZ.alike A.2.1) A.2.2 (inb hi hlt r1) (by rw [clamp_of hi]; exact r2 i hlt) (g := mkF m pc L (.int j :: .ref a :: S)) rfl rfl (hb hby hd) t k) r
theorem g_baloadB (X : St p l e R s m args below meth c n0 T h cells slots) (C : Cx p s m meth c Z bytes maxL ret own nme) {a : Addr} {n i : Nat} {fn : Nat → Value} {j : Int32} {v : Value} (A : Ar Z h a .byte n fn) (hi : j.toInt = i) (hlt : i < n) (hv : fn i = v) (hd : decode bytes pc = .ok (.baload, 1)) (hp : pc + 1 = pc') (r : Go p e below Rest T (mkF m pc' L (v :: S))) : Go p e below Rest T (mkF m pc L (.int j :: .ref a :: S)) := by
  obtain ⟨locs, X, N, eT⟩ := X; obtain ⟨hx, hby, -, -, -, hown, hnm, hZ⟩ := C; subst hp hv
  obtain ⟨cl, A, r1, r2⟩ := A
  exact go_by (fun t k => X.baloadBytes hx (j := j) (by rw [eT]; exact A.1) (State.isArrayOf_alike hZ.alike A.2.1) A.2.2 (inb hi hlt r1) (by rw [clamp_of hi]; exact r2 i hlt) (g := mkF m pc L (.int j :: .ref a :: S)) rfl rfl (hb hby hd) t k) r
theorem g_baloadZ (X : St p l e R s m args below meth c n0 T h cells slots) (C : Cx p s m meth c Z bytes maxL ret own nme) {a : Addr} {n i : Nat} {fn : Nat → Value} {j : Int32} {v : Value} (A : Ar Z h a .boolean n fn) (hi : j.toInt = i) (hlt : i < n) (hv : fn i = v) (hd : decode bytes pc = .ok (.baload, 1)) (hp : pc + 1 = pc') (r : Go p e below Rest T (mkF m pc' L (v :: S))) : Go p e below Rest T (mkF m pc L (.int j :: .ref a :: S)) := by
  obtain ⟨locs, X, N, eT⟩ := X; obtain ⟨hx, hby, -, -, -, hown, hnm, hZ⟩ := C; subst hp hv
  obtain ⟨cl, A, r1, r2⟩ := A
  exact go_by (fun t k => X.baloadBooleans hx (j := j) (by rw [eT]; exact A.1) (State.isArrayOf_alike hZ.alike A.2.1) A.2.2 (inb hi hlt r1) (by rw [clamp_of hi]; exact r2 i hlt) (g := mkF m pc L (.int j :: .ref a :: S)) rfl rfl (hb hby hd) t k) r
theorem g_aaload (X : St p l e R s m args below meth c n0 T h cells slots) (C : Cx p s m meth c Z bytes maxL ret own nme) {a : Addr} {n i : Nat} {K : String} {fn : Nat → Value} {j : Int32} {v : Value} (A : ArR Z h a K n fn) (hi : j.toInt = i) (hlt : i < n) (hv : fn i = v) (hd : decode bytes pc = .ok (.aaload, 1)) (hp : pc + 1 = pc') (r : Go p e below Rest T (mkF m pc' L (v :: S))) : Go p e below Rest T (mkF m pc L (.int j :: .ref a :: S)) := by
  obtain ⟨locs, X, N, eT⟩ := X; obtain ⟨hx, hby, -, -, -, hown, hnm, hZ⟩ := C; subst hp hv
  obtain ⟨cl, A, -, r1, r2⟩ := A
  exact go_by (fun t k => X.aaload hx (j := j) (by rw [eT]; exact A.1) (State.isArrayOf_alike hZ.alike A.2.1) rfl A.2.2 (inb hi hlt r1) (by rw [clamp_of hi]; exact r2 i hlt) (g := mkF m pc L (.int j :: .ref a :: S)) rfl rfl (hb hby hd) t k) r
theorem g_iastore (X : St p l e R s m args below meth c n0 T h cells slots) (C : Cx p s m meth c Z bytes maxL ret own nme) {a : Addr} {n i : Nat} {fn : Nat → Int32} {j : Int32} {x : Int32} (A : Ar Z h a .int n (fun k => .int (fn k))) (hi : j.toInt = i) (hlt : i < n) (ga : n0 ≤ a) (hd : decode bytes pc = .ok (.iastore, 1)) (hp : pc + 1 = pc') (r : ∀ T' h', St p l e R s m args below meth c n0 T' h' cells slots → Ar Z h' a .int n (fun k => .int (if k = i then x else fn k)) → Keep h h' [a] → Go p e below Rest T' (mkF m pc' L S)) : Go p e below Rest T (mkF m pc L (.int x :: .int j :: .ref a :: S)) := by
  obtain ⟨locs, X, N, eT⟩ := X; obtain ⟨hx, hby, -, -, -, hown, hnm, hZ⟩ := C; subst hp
  have A0 := A
  obtain ⟨cl, A, r1, r2⟩ := A
  obtain ⟨T', h', X', e', W, st⟩ := stI X hx hZ eT A (j := j) (inb hi hlt r1) (g := mkF m pc L (.int x :: .int j :: .ref a :: S)) rfl rfl (hb hby hd)
  rw [clamp_of hi] at W
  exact go_by st (r T' h' ⟨_, X', Fr.snoc X' N ga, e'⟩ ((A0.set hlt W).congr (fun k hk => by (try dsimp only); split <;> rfl)) (Keep.of_wr W))
theorem g_lastore (X : St p l e R s m args below meth c n0 T h cells slots) (C : Cx p s m meth c Z bytes maxL ret own nme) {a : Addr} {n i : Nat} {fn : Nat → Int64} {j : Int32} {x : Int64} (A : Ar Z h a .long n (fun k => .long (fn k))) (hi : j.toInt = i) (hlt : i < n) (ga : n0 ≤ a) (hd : decode bytes pc = .ok (.lastore, 1)) (hp : pc + 1 = pc') (r : ∀ T' h', St p l e R s m args below meth c n0 T' h' cells slots → Ar Z h' a .long n (fun k => .long (if k = i then x else fn k)) → Keep h h' [a] → Go p e below Rest T' (mkF m pc' L S)) : Go p e below Rest T (mkF m pc L (.long x :: .int j :: .ref a :: S)) := by
  obtain ⟨locs, X, N, eT⟩ := X; obtain ⟨hx, hby, -, -, -, hown, hnm, hZ⟩ := C; subst hp
  have A0 := A
  obtain ⟨cl, A, r1, r2⟩ := A
  obtain ⟨T', h', X', e', W, st⟩ := stJ X hx hZ eT A (j := j) (inb hi hlt r1) (g := mkF m pc L (.long x :: .int j :: .ref a :: S)) rfl rfl (hb hby hd)
  rw [clamp_of hi] at W
  exact go_by st (r T' h' ⟨_, X', Fr.snoc X' N ga, e'⟩ ((A0.set hlt W).congr (fun k hk => by (try dsimp only); split <;> rfl)) (Keep.of_wr W))
theorem g_bastoreB (X : St p l e R s m args below meth c n0 T h cells slots) (C : Cx p s m meth c Z bytes maxL ret own nme) {a : Addr} {n i : Nat} {fn : Nat → Int32} {j : Int32} {x : Int32} (A : Ar Z h a .byte n (fun k => .int (fn k))) (hi : j.toInt = i) (hlt : i < n) (ga : n0 ≤ a) (hd : decode bytes pc = .ok (.bastore, 1)) (hp : pc + 1 = pc') (r : ∀ T' h', St p l e R s m args below meth c n0 T' h' cells slots → Ar Z h' a .byte n (fun k => .int (if k = i then (nar .byte x) else fn k)) → Keep h h' [a] → Go p e below Rest T' (mkF m pc' L S)) : Go p e below Rest T (mkF m pc L (.int x :: .int j :: .ref a :: S)) := by
  obtain ⟨locs, X, N, eT⟩ := X; obtain ⟨hx, hby, -, -, -, hown, hnm, hZ⟩ := C; subst hp
  have A0 := A
  obtain ⟨cl, A, r1, r2⟩ := A
  obtain ⟨T', h', X', e', W, st⟩ := stB X hx hZ eT A (j := j) (inb hi hlt r1) (g := mkF m pc L (.int x :: .int j :: .ref a :: S)) rfl rfl (hb hby hd)
  rw [clamp_of hi] at W
  exact go_by st (r T' h' ⟨_, X', Fr.snoc X' N ga, e'⟩ ((A0.set hlt W).congr (fun k hk => by (try dsimp only); split <;> rfl)) (Keep.of_wr W))
theorem g_bastoreZ (X : St p l e R s m args below meth c n0 T h cells slots) (C : Cx p s m meth c Z bytes maxL ret own nme) {a : Addr} {n i : Nat} {fn : Nat → Int32} {j : Int32} {x : Int32} (A : Ar Z h a .boolean n (fun k => .int (fn k))) (hi : j.toInt = i) (hlt : i < n) (ga : n0 ≤ a) (hd : decode bytes pc = .ok (.bastore, 1)) (hp : pc + 1 = pc') (r : ∀ T' h', St p l e R s m args below meth c n0 T' h' cells slots → Ar Z h' a .boolean n (fun k => .int (if k = i then (nar .boolean x) else fn k)) → Keep h h' [a] → Go p e below Rest T' (mkF m pc' L S)) : Go p e below Rest T (mkF m pc L (.int x :: .int j :: .ref a :: S)) := by
  obtain ⟨locs, X, N, eT⟩ := X; obtain ⟨hx, hby, -, -, -, hown, hnm, hZ⟩ := C; subst hp
  have A0 := A
  obtain ⟨cl, A, r1, r2⟩ := A
  obtain ⟨T', h', X', e', W, st⟩ := stZ X hx hZ eT A (j := j) (inb hi hlt r1) (g := mkF m pc L (.int x :: .int j :: .ref a :: S)) rfl rfl (hb hby hd)
  rw [clamp_of hi] at W
  exact go_by st (r T' h' ⟨_, X', Fr.snoc X' N ga, e'⟩ ((A0.set hlt W).congr (fun k hk => by (try dsimp only); split <;> rfl)) (Keep.of_wr W))
theorem g_initO (X : St p l e R s m args below meth c n0 T h cells slots) (C : Cx p s m meth c Z bytes maxL ret own nme) {index : Nat} {a : Addr} {W : Nat} (w1 : (Jvm.Cond.methodLink own index Lib.objectInit).before a0 Z = true) (w2 : (Jvm.Cond.instanceMethod Lib.objectInit).before a0 Z = true) (w3 : (Jvm.Cond.code Lib.objectInit ⟨#[0xb1]⟩ 1 none).before a0 Z = true) (hsz : L.size = maxL) (hW : (S.map fun v => v.category).sum = W) (hf : 1 ≤ R.frames) (hl : W + 12 ≤ R.locals) (hd : decode bytes pc = .ok (.invokespecial index, 3)) (hp : pc + 3 = pc') (r : ∀ T', St p l e R s m args below meth c n0 T' h cells slots → Go p e below Rest T' (mkF m pc' L S)) : Go p e below Rest T (mkF m pc L (.ref a :: S)) := by
  obtain ⟨locs, X, N, eT⟩ := X; obtain ⟨hx, hby, hml, -, -, hown, hnm, hZ⟩ := C; subst hp
  obtain ⟨T', X', e', st⟩ := initO X hx hZ hown w1 w2 w3 eT (g := mkF m pc L (.ref a :: S)) rfl (by rw [hml]; exact hsz) rfl (hb hby hd) hf (W := W) (by show 2 * 0 + _ ≤ _; omega) hl
  exact go_by st (r T' ⟨locs, X', N, e'⟩)
theorem g_static (X : St p l e R s m args below meth c n0 T h cells slots) (C : Cx p s m meth c Z bytes maxL ret own nme) {y : MethodName} {bytes' : ByteArray} {maxL' : Nat} {ret' : Option FieldType} {rm : Room} {as : Array Value} {Q : Option Value → Heap → Prop} {index : Nat} {W : Nat} {argsL rest : List Value} {ps : List FieldType} {rt : Option FieldType} (hM : Ctr l y bytes' maxL' ret' rm Z n0 as h Q []) (w1 : (Jvm.Cond.methodLink own index y).before a0 Z = true) (w2 : (Jvm.Cond.static y).before a0 Z = true) (w3 : (Jvm.Cond.initialized y.cls).before a0 Z = true) (w4 : (Jvm.Cond.code y bytes' maxL' ret').before a0 Z = true) (hy : y.cls ≠ "java/lang/invoke/MethodHandle" ∧ y.cls ≠ "java/lang/invoke/VarHandle") (pd : parseMethodDescriptor y.desc = some ⟨ps, rt⟩) (hal : argsL.length = ps.length) (has : argsL.toArray = as) (hs : S = argsL.reverse ++ rest) (hsz : L.size = maxL) (hW : (rest.map fun v => v.category).sum = W) (hf : rm.frames + 1 ≤ R.frames) (hl : W + (maxL' + 11) + rm.locals ≤ R.locals) (hc : cells + rm.cells ≤ R.cells) (hsl : slots + rm.slots ≤ R.slots) (hd : decode bytes pc = .ok (.invokestatic index, 3)) (hp : pc + 3 = pc') (r : ∀ v T' h', Q v h' → St p l e R s m args below meth c n0 T' h' (cells + rm.cells) (slots + rm.slots) → Go p e below Rest T' (mkF m pc' L (v.toList ++ rest))) : Go p e below Rest T (mkF m pc L S) := by
  obtain ⟨locs, X, N, eT⟩ := X; obtain ⟨hx, hby, hml, -, -, hown, hnm, hZ⟩ := C; subst hp
  obtain ⟨v, _, ⟨T', L1, k1, n1⟩, -, X', ⟨Lc, ⟨hQ, hN⟩, l1, y1, z1⟩, st⟩ := Jvm.LawKit.callS X hx (y := y) hown (mvT hZ w1) (mvT hZ w2) (mvT hZ w3) (mvT hZ w4) hy (backOf (W := W) (Q := fun v h L => Q v h ∧ Fr n0 L) hM hZ w4 w3 hf hl) (g := mkF m pc L S) rfl (by rw [hml]; exact hsz) (argsL := argsL) (rest := rest) (lenOf pd hal) hs (by show 2 * 0 + _ ≤ _; omega) (hb hby hd) (fun _ _ => ⟨has, eT, hc, hsl⟩)
  dsimp only [Pt.U, Pt.locs, Pt.cells, Pt.slots] at X' l1 y1 z1 st hQ
  subst l1 y1 z1
  exact go_by st (r v T' _ hQ ⟨_, X', Fr.app N hN, rfl⟩)
theorem g_special (X : St p l e R s m args below meth c n0 T h cells slots) (C : Cx p s m meth c Z bytes maxL ret own nme) {y : MethodName} {bytes' : ByteArray} {maxL' : Nat} {ret' : Option FieldType} {rm : Room} {as : Array Value} {Q : Option Value → Heap → Prop} {index : Nat} {W : Nat} {argsL rest : List Value} {ps : List FieldType} {rt : Option FieldType} (hM : Ctr l y bytes' maxL' ret' rm Z n0 as h Q []) {a : Addr} (hy1 : y.name = "<init>") (hret : ret' = none) (w1 : (Jvm.Cond.methodLink own index y).before a0 Z = true) (w2 : (Jvm.Cond.instanceMethod y).before a0 Z = true) (w3 : (Jvm.Cond.initialized y.cls).before a0 Z = true) (w4 : (Jvm.Cond.code y bytes' maxL' ret').before a0 Z = true) (hy : y.cls ≠ "java/lang/invoke/MethodHandle" ∧ y.cls ≠ "java/lang/invoke/VarHandle") (pd : parseMethodDescriptor y.desc = some ⟨ps, rt⟩) (hal : argsL.length = ps.length) (has : (.ref a :: argsL).toArray = as) (hs : S = argsL.reverse ++ .ref a :: rest) (hsz : L.size = maxL) (hW : (rest.map fun v => v.category).sum = W) (hf : rm.frames + 1 ≤ R.frames) (hl : W + (maxL' + 11) + rm.locals ≤ R.locals) (hc : cells + rm.cells ≤ R.cells) (hsl : slots + rm.slots ≤ R.slots) (hd : decode bytes pc = .ok (.invokespecial index, 3)) (hp : pc + 3 = pc') (r : ∀ v T' h', Q v h' → St p l e R s m args below meth c n0 T' h' (cells + rm.cells) (slots + rm.slots) → Go p e below Rest T' (mkF m pc' L (v.toList ++ rest))) : Go p e below Rest T (mkF m pc L S) := by
  obtain ⟨locs, X, N, eT⟩ := X; obtain ⟨hx, hby, hml, -, -, hown, hnm, hZ⟩ := C; subst hp hret
  obtain ⟨v, _, ⟨T', L1, k1, n1⟩, -, X', ⟨Lc, ⟨hQ, hN⟩, l1, y1, z1⟩, st⟩ := X.specialBack hx (y := y) hy1 hown (mvT hZ w1) (mvT hZ w2) (mvT hZ w4) hy (backOf (W := W) (Q := fun v h L => Q v h ∧ Fr n0 L) hM hZ w4 w3 hf hl) (g := mkF m pc L S) rfl (by rw [hml]; exact hsz) (Steps.refl _) (a := a) (argsL := argsL) (rest := rest) (lenOf pd hal) hs (by show 2 * 0 + _ ≤ _; omega) (hb hby hd) (fun _ _ => ⟨has, eT, hc, hsl⟩)
  dsimp only [Pt.U, Pt.locs, Pt.cells, Pt.slots] at X' l1 y1 z1 st hQ
  subst l1 y1 z1
  exact go_tr st (r v T' _ hQ ⟨_, X', Fr.app N hN, rfl⟩)
theorem g_virtual (X : St p l e R s m args below meth c n0 T h cells slots) (C : Cx p s m meth c Z bytes maxL ret own nme) {y : MethodName} {bytes' : ByteArray} {maxL' : Nat} {ret' : Option FieldType} {rm : Room} {as : Array Value} {Q : Option Value → Heap → Prop} {index : Nat} {W : Nat} {argsL rest : List Value} {ps : List FieldType} {rt : Option FieldType} (hM : Ctr l y bytes' maxL' ret' rm Z n0 as h Q []) {a : Addr} (Ex : Exa Z h a y.cls) (w1 : (Jvm.Cond.methodLink own index y).before a0 Z = true) (w2 : (Jvm.Cond.declares y).before a0 Z = true) (ws : (Jvm.Cond.selects y.cls y y).before a0 Z = true) (wi : (Jvm.Cond.instanceMethod y).before a0 Z = true) (w3 : (Jvm.Cond.initialized y.cls).before a0 Z = true) (w4 : (Jvm.Cond.code y bytes' maxL' ret').before a0 Z = true) (hy : y.cls ≠ "java/lang/invoke/MethodHandle" ∧ y.cls ≠ "java/lang/invoke/VarHandle") (pd : parseMethodDescriptor y.desc = some ⟨ps, rt⟩) (hal : argsL.length = ps.length) (has : (.ref a :: argsL).toArray = as) (hs : S = argsL.reverse ++ .ref a :: rest) (hsz : L.size = maxL) (hW : (rest.map fun v => v.category).sum = W) (hf : rm.frames + 1 ≤ R.frames) (hl : W + (maxL' + 11) + rm.locals ≤ R.locals) (hc : cells + rm.cells ≤ R.cells) (hsl : slots + rm.slots ≤ R.slots) (hd : decode bytes pc = .ok (.invokevirtual index, 3)) (hp : pc + 3 = pc') (r : ∀ v T' h', Q v h' → St p l e R s m args below meth c n0 T' h' (cells + rm.cells) (slots + rm.slots) → Go p e below Rest T' (mkF m pc' L (v.toList ++ rest))) : Go p e below Rest T (mkF m pc L S) := by
  obtain ⟨locs, X, N, eT⟩ := X; obtain ⟨hx, hby, hml, -, -, hown, hnm, hZ⟩ := C; subst hp
  obtain ⟨cq, kq, qa, qb, qc⟩ := isOf hZ eT Ex
  obtain ⟨v, _, ⟨T', L1, k1, n1⟩, -, X', ⟨Lc, ⟨hQ, hN⟩, l1, y1, z1⟩, st⟩ := X.virtualBack hx (y := y) (z := y) hown (mvT hZ w1) (mvT hZ w2) (notFace_of_selects (args := #[]) (mvT hZ ws)) (mvT hZ ws) (mvT hZ wi) hy (backOf (W := W) (Q := fun v h L => Q v h ∧ Fr n0 L) hM hZ w4 w3 hf hl) qa qc (g := mkF m pc L S) rfl (by rw [hml]; exact hsz) (Steps.refl _) (argsL := argsL) (rest := rest) (lenOf pd hal) hs (by show 2 * 0 + _ ≤ _; omega) (hb hby hd) (fun _ _ => ⟨has, eT, hc, hsl⟩)
  dsimp only [Pt.U, Pt.locs, Pt.cells, Pt.slots] at X' l1 y1 z1 st hQ
  subst l1 y1 z1
  exact go_tr st (r v T' _ hQ ⟨_, X', Fr.app N hN, rfl⟩)
theorem g_retI {z : Int32} (X : St p l e R s m args below meth c n0 T h cells slots) (C : Cx p s m meth c Z bytes maxL (some .int) own nme) {Q : Option Value → Heap → Prop} {k n : Nat} (hd : decode bytes pc = .ok (.ireturn, 1)) (hQ : Q (some (.int z)) h) (hk : cells ≤ k) (hn : slots ≤ n) : Go p e below (Rs s below n0 Q k n) T (mkF m pc L (.int z :: S)) := by
  obtain ⟨locs, X, N, eT⟩ := X; obtain ⟨hx, hby, -, hret, hlk, -⟩ := C
  obtain ⟨fs, hr, hrun, hended, hW, hsame⟩ := X.leave (v := (some (.int z))) (fun q => by first | rfl | (rw [hret] at q; cases q)) hlk
  refine ⟨_, _, ?_, hrun, hended, _, _, rfl, ⟨?_, N⟩, ⟨_, rfl⟩, hW, hsame.mono hk hn⟩
  · exact retOut X hx hret rfl (Or.inl ⟨rfl, Or.inl rfl, z, rfl⟩) (hb hby hd) hr
  · show Q _ T.heap; rw [eT]; exact hQ
theorem g_retJ {z : Int64} (X : St p l e R s m args below meth c n0 T h cells slots) (C : Cx p s m meth c Z bytes maxL (some .long) own nme) {Q : Option Value → Heap → Prop} {k n : Nat} (hd : decode bytes pc = .ok (.lreturn, 1)) (hQ : Q (some (.long z)) h) (hk : cells ≤ k) (hn : slots ≤ n) : Go p e below (Rs s below n0 Q k n) T (mkF m pc L (.long z :: S)) := by
  obtain ⟨locs, X, N, eT⟩ := X; obtain ⟨hx, hby, -, hret, hlk, -⟩ := C
  obtain ⟨fs, hr, hrun, hended, hW, hsame⟩ := X.leave (v := (some (.long z))) (fun q => by first | rfl | (rw [hret] at q; cases q)) hlk
  refine ⟨_, _, ?_, hrun, hended, _, _, rfl, ⟨?_, N⟩, ⟨_, rfl⟩, hW, hsame.mono hk hn⟩
  · exact retOut X hx hret rfl (Or.inr (Or.inl ⟨rfl, rfl, z, rfl⟩)) (hb hby hd) hr
  · show Q _ T.heap; rw [eT]; exact hQ
theorem g_retZ {z : Int32} (X : St p l e R s m args below meth c n0 T h cells slots) (C : Cx p s m meth c Z bytes maxL (some .boolean) own nme) {Q : Option Value → Heap → Prop} {k n : Nat} (hd : decode bytes pc = .ok (.ireturn, 1)) (hQ : Q (some (.int (nar .boolean z))) h) (hk : cells ≤ k) (hn : slots ≤ n) : Go p e below (Rs s below n0 Q k n) T (mkF m pc L (.int z :: S)) := by
  obtain ⟨locs, X, N, eT⟩ := X; obtain ⟨hx, hby, -, hret, hlk, -⟩ := C
  obtain ⟨fs, hr, hrun, hended, hW, hsame⟩ := X.leave (v := (some (.int (nar .boolean z)))) (fun q => by first | rfl | (rw [hret] at q; cases q)) hlk
  refine ⟨_, _, ?_, hrun, hended, _, _, rfl, ⟨?_, N⟩, ⟨_, rfl⟩, hW, hsame.mono hk hn⟩
  · exact retN X hx (t := .boolean) hret (by simp) (hb hby hd) hr
  · show Q _ T.heap; rw [eT]; exact hQ
theorem g_retB {z : Int32} (X : St p l e R s m args below meth c n0 T h cells slots) (C : Cx p s m meth c Z bytes maxL (some .byte) own nme) {Q : Option Value → Heap → Prop} {k n : Nat} (hd : decode bytes pc = .ok (.ireturn, 1)) (hQ : Q (some (.int (nar .byte z))) h) (hk : cells ≤ k) (hn : slots ≤ n) : Go p e below (Rs s below n0 Q k n) T (mkF m pc L (.int z :: S)) := by
  obtain ⟨locs, X, N, eT⟩ := X; obtain ⟨hx, hby, -, hret, hlk, -⟩ := C
  obtain ⟨fs, hr, hrun, hended, hW, hsame⟩ := X.leave (v := (some (.int (nar .byte z)))) (fun q => by first | rfl | (rw [hret] at q; cases q)) hlk
  refine ⟨_, _, ?_, hrun, hended, _, _, rfl, ⟨?_, N⟩, ⟨_, rfl⟩, hW, hsame.mono hk hn⟩
  · exact retN X hx (t := .byte) hret (by simp) (hb hby hd) hr
  · show Q _ T.heap; rw [eT]; exact hQ
theorem g_retV  (X : St p l e R s m args below meth c n0 T h cells slots) (C : Cx p s m meth c Z bytes maxL none own nme) {Q : Option Value → Heap → Prop} {k n : Nat} (hd : decode bytes pc = .ok (.return_, 1)) (hQ : Q none h) (hk : cells ≤ k) (hn : slots ≤ n) : Go p e below (Rs s below n0 Q k n) T (mkF m pc L []) := by
  obtain ⟨locs, X, N, eT⟩ := X; obtain ⟨hx, hby, -, hret, hlk, -⟩ := C
  obtain ⟨fs, hr, hrun, hended, hW, hsame⟩ := X.leave (v := none) (fun q => by first | rfl | (rw [hret] at q; cases q)) hlk
  refine ⟨_, _, ?_, hrun, hended, _, _, rfl, ⟨?_, N⟩, ⟨_, rfl⟩, hW, hsame.mono hk hn⟩
  · exact X.returnOut hx hret (hb hby hd) hr
  · show Q _ T.heap; rw [eT]; exact hQ
theorem g_retA {v : Value} {ty : FieldType} (X : St p l e R s m args below meth c n0 T h cells slots) (C : Cx p s m meth c Z bytes maxL (some ty) own nme) {Q : Option Value → Heap → Prop} {k n : Nat} (hd : decode bytes pc = .ok (.areturn, 1)) (ht : ty.isReference = true) (hv : v.isRef = true) (hQ : Q (some v) h) (hk : cells ≤ k) (hn : slots ≤ n) : Go p e below (Rs s below n0 Q k n) T (mkF m pc L (v :: S)) := by
  obtain ⟨locs, X, N, eT⟩ := X; obtain ⟨hx, hby, -, hret, hlk, -⟩ := C
  obtain ⟨fs, hr, hrun, hended, hW, hsame⟩ := X.leave (v := (some v)) (fun q => by first | rfl | (rw [hret] at q; cases q)) hlk
  refine ⟨_, _, ?_, hrun, hended, _, _, rfl, ⟨?_, N⟩, ⟨_, rfl⟩, hW, hsame.mono hk hn⟩
  · exact retOut X hx hret (by cases ty <;> cases v <;> simp_all [narrow, FieldType.isReference, Value.isRef]) (Or.inr (Or.inr (Or.inr (Or.inr ⟨rfl, ht, hv⟩)))) (hb hby hd) hr
  · show Q _ T.heap; rw [eT]; exact hQ
end Lay
end Jvm.Own
namespace Jvm.Pilot.@@N@@
open Jvm Jvm.ClassFile Sem Op Lib Jvm.Free Jvm.Stand Jvm.LawKit Jvm.RoadKit Jvm.Own Bundle Jvm.Pilot.@@N@@.Jvm.D
def own_t (c i : Int32) : Int32 := ((c.toUInt32 >>> ((7 * i) &&& 31).toUInt32).toInt32) &&& 127
def own_grp (c i n : Int32) : Int32 := if i.toInt < (n - 1).toInt then ((own_t c i) ||| 128).toInt8.toInt32 else (own_t c i).toInt8.toInt32
def own_s : Nat → Int32
  | 0 => 0
  | j + 1 => own_s j + 7
def own_rd (g : Nat → Int32) (o : Nat) : Nat → Int32
  | 0 => 0
  | j + 1 => own_rd g o j ||| ((g (o + j) &&& 127) <<< (own_s j &&& 31))
theorem own_narb (x : Int32) : nar .byte (x.toInt8.toInt32) = x.toInt8.toInt32 := by simp [nar]
theorem own_t0 (c : Int32) (hc : 0 ≤ c.toInt) : (own_t c 0).toInt = c.toInt % 128 := by
  have h1 := c_mask ((c.toUInt32 >>> ((7 * (0 : Int32)) &&& 31).toUInt32).toInt32) 127 7 (by decide) (by decide)
  have h2 : ((c.toUInt32 >>> ((7 * (0 : Int32)) &&& 31).toUInt32).toInt32) = c := by
    have : ((7 * (0 : Int32)) &&& 31).toUInt32 = 0 := by decide
    rw [this]; simp
  rw [h2] at h1
  show (((c.toUInt32 >>> ((7 * (0 : Int32)) &&& 31).toUInt32).toInt32) &&& 127).toInt = _
  rw [h2]; exact h1
theorem own_tk (c i : Int32) (k : Nat) (P : Int) (hk : (7 * i).toBitVec.toNat % 32 = k) (h0 : 0 < k) (hP : ((2 ^ k : Nat) : Int) = P) (hc : 0 ≤ c.toInt) : (own_t c i).toInt = (c.toInt / P) % 128 := by
  have h1 := c_mask ((c.toUInt32 >>> ((7 * i) &&& 31).toUInt32).toInt32) 127 7 (by decide) (by decide)
  have h2 := c_iushr c (7 * i) k hk h0
  have h3 := rng32 c
  rw [h2, hP, Int.emod_eq_of_lt hc (by omega)] at h1
  exact h1
theorem own_hi (t : Int32) (h0 : 0 ≤ t.toInt) (h1 : t.toInt < 128) : ((t ||| 128).toInt8.toInt32).toInt = t.toInt - 128 := by
  have g1 := c_or' t 128 7 (by decide) 128 (by decide) (by decide) h0 h1
  have g2 := c_i2b (t ||| 128)
  have g3 : (128 : Int32).toInt = 128 := by decide
  omega
theorem own_lo (t : Int32) (h0 : 0 ≤ t.toInt) (h1 : t.toInt < 128) : (t.toInt8.toInt32).toInt = t.toInt := by
  have g2 := c_i2b t
  omega
theorem own_rdS (r b s : Int32) (k : Nat) (P : Int) (hk7 : k ≤ 31) (hP : P = (2 ^ k : Nat)) (hs : s.toBitVec.toNat % 32 = k) (h0 : 0 ≤ r.toInt) (h1 : r.toInt < P) (h2 : (b.toInt % 128) * P + r.toInt < 2147483648) (hP0 : 0 < P) :
    (r ||| ((b &&& 127) <<< (s &&& 31))).toInt = r.toInt + (b.toInt % 128) * P := by
  have g1 := c_mask b 127 7 (by decide) (by decide)
  simp only [Nat.reducePow] at g1
  have g2 := c_ishl (b &&& 127) s k hs
  rw [g1, ← hP] at g2
  have g3 := rng32 ((b &&& 127) <<< (s &&& 31))
  have g4 : 0 ≤ (b.toInt % 128) * P := Int.mul_nonneg (Int.emod_nonneg _ (by decide)) (by omega)
  have g5 : ((b &&& 127) <<< (s &&& 31)).toInt = (b.toInt % 128) * P := by
    generalize ((b &&& 127) <<< (s &&& 31)).toInt = y at *
    generalize (b.toInt % 128) * P = z at *
    have : b.toInt % 128 = b.toInt % 128 := rfl
    omega
  have g6 := c_or' r ((b &&& 127) <<< (s &&& 31)) k hk7 P hP (by rw [g5]; exact Int.mul_emod_left _ _) h0 h1
  have g7 := rng32 (r ||| ((b &&& 127) <<< (s &&& 31)))
  rw [g5] at g6
  generalize (b.toInt % 128) * P = z at *
  omega

theorem os_6_5 {s0 s1 s2 s3 s4 s5 : Slot} {v : Int32} (h : One s5) : storeLocals #[s0, s1, s2, s3, s4, s5] 5 (.int v) = some #[s0, s1, s2, s3, s4, .val (.int v)] := by
  rcases h with rfl | ⟨w, rfl, hw⟩
  · rfl
  · cases w <;> first | rfl | (simp [Value.category] at hw)
theorem d1_0 : decode method_3_code 0 = .ok (.iload_n 0, 1) := by decide +kernel
theorem d1_1 : decode method_3_code 1 = .ok (.bipush 7, 2) := by decide +kernel
theorem d1_3 : decode method_3_code 3 = .ok (.iload_n 1, 1) := by decide +kernel
theorem d1_4 : decode method_3_code 4 = .ok (.imul, 1) := by decide +kernel
theorem d1_5 : decode method_3_code 5 = .ok (.iushr, 1) := by decide +kernel
theorem d1_6 : decode method_3_code 6 = .ok (.bipush 127, 2) := by decide +kernel
theorem d1_8 : decode method_3_code 8 = .ok (.iand, 1) := by decide +kernel
theorem d1_9 : decode method_3_code 9 = .ok (.istore_n 3, 1) := by decide +kernel
theorem d1_10 : decode method_3_code 10 = .ok (.iload_n 1, 1) := by decide +kernel
theorem d1_11 : decode method_3_code 11 = .ok (.iload_n 2, 1) := by decide +kernel
theorem d1_12 : decode method_3_code 12 = .ok (.iconst 1, 1) := by decide +kernel
theorem d1_13 : decode method_3_code 13 = .ok (.isub, 1) := by decide +kernel
theorem d1_14 : decode method_3_code 14 = .ok (.if_icmp .ge 9, 3) := by decide +kernel
theorem d1_17 : decode method_3_code 17 = .ok (.iload_n 3, 1) := by decide +kernel
theorem d1_18 : decode method_3_code 18 = .ok (.sipush 128, 3) := by decide +kernel
theorem d1_21 : decode method_3_code 21 = .ok (.ior, 1) := by decide +kernel
theorem d1_22 : decode method_3_code 22 = .ok (.istore_n 3, 1) := by decide +kernel
theorem d1_23 : decode method_3_code 23 = .ok (.iload_n 3, 1) := by decide +kernel
theorem d1_24 : decode method_3_code 24 = .ok (.i2b, 1) := by decide +kernel
theorem d1_25 : decode method_3_code 25 = .ok (.ireturn, 1) := by decide +kernel
theorem d2_0 : decode prog_133_method_12_code 0 = .ok (.iconst 0, 1) := by decide +kernel
theorem d2_1 : decode prog_133_method_12_code 1 = .ok (.istore_n 2, 1) := by decide +kernel
theorem d2_2 : decode prog_133_method_12_code 2 = .ok (.iconst 0, 1) := by decide +kernel
theorem d2_3 : decode prog_133_method_12_code 3 = .ok (.istore_n 3, 1) := by decide +kernel
theorem d2_4 : decode prog_133_method_12_code 4 = .ok (.iload_n 1, 1) := by decide +kernel
theorem d2_5 : decode prog_133_method_12_code 5 = .ok (.istore 4, 2) := by decide +kernel
theorem d2_7 : decode prog_133_method_12_code 7 = .ok (.aload_n 0, 1) := by decide +kernel
theorem d2_8 : decode prog_133_method_12_code 8 = .ok (.iload 4, 2) := by decide +kernel
theorem d2_10 : decode prog_133_method_12_code 10 = .ok (.iinc 4 1, 3) := by decide +kernel
theorem d2_13 : decode prog_133_method_12_code 13 = .ok (.baload, 1) := by decide +kernel
theorem d2_14 : decode prog_133_method_12_code 14 = .ok (.istore 5, 2) := by decide +kernel
theorem d2_16 : decode prog_133_method_12_code 16 = .ok (.iload_n 2, 1) := by decide +kernel
theorem d2_17 : decode prog_133_method_12_code 17 = .ok (.iload 5, 2) := by decide +kernel
theorem d2_19 : decode prog_133_method_12_code 19 = .ok (.bipush 127, 2) := by decide +kernel
theorem d2_21 : decode prog_133_method_12_code 21 = .ok (.iand, 1) := by decide +kernel
theorem d2_22 : decode prog_133_method_12_code 22 = .ok (.iload_n 3, 1) := by decide +kernel
theorem d2_23 : decode prog_133_method_12_code 23 = .ok (.ishl, 1) := by decide +kernel
theorem d2_24 : decode prog_133_method_12_code 24 = .ok (.ior, 1) := by decide +kernel
theorem d2_25 : decode prog_133_method_12_code 25 = .ok (.istore_n 2, 1) := by decide +kernel
theorem d2_26 : decode prog_133_method_12_code 26 = .ok (.iinc 3 7, 3) := by decide +kernel
theorem d2_29 : decode prog_133_method_12_code 29 = .ok (.iload 5, 2) := by decide +kernel
theorem d2_31 : decode prog_133_method_12_code 31 = .ok (.ifCond .lt (-24), 3) := by decide +kernel
theorem d2_34 : decode prog_133_method_12_code 34 = .ok (.iload_n 2, 1) := by decide +kernel
theorem d2_35 : decode prog_133_method_12_code 35 = .ok (.ireturn, 1) := by decide +kernel
theorem pn_0 : plainName "com/example/libxmlkey/libxmlkey/RecordBytesReadCountPinLaw" = true := by first | (simp [plainName, overriddenIn]; done) | decide +kernel
theorem pn_1 : plainName "com/example/libxmlkey/libxmlkey/RecordBytes" = true := by first | (simp [plainName, overriddenIn]; done) | decide +kernel
theorem pd_0 : parseMethodDescriptor "(III)B" = some ⟨[.int, .int, .int], some .byte⟩ := by decide +kernel
theorem pd_1 : parseMethodDescriptor "([BI)I" = some ⟨[(.array .byte), .int], some .int⟩ := by decide +kernel
theorem ef_rmG (m : MethodId) (p1 : Int32) (p2 : Int32) (p3 : Int32) : entryFrame m #[(.int p1), (.int p2), (.int p3)] 4 = mkF m 0 #[.val (.int p1), .val (.int p2), .val (.int p3), .unset] [] := by first | (simp [entryFrame, mkF, argsToLocals, Value.category]; done) | rfl
set_option maxRecDepth 65536 in
set_option maxHeartbeats 40000000 in
theorem rmG (l : Launch) (Z : State) (a0 : Array Value) (hw : ∀ d ∈ tables_1, d.before a0 Z = true) (p1 p2 p3 : Int32) (h0 : Heap) (n0 : Nat) (hz0 : n0 ≤ h0.size)  (ws : List Jvm.Cond) :
    Ctr l (⟨"com/example/libxmlkey/libxmlkey/RecordBytesReadCountPinLaw", "group", "(III)B"⟩ : MethodName) method_3_code 4 (some .byte) ({ frames := 0, cells := 0, slots := 0, locals := 0 } : Room) Z n0 #[(.int p1), (.int p2), (.int p3)] h0 (fun v h => v = some (.int (own_grp p1 p2 p3)) ∧ h = h0) ws := by
  refine ctr_of (plainFor_of_name pn_0) ?_
  intro p e s m below meth c T0 X0 C
  refine go_cast (ef_rmG m p1 p2 p3) ?_
  obtain ⟨RS, hRS⟩ : ∃ RS, RS = Rs s below n0 (fun v h => v = some (.int (own_grp p1 p2 p3)) ∧ h = h0) ({ frames := 0, cells := 0, slots := 0, locals := 0 } : Room).cells ({ frames := 0, cells := 0, slots := 0, locals := 0 } : Room).slots := ⟨_, rfl⟩
  suffices HG : Go p e below RS T0 (mkF m 0 #[.val (.int p1), .val (.int p2), .val (.int p3), .unset] []) by rw [hRS] at HG; exact HG
  show Go p e below RS T0 (mkF m 0 #[.val (.int p1), .val (.int p2), .val (.int p3), .unset] [])
  refine g_iloadN X0 C d1_0 rfl rfl ?_
  refine g_bipush (v := 7) X0 C d1_1 (by decide) rfl ?_
  refine g_iloadN X0 C d1_3 rfl rfl ?_
  refine g_imul X0 C d1_4 rfl ?_
  refine g_iushr X0 C d1_5 rfl ?_
  refine g_bipush (v := 127) X0 C d1_6 (by decide) rfl ?_
  refine g_iand X0 C d1_8 rfl ?_
  refine g_istoreN (L' := #[.val (.int p1), .val (.int p2), .val (.int p3), .val (.int (((p1.toUInt32 >>> (((7 : Int32) * p2) &&& 31).toUInt32).toInt32) &&& (127 : Int32)))]) X0 C d1_9 rfl rfl rfl ?_
  refine g_iloadN X0 C d1_10 rfl rfl ?_
  refine g_iloadN X0 C d1_11 rfl rfl ?_
  refine g_iconst (v := 1) X0 C d1_12 (by decide) rfl ?_
  refine g_isub X0 C d1_13 rfl ?_
  refine g_icmp_ge (a := p2.toInt) (b := (p3 - (1 : Int32)).toInt) X0 C d1_14 rfl rfl (by decide) (pT := 23) (by decide) (pF := 17) rfl (fun hc14 => ?_) (fun hc14 => ?_)
  ·
    refine g_iloadN X0 C d1_23 rfl rfl ?_
    refine g_i2b X0 C d1_24 rfl ?_
    rw [hRS]
    refine g_retB X0 C d1_25 ?_ (by decide) (by decide)
    refine ⟨?_, rfl⟩
    rw [own_narb]; simp only [own_grp]; rw [if_neg (by omega)]; rfl
  ·
    refine g_iloadN X0 C d1_17 rfl rfl ?_
    refine g_sipush (v := 128) X0 C d1_18 (by decide) rfl ?_
    refine g_ior X0 C d1_21 rfl ?_
    refine g_istoreN (L' := #[.val (.int p1), .val (.int p2), .val (.int p3), .val (.int ((((p1.toUInt32 >>> (((7 : Int32) * p2) &&& 31).toUInt32).toInt32) &&& (127 : Int32)) ||| (128 : Int32)))]) X0 C d1_22 rfl rfl rfl ?_
    refine g_iloadN X0 C d1_23 rfl rfl ?_
    refine g_i2b X0 C d1_24 rfl ?_
    rw [hRS]
    refine g_retB X0 C d1_25 ?_ (by decide) (by decide)
    refine ⟨?_, rfl⟩
    rw [own_narb]; simp only [own_grp]; rw [if_pos hc14]; rfl
theorem ef_rmR (m : MethodId) (a1 : Addr) (p2 : Int32) : entryFrame m #[(.ref a1), (.int p2)] 6 = mkF m 0 #[.val (.ref a1), .val (.int p2), .unset, .unset, .unset, .unset] [] := by first | (simp [entryFrame, mkF, argsToLocals, Value.category]; done) | rfl
set_option maxRecDepth 65536 in
set_option maxHeartbeats 40000000 in
theorem rmR (l : Launch) (Z : State) (a0 : Array Value) (hw : ∀ d ∈ tables_1, d.before a0 Z = true) (a1 : Addr) (p2 : Int32) (g : Nat → Int32) (o k : Nat) (h0 : Heap) (n0 : Nat) (hz0 : n0 ≤ h0.size) (ho : p2.toInt = o) (hb : o + k < 10) (hneg : ∀ j, j < k → (g (o + j)).toInt < 0) (hpos : 0 ≤ (g (o + k)).toInt) (A_a1 : Ar Z h0 a1 .byte 10 (fun k => .int (g k))) (ws : List Jvm.Cond) :
    Ctr l (⟨"com/example/libxmlkey/libxmlkey/RecordBytes", "readCount", "([BI)I"⟩ : MethodName) prog_133_method_12_code 6 (some .int) ({ frames := 0, cells := 0, slots := 0, locals := 0 } : Room) Z n0 #[(.ref a1), (.int p2)] h0 (fun v h => v = some (.int (own_rd g o (k + 1))) ∧ h = h0) ws := by
  refine ctr_of (plainFor_of_name pn_1) ?_
  intro p e s m below meth c T0 X0 C
  refine go_cast (ef_rmR m a1 p2) ?_
  obtain ⟨RS, hRS⟩ : ∃ RS, RS = Rs s below n0 (fun v h => v = some (.int (own_rd g o (k + 1))) ∧ h = h0) ({ frames := 0, cells := 0, slots := 0, locals := 0 } : Room).cells ({ frames := 0, cells := 0, slots := 0, locals := 0 } : Room).slots := ⟨_, rfl⟩
  suffices HG : Go p e below RS T0 (mkF m 0 #[.val (.ref a1), .val (.int p2), .unset, .unset, .unset, .unset] []) by rw [hRS] at HG; exact HG
  show Go p e below RS T0 (mkF m 0 #[.val (.ref a1), .val (.int p2), .unset, .unset, .unset, .unset] [])
  refine g_iconst (v := 0) X0 C d2_0 (by decide) rfl ?_
  refine g_istoreN (L' := #[.val (.ref a1), .val (.int p2), .val (.int (0 : Int32)), .unset, .unset, .unset]) X0 C d2_1 rfl rfl rfl ?_
  refine g_iconst (v := 0) X0 C d2_2 (by decide) rfl ?_
  refine g_istoreN (L' := #[.val (.ref a1), .val (.int p2), .val (.int (0 : Int32)), .val (.int (0 : Int32)), .unset, .unset]) X0 C d2_3 rfl rfl rfl ?_
  refine g_iloadN X0 C d2_4 rfl rfl ?_
  refine g_istore (L' := #[.val (.ref a1), .val (.int p2), .val (.int (0 : Int32)), .val (.int (0 : Int32)), .val (.int p2), .unset]) X0 C d2_5 rfl rfl rfl ?_
  have LP : ∀ (d j : Nat) (x4 : Int32) (s5 : Slot), One s5 → x4.toInt = (o + j : Nat) → j + d = k → Go p e below RS T0 (mkF m 7 #[.val (.ref a1), .val (.int p2), .val (.int (own_rd g o j)), .val (.int (own_s j)), .val (.int x4), s5] []) := by
    intro d
    induction d with
    | zero =>
      intro j x4 s5 hs5 hx hk
      refine g_aloadN X0 C d2_7 rfl rfl rfl ?_
      refine g_iload X0 C d2_8 rfl rfl ?_
      obtain ⟨i1, h_i1⟩ : ∃ z, z = (x4 + (1 : Int32)) := ⟨_, rfl⟩
      have hi_i1 : i1.toInt = (o + (j + 1) : Nat) := by
          have g1 := c_iadd x4 1; have g2 := rng32 i1; have g3 : (1 : Int32).toInt = 1 := by decide
          rw [← h_i1] at g1; omega
      refine g_iinc (L' := #[.val (.ref a1), .val (.int p2), .val (.int (own_rd g o j)), .val (.int (own_s j)), .val (.int i1), s5]) X0 C d2_10 rfl h_i1 rfl rfl ?_
      refine g_baloadB (i := (o + j)) (v := (.int (g (o + j)))) X0 C A_a1 hx (by omega) rfl d2_13 rfl ?_
      refine g_istore (L' := #[.val (.ref a1), .val (.int p2), .val (.int (own_rd g o j)), .val (.int (own_s j)), .val (.int i1), .val (.int (g (o + j)))]) X0 C d2_14 rfl (os_6_5 hs5) rfl ?_
      refine g_iloadN X0 C d2_16 rfl rfl ?_
      refine g_iload X0 C d2_17 rfl rfl ?_
      refine g_bipush (v := 127) X0 C d2_19 (by decide) rfl ?_
      refine g_iand X0 C d2_21 rfl ?_
      refine g_iloadN X0 C d2_22 rfl rfl ?_
      refine g_ishl X0 C d2_23 rfl ?_
      refine g_ior X0 C d2_24 rfl ?_
      refine g_istoreN (L' := #[.val (.ref a1), .val (.int p2), .val (.int ((own_rd g o j) ||| (((g (o + j)) &&& (127 : Int32)) <<< ((own_s j) &&& 31)))), .val (.int (own_s j)), .val (.int i1), .val (.int (g (o + j)))]) X0 C d2_25 rfl rfl rfl ?_
      obtain ⟨i2, h_i2⟩ : ∃ z, z = ((own_s j) + (7 : Int32)) := ⟨_, rfl⟩
      refine g_iinc (L' := #[.val (.ref a1), .val (.int p2), .val (.int ((own_rd g o j) ||| (((g (o + j)) &&& (127 : Int32)) <<< ((own_s j) &&& 31)))), .val (.int i2), .val (.int i1), .val (.int (g (o + j)))]) X0 C d2_26 rfl h_i2 rfl rfl ?_
      refine g_iload X0 C d2_29 rfl rfl ?_
      refine g_if_lt (a := (g (o + j)).toInt) X0 C d2_31 rfl (by decide) (pT := 7) (by decide) (pF := 34) rfl (fun hc31 => absurd hc31 (by have := hpos; rw [show k = j by omega] at this; omega)) (fun hc31 => ?_)
      refine g_iloadN X0 C d2_34 rfl rfl ?_
      rw [hRS]
      refine g_retI X0 C d2_35 ?_ (by decide) (by decide)
      exact ⟨by rw [show k = j by omega]; rfl, rfl⟩
    | succ d ih =>
      intro j x4 s5 hs5 hx hk
      refine g_aloadN X0 C d2_7 rfl rfl rfl ?_
      refine g_iload X0 C d2_8 rfl rfl ?_
      obtain ⟨i3, h_i3⟩ : ∃ z, z = (x4 + (1 : Int32)) := ⟨_, rfl⟩
      have hi_i3 : i3.toInt = (o + (j + 1) : Nat) := by
          have g1 := c_iadd x4 1; have g2 := rng32 i3; have g3 : (1 : Int32).toInt = 1 := by decide
          rw [← h_i3] at g1; omega
      refine g_iinc (L' := #[.val (.ref a1), .val (.int p2), .val (.int (own_rd g o j)), .val (.int (own_s j)), .val (.int i3), s5]) X0 C d2_10 rfl h_i3 rfl rfl ?_
      refine g_baloadB (i := (o + j)) (v := (.int (g (o + j)))) X0 C A_a1 hx (by omega) rfl d2_13 rfl ?_
      refine g_istore (L' := #[.val (.ref a1), .val (.int p2), .val (.int (own_rd g o j)), .val (.int (own_s j)), .val (.int i3), .val (.int (g (o + j)))]) X0 C d2_14 rfl (os_6_5 hs5) rfl ?_
      refine g_iloadN X0 C d2_16 rfl rfl ?_
      refine g_iload X0 C d2_17 rfl rfl ?_
      refine g_bipush (v := 127) X0 C d2_19 (by decide) rfl ?_
      refine g_iand X0 C d2_21 rfl ?_
      refine g_iloadN X0 C d2_22 rfl rfl ?_
      refine g_ishl X0 C d2_23 rfl ?_
      refine g_ior X0 C d2_24 rfl ?_
      refine g_istoreN (L' := #[.val (.ref a1), .val (.int p2), .val (.int ((own_rd g o j) ||| (((g (o + j)) &&& (127 : Int32)) <<< ((own_s j) &&& 31)))), .val (.int (own_s j)), .val (.int i3), .val (.int (g (o + j)))]) X0 C d2_25 rfl rfl rfl ?_
      obtain ⟨i4, h_i4⟩ : ∃ z, z = ((own_s j) + (7 : Int32)) := ⟨_, rfl⟩
      refine g_iinc (L' := #[.val (.ref a1), .val (.int p2), .val (.int ((own_rd g o j) ||| (((g (o + j)) &&& (127 : Int32)) <<< ((own_s j) &&& 31)))), .val (.int i4), .val (.int i3), .val (.int (g (o + j)))]) X0 C d2_26 rfl h_i4 rfl rfl ?_
      refine g_iload X0 C d2_29 rfl rfl ?_
      refine g_if_lt (a := (g (o + j)).toInt) X0 C d2_31 rfl (by decide) (pT := 7) (by decide) (pF := 34) rfl (fun hc31 => ?_) (fun hc31 => absurd hc31 (by have := hneg j (by omega); omega))
      have hh3 : i4 = own_s (j + 1) := h_i4
      rw [hh3]
      exact ih (j + 1) _ _ (One.val rfl) hi_i3 (by omega)
  exact LP k 0 _ _ One.u ho (by omega)
theorem ef_rm0 (m : MethodId) (p1 : Int32) (p2 : Int32) (q3 : Int64) : entryFrame m #[(.int p1), (.int p2), (.long q3)] maxLocals = mkF m 0 #[.val (.int p1), .val (.int p2), .val (.long q3), .second, .unset, .unset, .unset, .unset] [] := by first | (simp [entryFrame, mkF, argsToLocals, Value.category, maxLocals]; done) | rfl
set_option maxRecDepth 65536 in
set_option maxHeartbeats 40000000 in
theorem rm0 (l : Launch) (Z : State) (a0 : Array Value) (hw : ∀ d ∈ tables_1, d.before a0 Z = true) (p1 p2 : Int32) (q3 : Int64) (h0 : Heap) (n0 : Nat) (hz0 : n0 ≤ h0.size)  (ws : List Jvm.Cond) :
    Ctr l x code maxLocals ret room_1 Z n0 #[(.int p1), (.int p2), (.long q3)] h0 (fun v h => v = some (.int 1)) ws := by
  refine ctr_of (plainFor_of_name pn_0) ?_
  intro p e s m below meth c T0 X0 C
  refine go_cast (ef_rm0 m p1 p2 q3) ?_
  obtain ⟨RS, hRS⟩ : ∃ RS, RS = Rs s below n0 (fun v h => v = some (.int 1)) room_1.cells room_1.slots := ⟨_, rfl⟩
  suffices HG : Go p e below RS T0 (mkF m 0 #[.val (.int p1), .val (.int p2), .val (.long q3), .second, .unset, .unset, .unset, .unset] []) by rw [hRS] at HG; exact HG
  show Go p e below RS T0 (mkF m 0 #[.val (.int p1), .val (.int p2), .val (.long q3), .second, .unset, .unset, .unset, .unset] [])
  refine g_iloadN X0 C at_0 rfl rfl ?_
  refine g_ldcI X0 C (hw _ (List.mem_of_getElem? (i := 0) rfl)) at_1 rfl ?_
  refine g_iand X0 C at_3 rfl ?_
  obtain ⟨i5, h_i5⟩ : ∃ z, z = (p1 &&& (2147483647 : Int32)) := ⟨_, rfl⟩
  have hc0 : 0 ≤ i5.toInt ∧ i5.toInt < 2147483648 := by
    have g1 := c_mask p1 2147483647 31 (by decide) (by decide)
    rw [← h_i5] at g1; simp only [Nat.reducePow] at g1; omega
  refine g_istore (L' := #[.val (.int p1), .val (.int p2), .val (.long q3), .second, .val (.int i5), .unset, .unset, .unset]) X0 C at_4 h_i5 rfl rfl ?_
  refine g_iloadN X0 C at_6 rfl rfl ?_
  refine g_iconst (v := 3) X0 C at_7 (by decide) rfl ?_
  refine g_iand X0 C at_8 rfl ?_
  obtain ⟨i6, h_i6⟩ : ∃ z, z = (p2 &&& (3 : Int32)) := ⟨_, rfl⟩
  obtain ⟨o, ho, ho3⟩ : ∃ o : Nat, i6.toInt = o ∧ o ≤ 3 := by
    have g1 := c_mask p2 3 2 (by decide) (by decide)
    rw [← h_i6] at g1; simp only [Nat.reducePow] at g1
    exact ⟨i6.toInt.toNat, by omega, by omega⟩
  refine g_istore (L' := #[.val (.int p1), .val (.int p2), .val (.long q3), .second, .val (.int i5), .val (.int i6), .unset, .unset]) X0 C at_9 h_i6 rfl rfl ?_
  refine g_bipush (v := 10) X0 C at_11 (by decide) rfl ?_
  refine g_newarr (n := 10) (cap := 10) X0 C (hw _ (List.mem_of_getElem? (i := 1) rfl)) (by decide) (by decide) (by decide) (by decide) (by decide) at_13 rfl (fun T7 h9 b11 hb12 X8 A_b11 K10 => ?_)
  have A_b11 : Ar Z h9 b11 .byte 10 (fun _ => .int 0) := A_b11
  have ga_b11 : n0 ≤ b11 := hb12 ▸ hz0
  have hz13 := Nat.le_trans hz0 K10.1
  refine g_astore (L' := #[.val (.int p1), .val (.int p2), .val (.long q3), .second, .val (.int i5), .val (.int i6), .val (.ref b11), .unset]) X8 C at_15 rfl rfl rfl ?_
  refine g_aload X8 C at_17 rfl rfl rfl ?_
  refine g_iconst (v := 0) X8 C at_19 (by decide) rfl ?_
  refine g_lloadN X8 C at_20 rfl rfl ?_
  refine g_l2i X8 C at_21 rfl ?_
  refine g_i2b X8 C at_22 rfl ?_
  refine g_bastoreB (i := 0) X8 C A_b11 (by decide) (by decide) ga_b11 at_23 rfl (fun T14 h16 X15 A_b11 K17 => ?_)
  have hz18 := Nat.le_trans hz13 K17.1
  refine g_aload X15 C at_24 rfl rfl rfl ?_
  refine g_iconst (v := 1) X15 C at_26 (by decide) rfl ?_
  refine g_lloadN X15 C at_27 rfl rfl ?_
  refine g_bipush (v := 8) X15 C at_28 (by decide) rfl ?_
  refine g_lushr X15 C at_30 rfl ?_
  refine g_l2i X15 C at_31 rfl ?_
  refine g_i2b X15 C at_32 rfl ?_
  refine g_bastoreB (i := 1) X15 C A_b11 (by decide) (by decide) ga_b11 at_33 rfl (fun T19 h21 X20 A_b11 K22 => ?_)
  have hz23 := Nat.le_trans hz18 K22.1
  refine g_aload X20 C at_34 rfl rfl rfl ?_
  refine g_iconst (v := 2) X20 C at_36 (by decide) rfl ?_
  refine g_lloadN X20 C at_37 rfl rfl ?_
  refine g_bipush (v := 16) X20 C at_38 (by decide) rfl ?_
  refine g_lushr X20 C at_40 rfl ?_
  refine g_l2i X20 C at_41 rfl ?_
  refine g_i2b X20 C at_42 rfl ?_
  refine g_bastoreB (i := 2) X20 C A_b11 (by decide) (by decide) ga_b11 at_43 rfl (fun T24 h26 X25 A_b11 K27 => ?_)
  have hz28 := Nat.le_trans hz23 K27.1
  refine g_aload X25 C at_44 rfl rfl rfl ?_
  refine g_iconst (v := 3) X25 C at_46 (by decide) rfl ?_
  refine g_lloadN X25 C at_47 rfl rfl ?_
  refine g_bipush (v := 24) X25 C at_48 (by decide) rfl ?_
  refine g_lushr X25 C at_50 rfl ?_
  refine g_l2i X25 C at_51 rfl ?_
  refine g_i2b X25 C at_52 rfl ?_
  refine g_bastoreB (i := 3) X25 C A_b11 (by decide) (by decide) ga_b11 at_53 rfl (fun T29 h31 X30 A_b11 K32 => ?_)
  have hz33 := Nat.le_trans hz28 K32.1
  refine g_aload X30 C at_54 rfl rfl rfl ?_
  refine g_iconst (v := 4) X30 C at_56 (by decide) rfl ?_
  refine g_lloadN X30 C at_57 rfl rfl ?_
  refine g_bipush (v := 32) X30 C at_58 (by decide) rfl ?_
  refine g_lushr X30 C at_60 rfl ?_
  refine g_l2i X30 C at_61 rfl ?_
  refine g_i2b X30 C at_62 rfl ?_
  refine g_bastoreB (i := 4) X30 C A_b11 (by decide) (by decide) ga_b11 at_63 rfl (fun T34 h36 X35 A_b11 K37 => ?_)
  have hz38 := Nat.le_trans hz33 K37.1
  refine g_aload X35 C at_64 rfl rfl rfl ?_
  refine g_iconst (v := 5) X35 C at_66 (by decide) rfl ?_
  refine g_lloadN X35 C at_67 rfl rfl ?_
  refine g_bipush (v := 40) X35 C at_68 (by decide) rfl ?_
  refine g_lushr X35 C at_70 rfl ?_
  refine g_l2i X35 C at_71 rfl ?_
  refine g_i2b X35 C at_72 rfl ?_
  refine g_bastoreB (i := 5) X35 C A_b11 (by decide) (by decide) ga_b11 at_73 rfl (fun T39 h41 X40 A_b11 K42 => ?_)
  have hz43 := Nat.le_trans hz38 K42.1
  refine g_aload X40 C at_74 rfl rfl rfl ?_
  refine g_bipush (v := 6) X40 C at_76 (by decide) rfl ?_
  refine g_lloadN X40 C at_78 rfl rfl ?_
  refine g_bipush (v := 48) X40 C at_79 (by decide) rfl ?_
  refine g_lushr X40 C at_81 rfl ?_
  refine g_l2i X40 C at_82 rfl ?_
  refine g_i2b X40 C at_83 rfl ?_
  refine g_bastoreB (i := 6) X40 C A_b11 (by decide) (by decide) ga_b11 at_84 rfl (fun T44 h46 X45 A_b11 K47 => ?_)
  have hz48 := Nat.le_trans hz43 K47.1
  refine g_aload X45 C at_85 rfl rfl rfl ?_
  refine g_bipush (v := 7) X45 C at_87 (by decide) rfl ?_
  refine g_lloadN X45 C at_89 rfl rfl ?_
  refine g_bipush (v := 56) X45 C at_90 (by decide) rfl ?_
  refine g_lushr X45 C at_92 rfl ?_
  refine g_l2i X45 C at_93 rfl ?_
  refine g_i2b X45 C at_94 rfl ?_
  refine g_bastoreB (i := 7) X45 C A_b11 (by decide) (by decide) ga_b11 at_95 rfl (fun T49 h51 X50 A_b11 K52 => ?_)
  have hz53 := Nat.le_trans hz48 K52.1
  refine g_aload X50 C at_96 rfl rfl rfl ?_
  refine g_bipush (v := 8) X50 C at_98 (by decide) rfl ?_
  refine g_lloadN X50 C at_100 rfl rfl ?_
  refine g_iconst (v := 3) X50 C at_101 (by decide) rfl ?_
  refine g_lushr X50 C at_102 rfl ?_
  refine g_l2i X50 C at_103 rfl ?_
  refine g_i2b X50 C at_104 rfl ?_
  refine g_bastoreB (i := 8) X50 C A_b11 (by decide) (by decide) ga_b11 at_105 rfl (fun T54 h56 X55 A_b11 K57 => ?_)
  have hz58 := Nat.le_trans hz53 K57.1
  refine g_aload X55 C at_106 rfl rfl rfl ?_
  refine g_bipush (v := 9) X55 C at_108 (by decide) rfl ?_
  refine g_lloadN X55 C at_110 rfl rfl ?_
  refine g_bipush (v := 11) X55 C at_111 (by decide) rfl ?_
  refine g_lushr X55 C at_113 rfl ?_
  refine g_l2i X55 C at_114 rfl ?_
  refine g_i2b X55 C at_115 rfl ?_
  refine g_bastoreB (i := 9) X55 C A_b11 (by decide) (by decide) ga_b11 at_116 rfl (fun T59 h61 X60 A_b11 K62 => ?_)
  have hz63 := Nat.le_trans hz58 K62.1
  obtain ⟨gj, A_b11⟩ : ∃ g : Nat → Int32, Ar Z h61 b11 .byte 10 (fun k => .int (g k)) := ⟨_, A_b11⟩
  refine g_iload X60 C at_117 rfl rfl ?_
  refine g_sipush (v := 128) X60 C at_119 (by decide) rfl ?_
  refine g_icmp_ge (a := i5.toInt) (b := 128) X60 C at_122 rfl (by decide) (by decide) (pT := 131) (by decide) (pF := 125) rfl (fun hc122 => ?_) (fun hc122 => ?_)
  ·
    refine g_iload X60 C at_131 rfl rfl ?_
    refine g_sipush (v := 16384) X60 C at_133 (by decide) rfl ?_
    refine g_icmp_ge (a := i5.toInt) (b := 16384) X60 C at_136 rfl (by decide) (by decide) (pT := 145) (by decide) (pF := 139) rfl (fun hc136 => ?_) (fun hc136 => ?_)
    ·
      refine g_iload X60 C at_145 rfl rfl ?_
      refine g_ldcI X60 C (hw _ (List.mem_of_getElem? (i := 10) rfl)) at_147 rfl ?_
      refine g_icmp_ge (a := i5.toInt) (b := 2097152) X60 C at_149 rfl (by decide) (by decide) (pT := 158) (by decide) (pF := 152) rfl (fun hc149 => ?_) (fun hc149 => ?_)
      ·
        refine g_iload X60 C at_158 rfl rfl ?_
        refine g_ldcI X60 C (hw _ (List.mem_of_getElem? (i := 11) rfl)) at_160 rfl ?_
        refine g_icmp_ge (a := i5.toInt) (b := 268435456) X60 C at_162 rfl (by decide) (by decide) (pT := 171) (by decide) (pF := 165) rfl (fun hc162 => ?_) (fun hc162 => ?_)
        ·
          refine g_iconst (v := 5) X60 C at_171 (by decide) rfl ?_
          refine g_istore (L' := #[.val (.int p1), .val (.int p2), .val (.long q3), .second, .val (.int i5), .val (.int i6), .val (.ref b11), .val (.int (5 : Int32))]) X60 C at_172 rfl rfl rfl ?_
          refine g_aload X60 C at_174 rfl rfl rfl ?_
          refine g_iload X60 C at_176 rfl rfl ?_
          refine g_iload X60 C at_178 rfl rfl ?_
          refine g_iconst (v := 0) X60 C at_180 (by decide) rfl ?_
          refine g_iload X60 C at_181 rfl rfl ?_
          refine g_static (argsL := [(.int i5), (.int (0 : Int32)), (.int (5 : Int32))]) (rest := [(.int i6), (.ref b11)]) (W := 2) X60 C (rmG l Z a0 hw i5 (0 : Int32) (5 : Int32) h61 n0 hz63 []) (hw _ (List.mem_of_getElem? (i := 2) rfl)) (hw _ (List.mem_of_getElem? (i := 3) rfl)) (hw _ (List.mem_of_getElem? (i := 4) rfl)) (hw _ (List.mem_of_getElem? (i := 5) rfl)) (by decide) pd_0 rfl rfl rfl rfl rfl (by decide) (by decide) (by decide) (by decide) at_183 rfl (fun r67 T64 h66 hQ68 X65 => ?_)
          obtain ⟨rfl, hh⟩ := hQ68; rw [hh] at X65
          obtain ⟨i69, h_i69⟩ : ∃ z, z = own_grp i5 (0 : Int32) (5 : Int32) := ⟨_, rfl⟩
          rw [← h_i69]
          have hb0 : i69.toInt = (i5.toInt / 1) % 128 - 128 := by
            have g1 := own_t0 i5 hc0.1
            have g2 := own_hi (own_t i5 0) (by omega) (by omega)
            rw [h_i69, own_grp, if_pos (by decide), g2]; omega
          have hn_i69 : nar .byte i69 = i69 := by rw [h_i69, own_grp, if_pos (by decide)]; exact own_narb _
          show Go p e below RS T64 (mkF m 186 #[.val (.int p1), .val (.int p2), .val (.long q3), .second, .val (.int i5), .val (.int i6), .val (.ref b11), .val (.int (5 : Int32))] [(.int i69), (.int i6), (.ref b11)])
          refine g_bastoreB (i := o) X65 C A_b11 ho (by omega) ga_b11 at_186 rfl (fun T70 h72 X71 A_b11 K73 => ?_)
          have hz74 := Nat.le_trans hz63 K73.1
          refine g_iload X71 C at_187 rfl rfl ?_
          refine g_iconst (v := 1) X71 C at_189 (by decide) rfl ?_
          refine g_icmp_le (a := 5) (b := 1) X71 C at_190 (by decide) (by decide) (by decide) (pT := 208) (by decide) (pF := 193) rfl (fun hc190 => absurd hc190 (by omega)) (fun hc190 => ?_)
          refine g_aload X71 C at_193 rfl rfl rfl ?_
          refine g_iload X71 C at_195 rfl rfl ?_
          refine g_iconst (v := 1) X71 C at_197 (by decide) rfl ?_
          refine g_iadd X71 C at_198 rfl ?_
          refine g_iload X71 C at_199 rfl rfl ?_
          refine g_iconst (v := 1) X71 C at_201 (by decide) rfl ?_
          refine g_iload X71 C at_202 rfl rfl ?_
          refine g_static (argsL := [(.int i5), (.int (1 : Int32)), (.int (5 : Int32))]) (rest := [(.int (i6 + (1 : Int32))), (.ref b11)]) (W := 2) X71 C (rmG l Z a0 hw i5 (1 : Int32) (5 : Int32) h72 n0 hz74 []) (hw _ (List.mem_of_getElem? (i := 2) rfl)) (hw _ (List.mem_of_getElem? (i := 3) rfl)) (hw _ (List.mem_of_getElem? (i := 4) rfl)) (hw _ (List.mem_of_getElem? (i := 5) rfl)) (by decide) pd_0 rfl rfl rfl rfl rfl (by decide) (by decide) (by decide) (by decide) at_204 rfl (fun r78 T75 h77 hQ79 X76 => ?_)
          obtain ⟨rfl, hh⟩ := hQ79; rw [hh] at X76
          obtain ⟨i80, h_i80⟩ : ∃ z, z = own_grp i5 (1 : Int32) (5 : Int32) := ⟨_, rfl⟩
          rw [← h_i80]
          have hb1 : i80.toInt = (i5.toInt / 128) % 128 - 128 := by
            have g1 := own_tk i5 1 7 128 (by decide) (by decide) (by decide) hc0.1
            have g2 := own_hi (own_t i5 1) (by omega) (by omega)
            rw [h_i80, own_grp, if_pos (by decide), g2]; omega
          have hn_i80 : nar .byte i80 = i80 := by rw [h_i80, own_grp, if_pos (by decide)]; exact own_narb _
          show Go p e below RS T75 (mkF m 207 #[.val (.int p1), .val (.int p2), .val (.long q3), .second, .val (.int i5), .val (.int i6), .val (.ref b11), .val (.int (5 : Int32))] [(.int i80), (.int (i6 + (1 : Int32))), (.ref b11)])
          refine g_bastoreB (i := (o + 1)) X76 C A_b11 (addn ho (by decide) (by omega)) (by omega) ga_b11 at_207 rfl (fun T81 h83 X82 A_b11 K84 => ?_)
          have hz85 := Nat.le_trans hz74 K84.1
          refine g_iload X82 C at_208 rfl rfl ?_
          refine g_iconst (v := 2) X82 C at_210 (by decide) rfl ?_
          refine g_icmp_le (a := 5) (b := 2) X82 C at_211 (by decide) (by decide) (by decide) (pT := 229) (by decide) (pF := 214) rfl (fun hc211 => absurd hc211 (by omega)) (fun hc211 => ?_)
          refine g_aload X82 C at_214 rfl rfl rfl ?_
          refine g_iload X82 C at_216 rfl rfl ?_
          refine g_iconst (v := 2) X82 C at_218 (by decide) rfl ?_
          refine g_iadd X82 C at_219 rfl ?_
          refine g_iload X82 C at_220 rfl rfl ?_
          refine g_iconst (v := 2) X82 C at_222 (by decide) rfl ?_
          refine g_iload X82 C at_223 rfl rfl ?_
          refine g_static (argsL := [(.int i5), (.int (2 : Int32)), (.int (5 : Int32))]) (rest := [(.int (i6 + (2 : Int32))), (.ref b11)]) (W := 2) X82 C (rmG l Z a0 hw i5 (2 : Int32) (5 : Int32) h83 n0 hz85 []) (hw _ (List.mem_of_getElem? (i := 2) rfl)) (hw _ (List.mem_of_getElem? (i := 3) rfl)) (hw _ (List.mem_of_getElem? (i := 4) rfl)) (hw _ (List.mem_of_getElem? (i := 5) rfl)) (by decide) pd_0 rfl rfl rfl rfl rfl (by decide) (by decide) (by decide) (by decide) at_225 rfl (fun r89 T86 h88 hQ90 X87 => ?_)
          obtain ⟨rfl, hh⟩ := hQ90; rw [hh] at X87
          obtain ⟨i91, h_i91⟩ : ∃ z, z = own_grp i5 (2 : Int32) (5 : Int32) := ⟨_, rfl⟩
          rw [← h_i91]
          have hb2 : i91.toInt = (i5.toInt / 16384) % 128 - 128 := by
            have g1 := own_tk i5 2 14 16384 (by decide) (by decide) (by decide) hc0.1
            have g2 := own_hi (own_t i5 2) (by omega) (by omega)
            rw [h_i91, own_grp, if_pos (by decide), g2]; omega
          have hn_i91 : nar .byte i91 = i91 := by rw [h_i91, own_grp, if_pos (by decide)]; exact own_narb _
          show Go p e below RS T86 (mkF m 228 #[.val (.int p1), .val (.int p2), .val (.long q3), .second, .val (.int i5), .val (.int i6), .val (.ref b11), .val (.int (5 : Int32))] [(.int i91), (.int (i6 + (2 : Int32))), (.ref b11)])
          refine g_bastoreB (i := (o + 2)) X87 C A_b11 (addn ho (by decide) (by omega)) (by omega) ga_b11 at_228 rfl (fun T92 h94 X93 A_b11 K95 => ?_)
          have hz96 := Nat.le_trans hz85 K95.1
          refine g_iload X93 C at_229 rfl rfl ?_
          refine g_iconst (v := 3) X93 C at_231 (by decide) rfl ?_
          refine g_icmp_le (a := 5) (b := 3) X93 C at_232 (by decide) (by decide) (by decide) (pT := 250) (by decide) (pF := 235) rfl (fun hc232 => absurd hc232 (by omega)) (fun hc232 => ?_)
          refine g_aload X93 C at_235 rfl rfl rfl ?_
          refine g_iload X93 C at_237 rfl rfl ?_
          refine g_iconst (v := 3) X93 C at_239 (by decide) rfl ?_
          refine g_iadd X93 C at_240 rfl ?_
          refine g_iload X93 C at_241 rfl rfl ?_
          refine g_iconst (v := 3) X93 C at_243 (by decide) rfl ?_
          refine g_iload X93 C at_244 rfl rfl ?_
          refine g_static (argsL := [(.int i5), (.int (3 : Int32)), (.int (5 : Int32))]) (rest := [(.int (i6 + (3 : Int32))), (.ref b11)]) (W := 2) X93 C (rmG l Z a0 hw i5 (3 : Int32) (5 : Int32) h94 n0 hz96 []) (hw _ (List.mem_of_getElem? (i := 2) rfl)) (hw _ (List.mem_of_getElem? (i := 3) rfl)) (hw _ (List.mem_of_getElem? (i := 4) rfl)) (hw _ (List.mem_of_getElem? (i := 5) rfl)) (by decide) pd_0 rfl rfl rfl rfl rfl (by decide) (by decide) (by decide) (by decide) at_246 rfl (fun r100 T97 h99 hQ101 X98 => ?_)
          obtain ⟨rfl, hh⟩ := hQ101; rw [hh] at X98
          obtain ⟨i102, h_i102⟩ : ∃ z, z = own_grp i5 (3 : Int32) (5 : Int32) := ⟨_, rfl⟩
          rw [← h_i102]
          have hb3 : i102.toInt = (i5.toInt / 2097152) % 128 - 128 := by
            have g1 := own_tk i5 3 21 2097152 (by decide) (by decide) (by decide) hc0.1
            have g2 := own_hi (own_t i5 3) (by omega) (by omega)
            rw [h_i102, own_grp, if_pos (by decide), g2]; omega
          have hn_i102 : nar .byte i102 = i102 := by rw [h_i102, own_grp, if_pos (by decide)]; exact own_narb _
          show Go p e below RS T97 (mkF m 249 #[.val (.int p1), .val (.int p2), .val (.long q3), .second, .val (.int i5), .val (.int i6), .val (.ref b11), .val (.int (5 : Int32))] [(.int i102), (.int (i6 + (3 : Int32))), (.ref b11)])
          refine g_bastoreB (i := (o + 3)) X98 C A_b11 (addn ho (by decide) (by omega)) (by omega) ga_b11 at_249 rfl (fun T103 h105 X104 A_b11 K106 => ?_)
          have hz107 := Nat.le_trans hz96 K106.1
          refine g_iload X104 C at_250 rfl rfl ?_
          refine g_iconst (v := 4) X104 C at_252 (by decide) rfl ?_
          refine g_icmp_le (a := 5) (b := 4) X104 C at_253 (by decide) (by decide) (by decide) (pT := 271) (by decide) (pF := 256) rfl (fun hc253 => absurd hc253 (by omega)) (fun hc253 => ?_)
          refine g_aload X104 C at_256 rfl rfl rfl ?_
          refine g_iload X104 C at_258 rfl rfl ?_
          refine g_iconst (v := 4) X104 C at_260 (by decide) rfl ?_
          refine g_iadd X104 C at_261 rfl ?_
          refine g_iload X104 C at_262 rfl rfl ?_
          refine g_iconst (v := 4) X104 C at_264 (by decide) rfl ?_
          refine g_iload X104 C at_265 rfl rfl ?_
          refine g_static (argsL := [(.int i5), (.int (4 : Int32)), (.int (5 : Int32))]) (rest := [(.int (i6 + (4 : Int32))), (.ref b11)]) (W := 2) X104 C (rmG l Z a0 hw i5 (4 : Int32) (5 : Int32) h105 n0 hz107 []) (hw _ (List.mem_of_getElem? (i := 2) rfl)) (hw _ (List.mem_of_getElem? (i := 3) rfl)) (hw _ (List.mem_of_getElem? (i := 4) rfl)) (hw _ (List.mem_of_getElem? (i := 5) rfl)) (by decide) pd_0 rfl rfl rfl rfl rfl (by decide) (by decide) (by decide) (by decide) at_267 rfl (fun r111 T108 h110 hQ112 X109 => ?_)
          obtain ⟨rfl, hh⟩ := hQ112; rw [hh] at X109
          obtain ⟨i113, h_i113⟩ : ∃ z, z = own_grp i5 (4 : Int32) (5 : Int32) := ⟨_, rfl⟩
          rw [← h_i113]
          have hb4 : i113.toInt = (i5.toInt / 268435456) % 128 := by
            have g1 := own_tk i5 4 28 268435456 (by decide) (by decide) (by decide) hc0.1
            have g2 := own_lo (own_t i5 4) (by omega) (by omega)
            rw [h_i113, own_grp, if_neg (by decide), g2]; omega
          have hn_i113 : nar .byte i113 = i113 := by rw [h_i113, own_grp, if_neg (by decide)]; exact own_narb _
          show Go p e below RS T108 (mkF m 270 #[.val (.int p1), .val (.int p2), .val (.long q3), .second, .val (.int i5), .val (.int i6), .val (.ref b11), .val (.int (5 : Int32))] [(.int i113), (.int (i6 + (4 : Int32))), (.ref b11)])
          refine g_bastoreB (i := (o + 4)) X109 C A_b11 (addn ho (by decide) (by omega)) (by omega) ga_b11 at_270 rfl (fun T114 h116 X115 A_b11 K117 => ?_)
          have hz118 := Nat.le_trans hz107 K117.1
          refine g_aload X115 C at_271 rfl rfl rfl ?_
          refine g_iload X115 C at_273 rfl rfl ?_
          obtain ⟨gf, h_gf⟩ : ∃ g : Nat → Int32, g = (fun k => if k = (o + 4) then (nar .byte i113) else (fun k => if k = (o + 3) then (nar .byte i102) else (fun k => if k = (o + 2) then (nar .byte i91) else (fun k => if k = (o + 1) then (nar .byte i80) else (fun k => if k = o then (nar .byte i69) else gj k) k) k) k) k) := ⟨_, rfl⟩
          have A_b11 : Ar Z h116 b11 .byte 10 (fun k => .int (gf k)) := by rw [h_gf]; exact A_b11
          have hg0 : gf (o + 0) = i69 := by rw [h_gf]; simp [hn_i69]
          have hg1 : gf (o + 1) = i80 := by rw [h_gf]; simp [hn_i80]
          have hg2 : gf (o + 2) = i91 := by rw [h_gf]; simp [hn_i91]
          have hg3 : gf (o + 3) = i102 := by rw [h_gf]; simp [hn_i102]
          have hg4 : gf (o + 4) = i113 := by rw [h_gf]; simp [hn_i113]
          have hneg : ∀ j, j < 4 → (gf (o + j)).toInt < 0 := by
            intro j hj; have hq : j = 0 ∨ j = 1 ∨ j = 2 ∨ j = 3 := by omega
            rcases hq with rfl | rfl | rfl | rfl
            · rw [hg0]; omega
            · rw [hg1]; omega
            · rw [hg2]; omega
            · rw [hg3]; omega
          have hpos : 0 ≤ (gf (o + 4)).toInt := by rw [hg4]; omega
          have hr0 : own_rd gf o 0 = 0 := rfl
          have hi0 : (own_rd gf o 0).toInt = 0 := by rw [hr0]; decide
          have hi1 : (own_rd gf o 1).toInt = i5.toInt % 128 := by
            have g1 := own_rdS (own_rd gf o 0) (gf (o + 0)) (own_s 0) 0 1 (by decide) (by decide) (by decide) (by omega) (by omega) (by rw [hg0]; omega) (by decide)
            rw [hg0] at g1; show (own_rd gf o 0 ||| ((gf (o + 0) &&& 127) <<< (own_s 0 &&& 31))).toInt = _; rw [hg0, g1]; omega
          have hi2 : (own_rd gf o 2).toInt = i5.toInt % 16384 := by
            have g1 := own_rdS (own_rd gf o 1) (gf (o + 1)) (own_s 1) 7 128 (by decide) (by decide) (by decide) (by omega) (by omega) (by rw [hg1]; omega) (by decide)
            rw [hg1] at g1; show (own_rd gf o 1 ||| ((gf (o + 1) &&& 127) <<< (own_s 1 &&& 31))).toInt = _; rw [hg1, g1]; omega
          have hi3 : (own_rd gf o 3).toInt = i5.toInt % 2097152 := by
            have g1 := own_rdS (own_rd gf o 2) (gf (o + 2)) (own_s 2) 14 16384 (by decide) (by decide) (by decide) (by omega) (by omega) (by rw [hg2]; omega) (by decide)
            rw [hg2] at g1; show (own_rd gf o 2 ||| ((gf (o + 2) &&& 127) <<< (own_s 2 &&& 31))).toInt = _; rw [hg2, g1]; omega
          have hi4 : (own_rd gf o 4).toInt = i5.toInt % 268435456 := by
            have g1 := own_rdS (own_rd gf o 3) (gf (o + 3)) (own_s 3) 21 2097152 (by decide) (by decide) (by decide) (by omega) (by omega) (by rw [hg3]; omega) (by decide)
            rw [hg3] at g1; show (own_rd gf o 3 ||| ((gf (o + 3) &&& 127) <<< (own_s 3 &&& 31))).toInt = _; rw [hg3, g1]; omega
          have hi5 : (own_rd gf o 5).toInt = i5.toInt % 4294967296 := by
            have g1 := own_rdS (own_rd gf o 4) (gf (o + 4)) (own_s 4) 28 268435456 (by decide) (by decide) (by decide) (by omega) (by omega) (by rw [hg4]; omega) (by decide)
            rw [hg4] at g1; show (own_rd gf o 4 ||| ((gf (o + 4) &&& 127) <<< (own_s 4 &&& 31))).toInt = _; rw [hg4, g1]; omega
          have hsame : own_rd gf o 5 = i5 := Int32.toInt_inj.mp (by rw [hi5]; omega)
          refine g_static (argsL := [(.ref b11), (.int i6)]) (rest := []) (W := 0) X115 C (rmR l Z a0 hw b11 i6 gf o 4 h116 n0 hz118 ho (by omega) hneg hpos A_b11 []) (hw _ (List.mem_of_getElem? (i := 6) rfl)) (hw _ (List.mem_of_getElem? (i := 7) rfl)) (hw _ (List.mem_of_getElem? (i := 8) rfl)) (hw _ (List.mem_of_getElem? (i := 9) rfl)) (by decide) pd_1 rfl rfl rfl rfl rfl (by decide) (by decide) (by decide) (by decide) at_275 rfl (fun r122 T119 h121 hQ123 X120 => ?_)
          obtain ⟨rfl, hh⟩ := hQ123; rw [hh] at X120
          rw [show own_rd gf o (4 + 1) = i5 from hsame]
          show Go p e below RS T119 (mkF m 278 #[.val (.int p1), .val (.int p2), .val (.long q3), .second, .val (.int i5), .val (.int i6), .val (.ref b11), .val (.int (5 : Int32))] [(.int i5)])
          refine g_iload X120 C at_278 rfl rfl ?_
          refine g_icmp_ne (a := i5.toInt) (b := i5.toInt) X120 C at_280 rfl rfl (by decide) (pT := 287) (by decide) (pF := 283) rfl (fun hc280 => absurd hc280 (fun q => q rfl)) (fun hc280 => ?_)
          refine g_iconst (v := 1) X120 C at_283 (by decide) rfl ?_
          refine g_goto (pc' := 288) X120 C at_284 (by decide) (by decide) ?_
          rw [hRS]
          refine g_retZ X120 C at_288 ?_ (by decide) (by decide)
          exact rfl
        ·
          refine g_iconst (v := 4) X60 C at_165 (by decide) rfl ?_
          refine g_istore (L' := #[.val (.int p1), .val (.int p2), .val (.long q3), .second, .val (.int i5), .val (.int i6), .val (.ref b11), .val (.int (4 : Int32))]) X60 C at_166 rfl rfl rfl ?_
          refine g_goto (pc' := 174) X60 C at_168 (by decide) (by decide) ?_
          refine g_aload X60 C at_174 rfl rfl rfl ?_
          refine g_iload X60 C at_176 rfl rfl ?_
          refine g_iload X60 C at_178 rfl rfl ?_
          refine g_iconst (v := 0) X60 C at_180 (by decide) rfl ?_
          refine g_iload X60 C at_181 rfl rfl ?_
          refine g_static (argsL := [(.int i5), (.int (0 : Int32)), (.int (4 : Int32))]) (rest := [(.int i6), (.ref b11)]) (W := 2) X60 C (rmG l Z a0 hw i5 (0 : Int32) (4 : Int32) h61 n0 hz63 []) (hw _ (List.mem_of_getElem? (i := 2) rfl)) (hw _ (List.mem_of_getElem? (i := 3) rfl)) (hw _ (List.mem_of_getElem? (i := 4) rfl)) (hw _ (List.mem_of_getElem? (i := 5) rfl)) (by decide) pd_0 rfl rfl rfl rfl rfl (by decide) (by decide) (by decide) (by decide) at_183 rfl (fun r127 T124 h126 hQ128 X125 => ?_)
          obtain ⟨rfl, hh⟩ := hQ128; rw [hh] at X125
          obtain ⟨i129, h_i129⟩ : ∃ z, z = own_grp i5 (0 : Int32) (4 : Int32) := ⟨_, rfl⟩
          rw [← h_i129]
          have hb0 : i129.toInt = (i5.toInt / 1) % 128 - 128 := by
            have g1 := own_t0 i5 hc0.1
            have g2 := own_hi (own_t i5 0) (by omega) (by omega)
            rw [h_i129, own_grp, if_pos (by decide), g2]; omega
          have hn_i129 : nar .byte i129 = i129 := by rw [h_i129, own_grp, if_pos (by decide)]; exact own_narb _
          show Go p e below RS T124 (mkF m 186 #[.val (.int p1), .val (.int p2), .val (.long q3), .second, .val (.int i5), .val (.int i6), .val (.ref b11), .val (.int (4 : Int32))] [(.int i129), (.int i6), (.ref b11)])
          refine g_bastoreB (i := o) X125 C A_b11 ho (by omega) ga_b11 at_186 rfl (fun T130 h132 X131 A_b11 K133 => ?_)
          have hz134 := Nat.le_trans hz63 K133.1
          refine g_iload X131 C at_187 rfl rfl ?_
          refine g_iconst (v := 1) X131 C at_189 (by decide) rfl ?_
          refine g_icmp_le (a := 4) (b := 1) X131 C at_190 (by decide) (by decide) (by decide) (pT := 208) (by decide) (pF := 193) rfl (fun hc190 => absurd hc190 (by omega)) (fun hc190 => ?_)
          refine g_aload X131 C at_193 rfl rfl rfl ?_
          refine g_iload X131 C at_195 rfl rfl ?_
          refine g_iconst (v := 1) X131 C at_197 (by decide) rfl ?_
          refine g_iadd X131 C at_198 rfl ?_
          refine g_iload X131 C at_199 rfl rfl ?_
          refine g_iconst (v := 1) X131 C at_201 (by decide) rfl ?_
          refine g_iload X131 C at_202 rfl rfl ?_
          refine g_static (argsL := [(.int i5), (.int (1 : Int32)), (.int (4 : Int32))]) (rest := [(.int (i6 + (1 : Int32))), (.ref b11)]) (W := 2) X131 C (rmG l Z a0 hw i5 (1 : Int32) (4 : Int32) h132 n0 hz134 []) (hw _ (List.mem_of_getElem? (i := 2) rfl)) (hw _ (List.mem_of_getElem? (i := 3) rfl)) (hw _ (List.mem_of_getElem? (i := 4) rfl)) (hw _ (List.mem_of_getElem? (i := 5) rfl)) (by decide) pd_0 rfl rfl rfl rfl rfl (by decide) (by decide) (by decide) (by decide) at_204 rfl (fun r138 T135 h137 hQ139 X136 => ?_)
          obtain ⟨rfl, hh⟩ := hQ139; rw [hh] at X136
          obtain ⟨i140, h_i140⟩ : ∃ z, z = own_grp i5 (1 : Int32) (4 : Int32) := ⟨_, rfl⟩
          rw [← h_i140]
          have hb1 : i140.toInt = (i5.toInt / 128) % 128 - 128 := by
            have g1 := own_tk i5 1 7 128 (by decide) (by decide) (by decide) hc0.1
            have g2 := own_hi (own_t i5 1) (by omega) (by omega)
            rw [h_i140, own_grp, if_pos (by decide), g2]; omega
          have hn_i140 : nar .byte i140 = i140 := by rw [h_i140, own_grp, if_pos (by decide)]; exact own_narb _
          show Go p e below RS T135 (mkF m 207 #[.val (.int p1), .val (.int p2), .val (.long q3), .second, .val (.int i5), .val (.int i6), .val (.ref b11), .val (.int (4 : Int32))] [(.int i140), (.int (i6 + (1 : Int32))), (.ref b11)])
          refine g_bastoreB (i := (o + 1)) X136 C A_b11 (addn ho (by decide) (by omega)) (by omega) ga_b11 at_207 rfl (fun T141 h143 X142 A_b11 K144 => ?_)
          have hz145 := Nat.le_trans hz134 K144.1
          refine g_iload X142 C at_208 rfl rfl ?_
          refine g_iconst (v := 2) X142 C at_210 (by decide) rfl ?_
          refine g_icmp_le (a := 4) (b := 2) X142 C at_211 (by decide) (by decide) (by decide) (pT := 229) (by decide) (pF := 214) rfl (fun hc211 => absurd hc211 (by omega)) (fun hc211 => ?_)
          refine g_aload X142 C at_214 rfl rfl rfl ?_
          refine g_iload X142 C at_216 rfl rfl ?_
          refine g_iconst (v := 2) X142 C at_218 (by decide) rfl ?_
          refine g_iadd X142 C at_219 rfl ?_
          refine g_iload X142 C at_220 rfl rfl ?_
          refine g_iconst (v := 2) X142 C at_222 (by decide) rfl ?_
          refine g_iload X142 C at_223 rfl rfl ?_
          refine g_static (argsL := [(.int i5), (.int (2 : Int32)), (.int (4 : Int32))]) (rest := [(.int (i6 + (2 : Int32))), (.ref b11)]) (W := 2) X142 C (rmG l Z a0 hw i5 (2 : Int32) (4 : Int32) h143 n0 hz145 []) (hw _ (List.mem_of_getElem? (i := 2) rfl)) (hw _ (List.mem_of_getElem? (i := 3) rfl)) (hw _ (List.mem_of_getElem? (i := 4) rfl)) (hw _ (List.mem_of_getElem? (i := 5) rfl)) (by decide) pd_0 rfl rfl rfl rfl rfl (by decide) (by decide) (by decide) (by decide) at_225 rfl (fun r149 T146 h148 hQ150 X147 => ?_)
          obtain ⟨rfl, hh⟩ := hQ150; rw [hh] at X147
          obtain ⟨i151, h_i151⟩ : ∃ z, z = own_grp i5 (2 : Int32) (4 : Int32) := ⟨_, rfl⟩
          rw [← h_i151]
          have hb2 : i151.toInt = (i5.toInt / 16384) % 128 - 128 := by
            have g1 := own_tk i5 2 14 16384 (by decide) (by decide) (by decide) hc0.1
            have g2 := own_hi (own_t i5 2) (by omega) (by omega)
            rw [h_i151, own_grp, if_pos (by decide), g2]; omega
          have hn_i151 : nar .byte i151 = i151 := by rw [h_i151, own_grp, if_pos (by decide)]; exact own_narb _
          show Go p e below RS T146 (mkF m 228 #[.val (.int p1), .val (.int p2), .val (.long q3), .second, .val (.int i5), .val (.int i6), .val (.ref b11), .val (.int (4 : Int32))] [(.int i151), (.int (i6 + (2 : Int32))), (.ref b11)])
          refine g_bastoreB (i := (o + 2)) X147 C A_b11 (addn ho (by decide) (by omega)) (by omega) ga_b11 at_228 rfl (fun T152 h154 X153 A_b11 K155 => ?_)
          have hz156 := Nat.le_trans hz145 K155.1
          refine g_iload X153 C at_229 rfl rfl ?_
          refine g_iconst (v := 3) X153 C at_231 (by decide) rfl ?_
          refine g_icmp_le (a := 4) (b := 3) X153 C at_232 (by decide) (by decide) (by decide) (pT := 250) (by decide) (pF := 235) rfl (fun hc232 => absurd hc232 (by omega)) (fun hc232 => ?_)
          refine g_aload X153 C at_235 rfl rfl rfl ?_
          refine g_iload X153 C at_237 rfl rfl ?_
          refine g_iconst (v := 3) X153 C at_239 (by decide) rfl ?_
          refine g_iadd X153 C at_240 rfl ?_
          refine g_iload X153 C at_241 rfl rfl ?_
          refine g_iconst (v := 3) X153 C at_243 (by decide) rfl ?_
          refine g_iload X153 C at_244 rfl rfl ?_
          refine g_static (argsL := [(.int i5), (.int (3 : Int32)), (.int (4 : Int32))]) (rest := [(.int (i6 + (3 : Int32))), (.ref b11)]) (W := 2) X153 C (rmG l Z a0 hw i5 (3 : Int32) (4 : Int32) h154 n0 hz156 []) (hw _ (List.mem_of_getElem? (i := 2) rfl)) (hw _ (List.mem_of_getElem? (i := 3) rfl)) (hw _ (List.mem_of_getElem? (i := 4) rfl)) (hw _ (List.mem_of_getElem? (i := 5) rfl)) (by decide) pd_0 rfl rfl rfl rfl rfl (by decide) (by decide) (by decide) (by decide) at_246 rfl (fun r160 T157 h159 hQ161 X158 => ?_)
          obtain ⟨rfl, hh⟩ := hQ161; rw [hh] at X158
          obtain ⟨i162, h_i162⟩ : ∃ z, z = own_grp i5 (3 : Int32) (4 : Int32) := ⟨_, rfl⟩
          rw [← h_i162]
          have hb3 : i162.toInt = (i5.toInt / 2097152) % 128 := by
            have g1 := own_tk i5 3 21 2097152 (by decide) (by decide) (by decide) hc0.1
            have g2 := own_lo (own_t i5 3) (by omega) (by omega)
            rw [h_i162, own_grp, if_neg (by decide), g2]; omega
          have hn_i162 : nar .byte i162 = i162 := by rw [h_i162, own_grp, if_neg (by decide)]; exact own_narb _
          show Go p e below RS T157 (mkF m 249 #[.val (.int p1), .val (.int p2), .val (.long q3), .second, .val (.int i5), .val (.int i6), .val (.ref b11), .val (.int (4 : Int32))] [(.int i162), (.int (i6 + (3 : Int32))), (.ref b11)])
          refine g_bastoreB (i := (o + 3)) X158 C A_b11 (addn ho (by decide) (by omega)) (by omega) ga_b11 at_249 rfl (fun T163 h165 X164 A_b11 K166 => ?_)
          have hz167 := Nat.le_trans hz156 K166.1
          refine g_iload X164 C at_250 rfl rfl ?_
          refine g_iconst (v := 4) X164 C at_252 (by decide) rfl ?_
          refine g_icmp_le (a := 4) (b := 4) X164 C at_253 (by decide) (by decide) (by decide) (pT := 271) (by decide) (pF := 256) rfl (fun hc253 => ?_) (fun hc253 => absurd hc253 (by omega))
          refine g_aload X164 C at_271 rfl rfl rfl ?_
          refine g_iload X164 C at_273 rfl rfl ?_
          obtain ⟨gf, h_gf⟩ : ∃ g : Nat → Int32, g = (fun k => if k = (o + 3) then (nar .byte i162) else (fun k => if k = (o + 2) then (nar .byte i151) else (fun k => if k = (o + 1) then (nar .byte i140) else (fun k => if k = o then (nar .byte i129) else gj k) k) k) k) := ⟨_, rfl⟩
          have A_b11 : Ar Z h165 b11 .byte 10 (fun k => .int (gf k)) := by rw [h_gf]; exact A_b11
          have hg0 : gf (o + 0) = i129 := by rw [h_gf]; simp [hn_i129]
          have hg1 : gf (o + 1) = i140 := by rw [h_gf]; simp [hn_i140]
          have hg2 : gf (o + 2) = i151 := by rw [h_gf]; simp [hn_i151]
          have hg3 : gf (o + 3) = i162 := by rw [h_gf]; simp [hn_i162]
          have hneg : ∀ j, j < 3 → (gf (o + j)).toInt < 0 := by
            intro j hj; have hq : j = 0 ∨ j = 1 ∨ j = 2 := by omega
            rcases hq with rfl | rfl | rfl
            · rw [hg0]; omega
            · rw [hg1]; omega
            · rw [hg2]; omega
          have hpos : 0 ≤ (gf (o + 3)).toInt := by rw [hg3]; omega
          have hr0 : own_rd gf o 0 = 0 := rfl
          have hi0 : (own_rd gf o 0).toInt = 0 := by rw [hr0]; decide
          have hi1 : (own_rd gf o 1).toInt = i5.toInt % 128 := by
            have g1 := own_rdS (own_rd gf o 0) (gf (o + 0)) (own_s 0) 0 1 (by decide) (by decide) (by decide) (by omega) (by omega) (by rw [hg0]; omega) (by decide)
            rw [hg0] at g1; show (own_rd gf o 0 ||| ((gf (o + 0) &&& 127) <<< (own_s 0 &&& 31))).toInt = _; rw [hg0, g1]; omega
          have hi2 : (own_rd gf o 2).toInt = i5.toInt % 16384 := by
            have g1 := own_rdS (own_rd gf o 1) (gf (o + 1)) (own_s 1) 7 128 (by decide) (by decide) (by decide) (by omega) (by omega) (by rw [hg1]; omega) (by decide)
            rw [hg1] at g1; show (own_rd gf o 1 ||| ((gf (o + 1) &&& 127) <<< (own_s 1 &&& 31))).toInt = _; rw [hg1, g1]; omega
          have hi3 : (own_rd gf o 3).toInt = i5.toInt % 2097152 := by
            have g1 := own_rdS (own_rd gf o 2) (gf (o + 2)) (own_s 2) 14 16384 (by decide) (by decide) (by decide) (by omega) (by omega) (by rw [hg2]; omega) (by decide)
            rw [hg2] at g1; show (own_rd gf o 2 ||| ((gf (o + 2) &&& 127) <<< (own_s 2 &&& 31))).toInt = _; rw [hg2, g1]; omega
          have hi4 : (own_rd gf o 4).toInt = i5.toInt % 268435456 := by
            have g1 := own_rdS (own_rd gf o 3) (gf (o + 3)) (own_s 3) 21 2097152 (by decide) (by decide) (by decide) (by omega) (by omega) (by rw [hg3]; omega) (by decide)
            rw [hg3] at g1; show (own_rd gf o 3 ||| ((gf (o + 3) &&& 127) <<< (own_s 3 &&& 31))).toInt = _; rw [hg3, g1]; omega
          have hsame : own_rd gf o 4 = i5 := Int32.toInt_inj.mp (by rw [hi4]; omega)
          refine g_static (argsL := [(.ref b11), (.int i6)]) (rest := []) (W := 0) X164 C (rmR l Z a0 hw b11 i6 gf o 3 h165 n0 hz167 ho (by omega) hneg hpos A_b11 []) (hw _ (List.mem_of_getElem? (i := 6) rfl)) (hw _ (List.mem_of_getElem? (i := 7) rfl)) (hw _ (List.mem_of_getElem? (i := 8) rfl)) (hw _ (List.mem_of_getElem? (i := 9) rfl)) (by decide) pd_1 rfl rfl rfl rfl rfl (by decide) (by decide) (by decide) (by decide) at_275 rfl (fun r171 T168 h170 hQ172 X169 => ?_)
          obtain ⟨rfl, hh⟩ := hQ172; rw [hh] at X169
          rw [show own_rd gf o (3 + 1) = i5 from hsame]
          show Go p e below RS T168 (mkF m 278 #[.val (.int p1), .val (.int p2), .val (.long q3), .second, .val (.int i5), .val (.int i6), .val (.ref b11), .val (.int (4 : Int32))] [(.int i5)])
          refine g_iload X169 C at_278 rfl rfl ?_
          refine g_icmp_ne (a := i5.toInt) (b := i5.toInt) X169 C at_280 rfl rfl (by decide) (pT := 287) (by decide) (pF := 283) rfl (fun hc280 => absurd hc280 (fun q => q rfl)) (fun hc280 => ?_)
          refine g_iconst (v := 1) X169 C at_283 (by decide) rfl ?_
          refine g_goto (pc' := 288) X169 C at_284 (by decide) (by decide) ?_
          rw [hRS]
          refine g_retZ X169 C at_288 ?_ (by decide) (by decide)
          exact rfl
      ·
        refine g_iconst (v := 3) X60 C at_152 (by decide) rfl ?_
        refine g_istore (L' := #[.val (.int p1), .val (.int p2), .val (.long q3), .second, .val (.int i5), .val (.int i6), .val (.ref b11), .val (.int (3 : Int32))]) X60 C at_153 rfl rfl rfl ?_
        refine g_goto (pc' := 174) X60 C at_155 (by decide) (by decide) ?_
        refine g_aload X60 C at_174 rfl rfl rfl ?_
        refine g_iload X60 C at_176 rfl rfl ?_
        refine g_iload X60 C at_178 rfl rfl ?_
        refine g_iconst (v := 0) X60 C at_180 (by decide) rfl ?_
        refine g_iload X60 C at_181 rfl rfl ?_
        refine g_static (argsL := [(.int i5), (.int (0 : Int32)), (.int (3 : Int32))]) (rest := [(.int i6), (.ref b11)]) (W := 2) X60 C (rmG l Z a0 hw i5 (0 : Int32) (3 : Int32) h61 n0 hz63 []) (hw _ (List.mem_of_getElem? (i := 2) rfl)) (hw _ (List.mem_of_getElem? (i := 3) rfl)) (hw _ (List.mem_of_getElem? (i := 4) rfl)) (hw _ (List.mem_of_getElem? (i := 5) rfl)) (by decide) pd_0 rfl rfl rfl rfl rfl (by decide) (by decide) (by decide) (by decide) at_183 rfl (fun r176 T173 h175 hQ177 X174 => ?_)
        obtain ⟨rfl, hh⟩ := hQ177; rw [hh] at X174
        obtain ⟨i178, h_i178⟩ : ∃ z, z = own_grp i5 (0 : Int32) (3 : Int32) := ⟨_, rfl⟩
        rw [← h_i178]
        have hb0 : i178.toInt = (i5.toInt / 1) % 128 - 128 := by
          have g1 := own_t0 i5 hc0.1
          have g2 := own_hi (own_t i5 0) (by omega) (by omega)
          rw [h_i178, own_grp, if_pos (by decide), g2]; omega
        have hn_i178 : nar .byte i178 = i178 := by rw [h_i178, own_grp, if_pos (by decide)]; exact own_narb _
        show Go p e below RS T173 (mkF m 186 #[.val (.int p1), .val (.int p2), .val (.long q3), .second, .val (.int i5), .val (.int i6), .val (.ref b11), .val (.int (3 : Int32))] [(.int i178), (.int i6), (.ref b11)])
        refine g_bastoreB (i := o) X174 C A_b11 ho (by omega) ga_b11 at_186 rfl (fun T179 h181 X180 A_b11 K182 => ?_)
        have hz183 := Nat.le_trans hz63 K182.1
        refine g_iload X180 C at_187 rfl rfl ?_
        refine g_iconst (v := 1) X180 C at_189 (by decide) rfl ?_
        refine g_icmp_le (a := 3) (b := 1) X180 C at_190 (by decide) (by decide) (by decide) (pT := 208) (by decide) (pF := 193) rfl (fun hc190 => absurd hc190 (by omega)) (fun hc190 => ?_)
        refine g_aload X180 C at_193 rfl rfl rfl ?_
        refine g_iload X180 C at_195 rfl rfl ?_
        refine g_iconst (v := 1) X180 C at_197 (by decide) rfl ?_
        refine g_iadd X180 C at_198 rfl ?_
        refine g_iload X180 C at_199 rfl rfl ?_
        refine g_iconst (v := 1) X180 C at_201 (by decide) rfl ?_
        refine g_iload X180 C at_202 rfl rfl ?_
        refine g_static (argsL := [(.int i5), (.int (1 : Int32)), (.int (3 : Int32))]) (rest := [(.int (i6 + (1 : Int32))), (.ref b11)]) (W := 2) X180 C (rmG l Z a0 hw i5 (1 : Int32) (3 : Int32) h181 n0 hz183 []) (hw _ (List.mem_of_getElem? (i := 2) rfl)) (hw _ (List.mem_of_getElem? (i := 3) rfl)) (hw _ (List.mem_of_getElem? (i := 4) rfl)) (hw _ (List.mem_of_getElem? (i := 5) rfl)) (by decide) pd_0 rfl rfl rfl rfl rfl (by decide) (by decide) (by decide) (by decide) at_204 rfl (fun r187 T184 h186 hQ188 X185 => ?_)
        obtain ⟨rfl, hh⟩ := hQ188; rw [hh] at X185
        obtain ⟨i189, h_i189⟩ : ∃ z, z = own_grp i5 (1 : Int32) (3 : Int32) := ⟨_, rfl⟩
        rw [← h_i189]
        have hb1 : i189.toInt = (i5.toInt / 128) % 128 - 128 := by
          have g1 := own_tk i5 1 7 128 (by decide) (by decide) (by decide) hc0.1
          have g2 := own_hi (own_t i5 1) (by omega) (by omega)
          rw [h_i189, own_grp, if_pos (by decide), g2]; omega
        have hn_i189 : nar .byte i189 = i189 := by rw [h_i189, own_grp, if_pos (by decide)]; exact own_narb _
        show Go p e below RS T184 (mkF m 207 #[.val (.int p1), .val (.int p2), .val (.long q3), .second, .val (.int i5), .val (.int i6), .val (.ref b11), .val (.int (3 : Int32))] [(.int i189), (.int (i6 + (1 : Int32))), (.ref b11)])
        refine g_bastoreB (i := (o + 1)) X185 C A_b11 (addn ho (by decide) (by omega)) (by omega) ga_b11 at_207 rfl (fun T190 h192 X191 A_b11 K193 => ?_)
        have hz194 := Nat.le_trans hz183 K193.1
        refine g_iload X191 C at_208 rfl rfl ?_
        refine g_iconst (v := 2) X191 C at_210 (by decide) rfl ?_
        refine g_icmp_le (a := 3) (b := 2) X191 C at_211 (by decide) (by decide) (by decide) (pT := 229) (by decide) (pF := 214) rfl (fun hc211 => absurd hc211 (by omega)) (fun hc211 => ?_)
        refine g_aload X191 C at_214 rfl rfl rfl ?_
        refine g_iload X191 C at_216 rfl rfl ?_
        refine g_iconst (v := 2) X191 C at_218 (by decide) rfl ?_
        refine g_iadd X191 C at_219 rfl ?_
        refine g_iload X191 C at_220 rfl rfl ?_
        refine g_iconst (v := 2) X191 C at_222 (by decide) rfl ?_
        refine g_iload X191 C at_223 rfl rfl ?_
        refine g_static (argsL := [(.int i5), (.int (2 : Int32)), (.int (3 : Int32))]) (rest := [(.int (i6 + (2 : Int32))), (.ref b11)]) (W := 2) X191 C (rmG l Z a0 hw i5 (2 : Int32) (3 : Int32) h192 n0 hz194 []) (hw _ (List.mem_of_getElem? (i := 2) rfl)) (hw _ (List.mem_of_getElem? (i := 3) rfl)) (hw _ (List.mem_of_getElem? (i := 4) rfl)) (hw _ (List.mem_of_getElem? (i := 5) rfl)) (by decide) pd_0 rfl rfl rfl rfl rfl (by decide) (by decide) (by decide) (by decide) at_225 rfl (fun r198 T195 h197 hQ199 X196 => ?_)
        obtain ⟨rfl, hh⟩ := hQ199; rw [hh] at X196
        obtain ⟨i200, h_i200⟩ : ∃ z, z = own_grp i5 (2 : Int32) (3 : Int32) := ⟨_, rfl⟩
        rw [← h_i200]
        have hb2 : i200.toInt = (i5.toInt / 16384) % 128 := by
          have g1 := own_tk i5 2 14 16384 (by decide) (by decide) (by decide) hc0.1
          have g2 := own_lo (own_t i5 2) (by omega) (by omega)
          rw [h_i200, own_grp, if_neg (by decide), g2]; omega
        have hn_i200 : nar .byte i200 = i200 := by rw [h_i200, own_grp, if_neg (by decide)]; exact own_narb _
        show Go p e below RS T195 (mkF m 228 #[.val (.int p1), .val (.int p2), .val (.long q3), .second, .val (.int i5), .val (.int i6), .val (.ref b11), .val (.int (3 : Int32))] [(.int i200), (.int (i6 + (2 : Int32))), (.ref b11)])
        refine g_bastoreB (i := (o + 2)) X196 C A_b11 (addn ho (by decide) (by omega)) (by omega) ga_b11 at_228 rfl (fun T201 h203 X202 A_b11 K204 => ?_)
        have hz205 := Nat.le_trans hz194 K204.1
        refine g_iload X202 C at_229 rfl rfl ?_
        refine g_iconst (v := 3) X202 C at_231 (by decide) rfl ?_
        refine g_icmp_le (a := 3) (b := 3) X202 C at_232 (by decide) (by decide) (by decide) (pT := 250) (by decide) (pF := 235) rfl (fun hc232 => ?_) (fun hc232 => absurd hc232 (by omega))
        refine g_iload X202 C at_250 rfl rfl ?_
        refine g_iconst (v := 4) X202 C at_252 (by decide) rfl ?_
        refine g_icmp_le (a := 3) (b := 4) X202 C at_253 (by decide) (by decide) (by decide) (pT := 271) (by decide) (pF := 256) rfl (fun hc253 => ?_) (fun hc253 => absurd hc253 (by omega))
        refine g_aload X202 C at_271 rfl rfl rfl ?_
        refine g_iload X202 C at_273 rfl rfl ?_
        obtain ⟨gf, h_gf⟩ : ∃ g : Nat → Int32, g = (fun k => if k = (o + 2) then (nar .byte i200) else (fun k => if k = (o + 1) then (nar .byte i189) else (fun k => if k = o then (nar .byte i178) else gj k) k) k) := ⟨_, rfl⟩
        have A_b11 : Ar Z h203 b11 .byte 10 (fun k => .int (gf k)) := by rw [h_gf]; exact A_b11
        have hg0 : gf (o + 0) = i178 := by rw [h_gf]; simp [hn_i178]
        have hg1 : gf (o + 1) = i189 := by rw [h_gf]; simp [hn_i189]
        have hg2 : gf (o + 2) = i200 := by rw [h_gf]; simp [hn_i200]
        have hneg : ∀ j, j < 2 → (gf (o + j)).toInt < 0 := by
          intro j hj; have hq : j = 0 ∨ j = 1 := by omega
          rcases hq with rfl | rfl
          · rw [hg0]; omega
          · rw [hg1]; omega
        have hpos : 0 ≤ (gf (o + 2)).toInt := by rw [hg2]; omega
        have hr0 : own_rd gf o 0 = 0 := rfl
        have hi0 : (own_rd gf o 0).toInt = 0 := by rw [hr0]; decide
        have hi1 : (own_rd gf o 1).toInt = i5.toInt % 128 := by
          have g1 := own_rdS (own_rd gf o 0) (gf (o + 0)) (own_s 0) 0 1 (by decide) (by decide) (by decide) (by omega) (by omega) (by rw [hg0]; omega) (by decide)
          rw [hg0] at g1; show (own_rd gf o 0 ||| ((gf (o + 0) &&& 127) <<< (own_s 0 &&& 31))).toInt = _; rw [hg0, g1]; omega
        have hi2 : (own_rd gf o 2).toInt = i5.toInt % 16384 := by
          have g1 := own_rdS (own_rd gf o 1) (gf (o + 1)) (own_s 1) 7 128 (by decide) (by decide) (by decide) (by omega) (by omega) (by rw [hg1]; omega) (by decide)
          rw [hg1] at g1; show (own_rd gf o 1 ||| ((gf (o + 1) &&& 127) <<< (own_s 1 &&& 31))).toInt = _; rw [hg1, g1]; omega
        have hi3 : (own_rd gf o 3).toInt = i5.toInt % 2097152 := by
          have g1 := own_rdS (own_rd gf o 2) (gf (o + 2)) (own_s 2) 14 16384 (by decide) (by decide) (by decide) (by omega) (by omega) (by rw [hg2]; omega) (by decide)
          rw [hg2] at g1; show (own_rd gf o 2 ||| ((gf (o + 2) &&& 127) <<< (own_s 2 &&& 31))).toInt = _; rw [hg2, g1]; omega
        have hsame : own_rd gf o 3 = i5 := Int32.toInt_inj.mp (by rw [hi3]; omega)
        refine g_static (argsL := [(.ref b11), (.int i6)]) (rest := []) (W := 0) X202 C (rmR l Z a0 hw b11 i6 gf o 2 h203 n0 hz205 ho (by omega) hneg hpos A_b11 []) (hw _ (List.mem_of_getElem? (i := 6) rfl)) (hw _ (List.mem_of_getElem? (i := 7) rfl)) (hw _ (List.mem_of_getElem? (i := 8) rfl)) (hw _ (List.mem_of_getElem? (i := 9) rfl)) (by decide) pd_1 rfl rfl rfl rfl rfl (by decide) (by decide) (by decide) (by decide) at_275 rfl (fun r209 T206 h208 hQ210 X207 => ?_)
        obtain ⟨rfl, hh⟩ := hQ210; rw [hh] at X207
        rw [show own_rd gf o (2 + 1) = i5 from hsame]
        show Go p e below RS T206 (mkF m 278 #[.val (.int p1), .val (.int p2), .val (.long q3), .second, .val (.int i5), .val (.int i6), .val (.ref b11), .val (.int (3 : Int32))] [(.int i5)])
        refine g_iload X207 C at_278 rfl rfl ?_
        refine g_icmp_ne (a := i5.toInt) (b := i5.toInt) X207 C at_280 rfl rfl (by decide) (pT := 287) (by decide) (pF := 283) rfl (fun hc280 => absurd hc280 (fun q => q rfl)) (fun hc280 => ?_)
        refine g_iconst (v := 1) X207 C at_283 (by decide) rfl ?_
        refine g_goto (pc' := 288) X207 C at_284 (by decide) (by decide) ?_
        rw [hRS]
        refine g_retZ X207 C at_288 ?_ (by decide) (by decide)
        exact rfl
    ·
      refine g_iconst (v := 2) X60 C at_139 (by decide) rfl ?_
      refine g_istore (L' := #[.val (.int p1), .val (.int p2), .val (.long q3), .second, .val (.int i5), .val (.int i6), .val (.ref b11), .val (.int (2 : Int32))]) X60 C at_140 rfl rfl rfl ?_
      refine g_goto (pc' := 174) X60 C at_142 (by decide) (by decide) ?_
      refine g_aload X60 C at_174 rfl rfl rfl ?_
      refine g_iload X60 C at_176 rfl rfl ?_
      refine g_iload X60 C at_178 rfl rfl ?_
      refine g_iconst (v := 0) X60 C at_180 (by decide) rfl ?_
      refine g_iload X60 C at_181 rfl rfl ?_
      refine g_static (argsL := [(.int i5), (.int (0 : Int32)), (.int (2 : Int32))]) (rest := [(.int i6), (.ref b11)]) (W := 2) X60 C (rmG l Z a0 hw i5 (0 : Int32) (2 : Int32) h61 n0 hz63 []) (hw _ (List.mem_of_getElem? (i := 2) rfl)) (hw _ (List.mem_of_getElem? (i := 3) rfl)) (hw _ (List.mem_of_getElem? (i := 4) rfl)) (hw _ (List.mem_of_getElem? (i := 5) rfl)) (by decide) pd_0 rfl rfl rfl rfl rfl (by decide) (by decide) (by decide) (by decide) at_183 rfl (fun r214 T211 h213 hQ215 X212 => ?_)
      obtain ⟨rfl, hh⟩ := hQ215; rw [hh] at X212
      obtain ⟨i216, h_i216⟩ : ∃ z, z = own_grp i5 (0 : Int32) (2 : Int32) := ⟨_, rfl⟩
      rw [← h_i216]
      have hb0 : i216.toInt = (i5.toInt / 1) % 128 - 128 := by
        have g1 := own_t0 i5 hc0.1
        have g2 := own_hi (own_t i5 0) (by omega) (by omega)
        rw [h_i216, own_grp, if_pos (by decide), g2]; omega
      have hn_i216 : nar .byte i216 = i216 := by rw [h_i216, own_grp, if_pos (by decide)]; exact own_narb _
      show Go p e below RS T211 (mkF m 186 #[.val (.int p1), .val (.int p2), .val (.long q3), .second, .val (.int i5), .val (.int i6), .val (.ref b11), .val (.int (2 : Int32))] [(.int i216), (.int i6), (.ref b11)])
      refine g_bastoreB (i := o) X212 C A_b11 ho (by omega) ga_b11 at_186 rfl (fun T217 h219 X218 A_b11 K220 => ?_)
      have hz221 := Nat.le_trans hz63 K220.1
      refine g_iload X218 C at_187 rfl rfl ?_
      refine g_iconst (v := 1) X218 C at_189 (by decide) rfl ?_
      refine g_icmp_le (a := 2) (b := 1) X218 C at_190 (by decide) (by decide) (by decide) (pT := 208) (by decide) (pF := 193) rfl (fun hc190 => absurd hc190 (by omega)) (fun hc190 => ?_)
      refine g_aload X218 C at_193 rfl rfl rfl ?_
      refine g_iload X218 C at_195 rfl rfl ?_
      refine g_iconst (v := 1) X218 C at_197 (by decide) rfl ?_
      refine g_iadd X218 C at_198 rfl ?_
      refine g_iload X218 C at_199 rfl rfl ?_
      refine g_iconst (v := 1) X218 C at_201 (by decide) rfl ?_
      refine g_iload X218 C at_202 rfl rfl ?_
      refine g_static (argsL := [(.int i5), (.int (1 : Int32)), (.int (2 : Int32))]) (rest := [(.int (i6 + (1 : Int32))), (.ref b11)]) (W := 2) X218 C (rmG l Z a0 hw i5 (1 : Int32) (2 : Int32) h219 n0 hz221 []) (hw _ (List.mem_of_getElem? (i := 2) rfl)) (hw _ (List.mem_of_getElem? (i := 3) rfl)) (hw _ (List.mem_of_getElem? (i := 4) rfl)) (hw _ (List.mem_of_getElem? (i := 5) rfl)) (by decide) pd_0 rfl rfl rfl rfl rfl (by decide) (by decide) (by decide) (by decide) at_204 rfl (fun r225 T222 h224 hQ226 X223 => ?_)
      obtain ⟨rfl, hh⟩ := hQ226; rw [hh] at X223
      obtain ⟨i227, h_i227⟩ : ∃ z, z = own_grp i5 (1 : Int32) (2 : Int32) := ⟨_, rfl⟩
      rw [← h_i227]
      have hb1 : i227.toInt = (i5.toInt / 128) % 128 := by
        have g1 := own_tk i5 1 7 128 (by decide) (by decide) (by decide) hc0.1
        have g2 := own_lo (own_t i5 1) (by omega) (by omega)
        rw [h_i227, own_grp, if_neg (by decide), g2]; omega
      have hn_i227 : nar .byte i227 = i227 := by rw [h_i227, own_grp, if_neg (by decide)]; exact own_narb _
      show Go p e below RS T222 (mkF m 207 #[.val (.int p1), .val (.int p2), .val (.long q3), .second, .val (.int i5), .val (.int i6), .val (.ref b11), .val (.int (2 : Int32))] [(.int i227), (.int (i6 + (1 : Int32))), (.ref b11)])
      refine g_bastoreB (i := (o + 1)) X223 C A_b11 (addn ho (by decide) (by omega)) (by omega) ga_b11 at_207 rfl (fun T228 h230 X229 A_b11 K231 => ?_)
      have hz232 := Nat.le_trans hz221 K231.1
      refine g_iload X229 C at_208 rfl rfl ?_
      refine g_iconst (v := 2) X229 C at_210 (by decide) rfl ?_
      refine g_icmp_le (a := 2) (b := 2) X229 C at_211 (by decide) (by decide) (by decide) (pT := 229) (by decide) (pF := 214) rfl (fun hc211 => ?_) (fun hc211 => absurd hc211 (by omega))
      refine g_iload X229 C at_229 rfl rfl ?_
      refine g_iconst (v := 3) X229 C at_231 (by decide) rfl ?_
      refine g_icmp_le (a := 2) (b := 3) X229 C at_232 (by decide) (by decide) (by decide) (pT := 250) (by decide) (pF := 235) rfl (fun hc232 => ?_) (fun hc232 => absurd hc232 (by omega))
      refine g_iload X229 C at_250 rfl rfl ?_
      refine g_iconst (v := 4) X229 C at_252 (by decide) rfl ?_
      refine g_icmp_le (a := 2) (b := 4) X229 C at_253 (by decide) (by decide) (by decide) (pT := 271) (by decide) (pF := 256) rfl (fun hc253 => ?_) (fun hc253 => absurd hc253 (by omega))
      refine g_aload X229 C at_271 rfl rfl rfl ?_
      refine g_iload X229 C at_273 rfl rfl ?_
      obtain ⟨gf, h_gf⟩ : ∃ g : Nat → Int32, g = (fun k => if k = (o + 1) then (nar .byte i227) else (fun k => if k = o then (nar .byte i216) else gj k) k) := ⟨_, rfl⟩
      have A_b11 : Ar Z h230 b11 .byte 10 (fun k => .int (gf k)) := by rw [h_gf]; exact A_b11
      have hg0 : gf (o + 0) = i216 := by rw [h_gf]; simp [hn_i216]
      have hg1 : gf (o + 1) = i227 := by rw [h_gf]; simp [hn_i227]
      have hneg : ∀ j, j < 1 → (gf (o + j)).toInt < 0 := by
        intro j hj; have hq : j = 0 := by omega
        rcases hq with rfl
        · rw [hg0]; omega
      have hpos : 0 ≤ (gf (o + 1)).toInt := by rw [hg1]; omega
      have hr0 : own_rd gf o 0 = 0 := rfl
      have hi0 : (own_rd gf o 0).toInt = 0 := by rw [hr0]; decide
      have hi1 : (own_rd gf o 1).toInt = i5.toInt % 128 := by
        have g1 := own_rdS (own_rd gf o 0) (gf (o + 0)) (own_s 0) 0 1 (by decide) (by decide) (by decide) (by omega) (by omega) (by rw [hg0]; omega) (by decide)
        rw [hg0] at g1; show (own_rd gf o 0 ||| ((gf (o + 0) &&& 127) <<< (own_s 0 &&& 31))).toInt = _; rw [hg0, g1]; omega
      have hi2 : (own_rd gf o 2).toInt = i5.toInt % 16384 := by
        have g1 := own_rdS (own_rd gf o 1) (gf (o + 1)) (own_s 1) 7 128 (by decide) (by decide) (by decide) (by omega) (by omega) (by rw [hg1]; omega) (by decide)
        rw [hg1] at g1; show (own_rd gf o 1 ||| ((gf (o + 1) &&& 127) <<< (own_s 1 &&& 31))).toInt = _; rw [hg1, g1]; omega
      have hsame : own_rd gf o 2 = i5 := Int32.toInt_inj.mp (by rw [hi2]; omega)
      refine g_static (argsL := [(.ref b11), (.int i6)]) (rest := []) (W := 0) X229 C (rmR l Z a0 hw b11 i6 gf o 1 h230 n0 hz232 ho (by omega) hneg hpos A_b11 []) (hw _ (List.mem_of_getElem? (i := 6) rfl)) (hw _ (List.mem_of_getElem? (i := 7) rfl)) (hw _ (List.mem_of_getElem? (i := 8) rfl)) (hw _ (List.mem_of_getElem? (i := 9) rfl)) (by decide) pd_1 rfl rfl rfl rfl rfl (by decide) (by decide) (by decide) (by decide) at_275 rfl (fun r236 T233 h235 hQ237 X234 => ?_)
      obtain ⟨rfl, hh⟩ := hQ237; rw [hh] at X234
      rw [show own_rd gf o (1 + 1) = i5 from hsame]
      show Go p e below RS T233 (mkF m 278 #[.val (.int p1), .val (.int p2), .val (.long q3), .second, .val (.int i5), .val (.int i6), .val (.ref b11), .val (.int (2 : Int32))] [(.int i5)])
      refine g_iload X234 C at_278 rfl rfl ?_
      refine g_icmp_ne (a := i5.toInt) (b := i5.toInt) X234 C at_280 rfl rfl (by decide) (pT := 287) (by decide) (pF := 283) rfl (fun hc280 => absurd hc280 (fun q => q rfl)) (fun hc280 => ?_)
      refine g_iconst (v := 1) X234 C at_283 (by decide) rfl ?_
      refine g_goto (pc' := 288) X234 C at_284 (by decide) (by decide) ?_
      rw [hRS]
      refine g_retZ X234 C at_288 ?_ (by decide) (by decide)
      exact rfl
  ·
    refine g_iconst (v := 1) X60 C at_125 (by decide) rfl ?_
    refine g_istore (L' := #[.val (.int p1), .val (.int p2), .val (.long q3), .second, .val (.int i5), .val (.int i6), .val (.ref b11), .val (.int (1 : Int32))]) X60 C at_126 rfl rfl rfl ?_
    refine g_goto (pc' := 174) X60 C at_128 (by decide) (by decide) ?_
    refine g_aload X60 C at_174 rfl rfl rfl ?_
    refine g_iload X60 C at_176 rfl rfl ?_
    refine g_iload X60 C at_178 rfl rfl ?_
    refine g_iconst (v := 0) X60 C at_180 (by decide) rfl ?_
    refine g_iload X60 C at_181 rfl rfl ?_
    refine g_static (argsL := [(.int i5), (.int (0 : Int32)), (.int (1 : Int32))]) (rest := [(.int i6), (.ref b11)]) (W := 2) X60 C (rmG l Z a0 hw i5 (0 : Int32) (1 : Int32) h61 n0 hz63 []) (hw _ (List.mem_of_getElem? (i := 2) rfl)) (hw _ (List.mem_of_getElem? (i := 3) rfl)) (hw _ (List.mem_of_getElem? (i := 4) rfl)) (hw _ (List.mem_of_getElem? (i := 5) rfl)) (by decide) pd_0 rfl rfl rfl rfl rfl (by decide) (by decide) (by decide) (by decide) at_183 rfl (fun r241 T238 h240 hQ242 X239 => ?_)
    obtain ⟨rfl, hh⟩ := hQ242; rw [hh] at X239
    obtain ⟨i243, h_i243⟩ : ∃ z, z = own_grp i5 (0 : Int32) (1 : Int32) := ⟨_, rfl⟩
    rw [← h_i243]
    have hb0 : i243.toInt = (i5.toInt / 1) % 128 := by
      have g1 := own_t0 i5 hc0.1
      have g2 := own_lo (own_t i5 0) (by omega) (by omega)
      rw [h_i243, own_grp, if_neg (by decide), g2]; omega
    have hn_i243 : nar .byte i243 = i243 := by rw [h_i243, own_grp, if_neg (by decide)]; exact own_narb _
    show Go p e below RS T238 (mkF m 186 #[.val (.int p1), .val (.int p2), .val (.long q3), .second, .val (.int i5), .val (.int i6), .val (.ref b11), .val (.int (1 : Int32))] [(.int i243), (.int i6), (.ref b11)])
    refine g_bastoreB (i := o) X239 C A_b11 ho (by omega) ga_b11 at_186 rfl (fun T244 h246 X245 A_b11 K247 => ?_)
    have hz248 := Nat.le_trans hz63 K247.1
    refine g_iload X245 C at_187 rfl rfl ?_
    refine g_iconst (v := 1) X245 C at_189 (by decide) rfl ?_
    refine g_icmp_le (a := 1) (b := 1) X245 C at_190 (by decide) (by decide) (by decide) (pT := 208) (by decide) (pF := 193) rfl (fun hc190 => ?_) (fun hc190 => absurd hc190 (by omega))
    refine g_iload X245 C at_208 rfl rfl ?_
    refine g_iconst (v := 2) X245 C at_210 (by decide) rfl ?_
    refine g_icmp_le (a := 1) (b := 2) X245 C at_211 (by decide) (by decide) (by decide) (pT := 229) (by decide) (pF := 214) rfl (fun hc211 => ?_) (fun hc211 => absurd hc211 (by omega))
    refine g_iload X245 C at_229 rfl rfl ?_
    refine g_iconst (v := 3) X245 C at_231 (by decide) rfl ?_
    refine g_icmp_le (a := 1) (b := 3) X245 C at_232 (by decide) (by decide) (by decide) (pT := 250) (by decide) (pF := 235) rfl (fun hc232 => ?_) (fun hc232 => absurd hc232 (by omega))
    refine g_iload X245 C at_250 rfl rfl ?_
    refine g_iconst (v := 4) X245 C at_252 (by decide) rfl ?_
    refine g_icmp_le (a := 1) (b := 4) X245 C at_253 (by decide) (by decide) (by decide) (pT := 271) (by decide) (pF := 256) rfl (fun hc253 => ?_) (fun hc253 => absurd hc253 (by omega))
    refine g_aload X245 C at_271 rfl rfl rfl ?_
    refine g_iload X245 C at_273 rfl rfl ?_
    obtain ⟨gf, h_gf⟩ : ∃ g : Nat → Int32, g = (fun k => if k = o then (nar .byte i243) else gj k) := ⟨_, rfl⟩
    have A_b11 : Ar Z h246 b11 .byte 10 (fun k => .int (gf k)) := by rw [h_gf]; exact A_b11
    have hg0 : gf (o + 0) = i243 := by rw [h_gf]; simp [hn_i243]
    have hneg : ∀ j, j < 0 → (gf (o + j)).toInt < 0 := by
      intro j hj; omega
    have hpos : 0 ≤ (gf (o + 0)).toInt := by rw [hg0]; omega
    have hr0 : own_rd gf o 0 = 0 := rfl
    have hi0 : (own_rd gf o 0).toInt = 0 := by rw [hr0]; decide
    have hi1 : (own_rd gf o 1).toInt = i5.toInt % 128 := by
      have g1 := own_rdS (own_rd gf o 0) (gf (o + 0)) (own_s 0) 0 1 (by decide) (by decide) (by decide) (by omega) (by omega) (by rw [hg0]; omega) (by decide)
      rw [hg0] at g1; show (own_rd gf o 0 ||| ((gf (o + 0) &&& 127) <<< (own_s 0 &&& 31))).toInt = _; rw [hg0, g1]; omega
    have hsame : own_rd gf o 1 = i5 := Int32.toInt_inj.mp (by rw [hi1]; omega)
    refine g_static (argsL := [(.ref b11), (.int i6)]) (rest := []) (W := 0) X245 C (rmR l Z a0 hw b11 i6 gf o 0 h246 n0 hz248 ho (by omega) hneg hpos A_b11 []) (hw _ (List.mem_of_getElem? (i := 6) rfl)) (hw _ (List.mem_of_getElem? (i := 7) rfl)) (hw _ (List.mem_of_getElem? (i := 8) rfl)) (hw _ (List.mem_of_getElem? (i := 9) rfl)) (by decide) pd_1 rfl rfl rfl rfl rfl (by decide) (by decide) (by decide) (by decide) at_275 rfl (fun r252 T249 h251 hQ253 X250 => ?_)
    obtain ⟨rfl, hh⟩ := hQ253; rw [hh] at X250
    rw [show own_rd gf o (0 + 1) = i5 from hsame]
    show Go p e below RS T249 (mkF m 278 #[.val (.int p1), .val (.int p2), .val (.long q3), .second, .val (.int i5), .val (.int i6), .val (.ref b11), .val (.int (1 : Int32))] [(.int i5)])
    refine g_iload X250 C at_278 rfl rfl ?_
    refine g_icmp_ne (a := i5.toInt) (b := i5.toInt) X250 C at_280 rfl rfl (by decide) (pT := 287) (by decide) (pF := 283) rfl (fun hc280 => absurd hc280 (fun q => q rfl)) (fun hc280 => ?_)
    refine g_iconst (v := 1) X250 C at_283 (by decide) rfl ?_
    refine g_goto (pc' := 288) X250 C at_284 (by decide) (by decide) ?_
    rw [hRS]
    refine g_retZ X250 C at_288 ?_ (by decide) (by decide)
    exact rfl
set_option maxRecDepth 65536 in
set_option maxHeartbeats 40000000 in
theorem comes_1 {Post : Tables → Env → Array Value → State → Outcome → State → Prop} (hpost : ∀ tb e args s v u, (limb_1_1.after args s (.returned v) u = true ∧ limb_1_2.after args s (.returned v) u = true ∧ True) → FrameEnd s (.returned v) u (Jvm.fieldLocs frame_1_writes args s ++ Jvm.arrayLocs frame_1_arrays args s ++ Jvm.staticLocs frame_1_statics s) 16 128 → Post tb e args s (.returned v) u) :
    ArmFor flags0 classFile x code maxLocals ret World_1 tables_1 room_1 Calls_1 rest_1 Pre_1 Post := by
  intro l hfl _ _ p e ha hc hk s m args below hf hA hF happ hP
  obtain ⟨hcalls, hrest, hpre⟩ := hP
  obtain ⟨-, -, -, hnamed, -, -, -, hat⟩ := (Spec.applies_iff hf).mp happ
  obtain ⟨hg, hn⟩ := and_e (Cond.before_iff.mp (show (Jvm.Cond.and given_1 narrow_1).before args s = true from hpre))
  obtain ⟨h1, h2⟩ := and_e hg
  obtain ⟨w0, w1, w2, rfl⟩ : ∃ w0 w1 w2 : Value, args = #[w0, w1, w2] := by
    have hs : args.size = 3 := by simpa [Cond.value, given_1] using h1
    obtain ⟨L⟩ := args
    match L, hs with
    | [w0, w1, w2], _ => exact ⟨w0, w1, w2, rfl⟩
  have hw := fun d (hd : d ∈ tables_1) => atoms_spec (ws := Jvm.Cond.code x code maxLocals ret :: tables_1) hat d (List.mem_cons_of_mem _ hd)
  obtain ⟨g0, r0⟩ := and_e h2
  obtain ⟨k0, e0⟩ := is_v g0
  obtain rfl : w0 = (.int k0) := Option.some.inj e0
  obtain ⟨g1, r1⟩ := and_e r0
  obtain ⟨k1, e1⟩ := is_v g1
  obtain rfl : w1 = (.int k1) := Option.some.inj e1
  obtain ⟨k2, e2⟩ := isL_v r1
  obtain rfl : w2 = (.long k2) := Option.some.inj e2
  obtain ⟨n, o, h1, h2, h3, _, L, rfl, ⟨rfl, N⟩, hq⟩ := rm0 l s _ hw k0 k1 k2 s.heap s.heap.size (Nat.le_refl _) tables_1 p e ha hc hk s m _ below hf ((Spec.applies_iff_loose hf).mp happ).1 ⟨rfl, State.Warmed39.refl s, rfl⟩ trivial
  refine ⟨n, _, h1, h2, h3, hpost _ _ _ _ _ _ ⟨Cond.after_iff.mpr rfl, Cond.after_iff.mpr (eq_i res_at (Term.int_eval (1)) rfl), trivial⟩ ⟨hq.1, hq.2.1, (hq.2.2.sift fun y hy => Or.inr (N y hy)).mono (by decide) (by decide)⟩⟩
theorem main_1_1 : Claimed_1_1 := comes_1 fun _ _ _ _ _ _ h hF => ⟨h.1, hF⟩
theorem main_1_2 : Claimed_1_2 := comes_1 fun _ _ _ _ _ _ h hF => ⟨h.2.1, hF⟩
end Jvm.Pilot.@@N@@
namespace Jvm.Pilot.@@N@@
open Jvm Jvm.ClassFile Sem Op Lib Jvm.Free Jvm.Stand Jvm.Pilot.@@N@@.Jvm.D
/-! MADE BY PROGRAM (witnessworld.py) out of the Statement's table words and the real class files: 9 classes; the members and pool entries that the words name. The judged class is class 1, her method 1. -/
namespace start1
open Jvm.ClassFile
def u (s : String) : CpInfo := .utf8 (stringToUtf16 s)
/-- a pool by its gaps: so many unusable entries, then the entry; so many at the end -/
def gap : Nat → List CpInfo → List CpInfo
  | 0, r => r
  | n + 1, r => .unusable :: gap n r
def poolList (es : List (Nat × CpInfo)) (last : Nat) : List CpInfo := es.foldr (fun e r => gap e.1 (e.2 :: r)) (gap last [])
def pool (es : List (Nat × CpInfo)) (last : Nat) : Array CpInfo := ⟨poolList es last⟩
def fileOf (pool : Array CpInfo) (this : Nat) (attrs : Array Attribute := #[]) (ms : Array MethodInfo := #[]) (fl : Nat := 33) (sup : Nat := 0) (ifs : Array Nat := #[]) (fds : Array FieldInfo := #[]) : ClassFile where
  minorVersion := 0
  majorVersion := 65
  constantPool := pool
  accessFlags := fl
  thisClass := this
  superClass := sup
  interfaces := ifs
  fields := fds
  methods := ms
  attributes := attrs
def plain (name : String) (sup : Option ClassId) : Class where
  name := name
  kind := .ordinary
  loader := none
  accessFlags := 33
  super := sup
  interfaces := #[]
  cf := none
  fields := #[]
  methods := #[]
  instanceTypes := #[]
  staticTypes := #[]
  resolved := #[]
  callSites := []
  init := .initialized
  statics := none
  mirror := none

def pool0 : Array CpInfo := pool [(5, u "<init>"), (0, u "()V"), (1, .class_ 10), (1, u "java/lang/Object")] 113

def k0m0 : Method := { name := "<init>", desc := "()V", sig := { parameters := [], returnType := none }, accessFlags := 1, code := none }
/-- java/lang/Object -/
def k0 : Class := { plain "java/lang/Object" none with
  accessFlags := 33
  interfaces := #[]
  cf := some (fileOf pool0 8 #[] #[{ accessFlags := 1, nameIndex := 5, descriptorIndex := 6, attributes := #[] }] 33 0 #[] #[])
  fields := #[]
  methods := #[k0m0]
  instanceTypes := #[]
  staticTypes := #[]
  resolved := Array.replicate 124 none
  statics := none }

def pool1 : Array CpInfo := pool [(2, .class_ 4), (1, u "java/lang/Object"), (0, u "<init>"), (0, u "()V"), (0, .integer 2147483647), (0, .integer 2097152), (0, .integer 268435456), (0, .methodref 11 12), (0, .class_ 13), (0, .nameAndType 14 15), (0, u "com/example/libxmlkey/libxmlkey/RecordBytesReadCountPinLaw"), (0, u "group"), (0, u "(III)B"), (0, .methodref 17 18), (0, .class_ 19), (0, .nameAndType 20 21), (0, u "com/example/libxmlkey/libxmlkey/RecordBytes"), (0, u "readCount"), (0, u "([BI)I"), (2, u "law"), (0, u "(IIJ)Z")] 5

def k1m0 : Method := { name := "<init>", desc := "()V", sig := { parameters := [], returnType := none }, accessFlags := 1, code := none }
def k1c1 : Code := { maxStack := 5, maxLocals := 8, code := code, exceptionTable := #[], attributes := #[] }
def k1m1 : Method := { name := "law", desc := "(IIJ)Z", sig := { parameters := [.int, .int, .long], returnType := some .boolean }, accessFlags := 9, code := some k1c1 }
def k1c2 : Code := { maxStack := 3, maxLocals := 4, code := method_3_code, exceptionTable := #[], attributes := #[] }
def k1m2 : Method := { name := "group", desc := "(III)B", sig := { parameters := [.int, .int, .int], returnType := some .byte }, accessFlags := 10, code := some k1c2 }
/-- com/example/libxmlkey/libxmlkey/RecordBytesReadCountPinLaw -/
def k1 : Class := { plain "com/example/libxmlkey/libxmlkey/RecordBytesReadCountPinLaw" (some 0) with
  accessFlags := 49
  interfaces := #[]
  cf := some (fileOf pool1 11 #[] #[{ accessFlags := 1, nameIndex := 5, descriptorIndex := 6, attributes := #[] }, { accessFlags := 9, nameIndex := 24, descriptorIndex := 25, attributes := #[] }, { accessFlags := 10, nameIndex := 14, descriptorIndex := 15, attributes := #[] }] 49 2 #[] #[])
  fields := #[]
  methods := #[k1m0, k1m1, k1m2]
  instanceTypes := #[]
  staticTypes := #[]
  resolved := Array.replicate 31 none
  statics := none }

def pool2 : Array CpInfo := pool [(4, .class_ 6), (1, u "java/lang/Object"), (0, u "<init>"), (0, u "()V"), (7, .class_ 18), (1, u "com/example/libxmlkey/libxmlkey/RecordBytes"), (0, u "sipHash"), (0, u "Lcom/example/libxmlkey/libxmlkey/SipHash;"), (2, u "bytes"), (0, u "[B"), (2, u "length"), (0, u "I"), (2, u "hashed"), (0, u "Z"), (38, u "hash"), (38, u "readCount"), (0, u "([BI)I"), (19, u "MAX_LENGTH")] 35

def k2m0 : Method := { name := "<init>", desc := "()V", sig := { parameters := [], returnType := none }, accessFlags := 0, code := none }
def k2c1 : Code := { maxStack := 3, maxLocals := 6, code := prog_133_method_12_code, exceptionTable := #[], attributes := #[] }
def k2m1 : Method := { name := "readCount", desc := "([BI)I", sig := { parameters := [(.array .byte), .int], returnType := some .int }, accessFlags := 8, code := some k2c1 }
/-- com/example/libxmlkey/libxmlkey/RecordBytes -/
def k2 : Class := { plain "com/example/libxmlkey/libxmlkey/RecordBytes" (some 0) with
  accessFlags := 48
  interfaces := #[]
  cf := some (fileOf pool2 16 #[] #[{ accessFlags := 0, nameIndex := 7, descriptorIndex := 8, attributes := #[] }, { accessFlags := 8, nameIndex := 110, descriptorIndex := 111, attributes := #[] }] 48 4 #[] #[{ accessFlags := 26, nameIndex := 131, descriptorIndex := 28, attributes := #[] }, { accessFlags := 18, nameIndex := 19, descriptorIndex := 20, attributes := #[] }, { accessFlags := 2, nameIndex := 23, descriptorIndex := 24, attributes := #[] }, { accessFlags := 2, nameIndex := 27, descriptorIndex := 28, attributes := #[] }, { accessFlags := 2, nameIndex := 71, descriptorIndex := 28, attributes := #[] }, { accessFlags := 2, nameIndex := 31, descriptorIndex := 32, attributes := #[] }])
  fields := #[{ name := "MAX_LENGTH", type := .int, accessFlags := 26, slot := 0, constantValue := 0 }, { name := "sipHash", type := (.object "com/example/libxmlkey/libxmlkey/SipHash"), accessFlags := 18, slot := 0, constantValue := 0 }, { name := "bytes", type := (.array .byte), accessFlags := 2, slot := 1, constantValue := 0 }, { name := "length", type := .int, accessFlags := 2, slot := 2, constantValue := 0 }, { name := "hash", type := .int, accessFlags := 2, slot := 3, constantValue := 0 }, { name := "hashed", type := .boolean, accessFlags := 2, slot := 4, constantValue := 0 }]
  methods := #[k2m0, k2m1]
  instanceTypes := #[(.object "com/example/libxmlkey/libxmlkey/SipHash"), (.array .byte), .int, .int, .boolean]
  staticTypes := #[.int]
  resolved := Array.replicate 167 none
  statics := none }

def pool3 : Array CpInfo := pool [(1, u "java/lang/Cloneable"), (0, .class_ 1), (0, u "java/lang/Object"), (0, .class_ 3)] 3

/-- java/lang/Cloneable -/
def k3 : Class := { plain "java/lang/Cloneable" (some 0) with
  accessFlags := 1537
  interfaces := #[]
  cf := some (fileOf pool3 2 #[] #[] 1537 4 #[] #[])
  fields := #[]
  methods := #[]
  instanceTypes := #[]
  staticTypes := #[]
  resolved := Array.replicate 8 none
  statics := none }

def pool4 : Array CpInfo := pool [(1, u "java/io/Serializable"), (0, .class_ 1), (0, u "java/lang/Object"), (0, .class_ 3)] 3

/-- java/io/Serializable -/
def k4 : Class := { plain "java/io/Serializable" (some 0) with
  accessFlags := 1537
  interfaces := #[]
  cf := some (fileOf pool4 2 #[] #[] 1537 4 #[] #[])
  fields := #[]
  methods := #[]
  instanceTypes := #[]
  staticTypes := #[]
  resolved := Array.replicate 8 none
  statics := none }

/-- the primitive byte -/
def k5 : Class := { plain "byte" none with kind := .primitive 'B', accessFlags := 0x411 }
/-- [B -/
def k6 : Class := { plain "[B" (some 0) with kind := .array 5 .byte, interfaces := #[3, 4], accessFlags := 1041 }

/-- the primitive int -/
def k7 : Class := { plain "int" none with kind := .primitive 'I', accessFlags := 0x411 }
/-- [I -/
def k8 : Class := { plain "[I" (some 0) with kind := .array 7 .int, interfaces := #[3, 4], accessFlags := 1041 }

def heap : Heap := #[]
def classes : Array Class := #[k0, k1, k2, k3, k4, k5, k6, k7, k8]
def interned : List (Array UInt16 × Addr) := []
def slotsUsed : Nat := 0
def theMethod : MethodId := ⟨1, 1⟩
def args0 : Array Value := #[.int 5, .int 7, .long 9]
def aboutOver (below : List Frame) : State where
  vm := { classes := classes, interned := interned.toArray }
  heap := heap
  slotsUsed := slotsUsed
  threads := #[{ frames := .invoking theMethod args0 :: below }]
def below0 : List Frame := [.native { method := ⟨0, 0⟩, args := #[] }]
def about1 : State := aboutOver below0
def p0 : Program := .bare "" "" ""
def e0 : Env := launch0.env 0 0 0
theorem w_frames : about1.frames = Frame.invoking theMethod args0 :: below0 := rfl
set_option maxRecDepth 65536 in
theorem w_args : argsFit about1.vm theMethod args0 = true := by decide +kernel
set_option maxRecDepth 65536 in
theorem w_heap : heapFits about1 = true := by decide +kernel
set_option maxRecDepth 65536 in
theorem w_runnable : about1.curStatus? = some .runnable := by decide +kernel
set_option maxRecDepth 65536 in
theorem w_alone : about1.alone = true := by decide +kernel
set_option maxRecDepth 65536 in
theorem w_named : about1.methodNamed? x = some theMethod := by decide +kernel
set_option maxRecDepth 65536 in
theorem w_hears : about1.hears theMethod below0 = true := by decide +kernel
set_option maxRecDepth 65536 in
theorem w_ripe : about1.ripe theMethod args0 below0 = true := by decide +kernel
theorem w_running : about1.status = .running := rfl
set_option maxRecDepth 65536 in
theorem w_room : about1.hasRoom e0.platform room_1 = true :=
  launch0.hasRoom_least _ room_1 (by decide +kernel) (by decide +kernel) (by decide +kernel) (by decide +kernel) (by decide +kernel) (by decide +kernel)
theorem allAtoms_all (ts : List Jvm.Cond) (a : Array Jvm.Value) (st : Jvm.State) : (allAtoms ts).before a st = ts.all (fun c => c.before a st) := by
  induction ts with
  | nil => rfl
  | cons c t ih =>
    show (Jvm.Cond.and c (allAtoms t)).before a st = _
    rw [Jvm.Cond.before_and, ih, List.all_cons]
def words1 : List Jvm.Cond := Jvm.Cond.code x code maxLocals ret :: tables_1
/-- a 'code' word, met by the world's own term for the bytes: nothing is compared byte by byte -/
theorem code_word {y : MethodName} {bytes : ByteArray} {mx : Nat} {rt : Option FieldType} {a : Array Value} {s : State} {m : MethodId} {meth : Method} {c : Code} (h1 : s.methodNamed? y = some m) (h2 : s.vm.method? m = some meth) (h3 : meth.code = some c) (h4 : c.code = bytes)
    (h5 : (c.maxLocals == mx && c.exceptionTable.isEmpty && decide (c.maxStack ≤ mostOperands) && decide (meth.sig.returnType = rt) && !meth.locks && decide (parseMethodDescriptor y.desc = some meth.sig)) = true) : (Jvm.Cond.code y bytes mx rt).before a s = true := by
  simp only [Bool.and_eq_true, beq_iff_eq, Bool.not_eq_true', decide_eq_true_eq] at h5
  obtain ⟨⟨⟨⟨⟨g1, g2⟩, g3⟩, g4⟩, g5⟩, g6⟩ := h5
  simp [Cond.before, Cond.holds, Cond.value, h1, h2, h3, h4, g1, g2, g3, g4, g5, g6]
def isCode : Jvm.Cond → Bool
  | .code _ _ _ _ => true
  | _ => false
theorem all_split {L : List Jvm.Cond} {P : Jvm.Cond → Bool} (h1 : L.all (fun c => isCode c || P c) = true) (h2 : ∀ c ∈ L.filter isCode, P c = true) : L.all P = true := by
  refine List.all_eq_true.mpr fun c hc => ?_
  have h := List.all_eq_true.mp h1 c hc
  rcases Bool.eq_false_or_eq_true (isCode c) with hi | hi
  · exact h2 c (List.mem_filter.mpr ⟨hc, hi⟩)
  · simpa [hi] using h
set_option maxRecDepth 65536 in
theorem w_c0 : (Jvm.Cond.code x code maxLocals ret).before args0 about1 = true := code_word (m := ⟨1, 1⟩) (meth := k1m1) (c := k1c1) (by decide +kernel) rfl rfl rfl (by decide +kernel)
set_option maxRecDepth 65536 in
theorem w_c1 : (Jvm.Cond.code ({ cls := "com/example/libxmlkey/libxmlkey/RecordBytesReadCountPinLaw", name := "group", desc := "(III)B" } : Jvm.MethodName) method_3_code (4 : Nat) (Option.some Jvm.ClassFile.FieldType.byte)).before args0 about1 = true := code_word (m := ⟨1, 2⟩) (meth := k1m2) (c := k1c2) (by decide +kernel) rfl rfl rfl (by decide +kernel)
set_option maxRecDepth 65536 in
theorem w_c2 : (Jvm.Cond.code ({ cls := "com/example/libxmlkey/libxmlkey/RecordBytes", name := "readCount", desc := "([BI)I" } : Jvm.MethodName) prog_133_method_12_code (6 : Nat) (Option.some Jvm.ClassFile.FieldType.int)).before args0 about1 = true := code_word (m := ⟨2, 1⟩) (meth := k2m1) (c := k2c1) (by decide +kernel) rfl rfl rfl (by decide +kernel)
def codes1 : List Jvm.Cond := [Jvm.Cond.code x code maxLocals ret, Jvm.Cond.code ({ cls := "com/example/libxmlkey/libxmlkey/RecordBytesReadCountPinLaw", name := "group", desc := "(III)B" } : Jvm.MethodName) method_3_code (4 : Nat) (Option.some Jvm.ClassFile.FieldType.byte), Jvm.Cond.code ({ cls := "com/example/libxmlkey/libxmlkey/RecordBytes", name := "readCount", desc := "([BI)I" } : Jvm.MethodName) prog_133_method_12_code (6 : Nat) (Option.some Jvm.ClassFile.FieldType.int)]
set_option maxRecDepth 65536 in
theorem codes_eq : words1.filter isCode = codes1 := rfl
theorem w_codes : ∀ c ∈ words1.filter isCode, c.before args0 about1 = true := by
  rw [codes_eq]
  intro c hc
  simp only [codes1, List.mem_cons, List.not_mem_nil, or_false] at hc
  rcases hc with rfl | rfl | rfl
  · exact w_c0
  · exact w_c1
  · exact w_c2
set_option maxRecDepth 65536 in
theorem w_t1 : words1.all (fun c => isCode c || c.before args0 about1) = true := by decide +kernel
theorem w_tables : (allAtoms (Jvm.Cond.code x code maxLocals ret :: tables_1)).before args0 about1 = true := by
  rw [allAtoms_all]
  show words1.all (fun c => c.before args0 about1) = true
  refine all_split ?_ w_codes
  rw [w_t1]
set_option maxRecDepth 65536 in
theorem w_case : (Jvm.Cond.and given_1 narrow_1).before args0 about1 = true := by decide +kernel
theorem w_applies : (headSpec (Jvm.Cond.code x code maxLocals ret :: tables_1) room_1).applies x e0.platform about1 = true :=
  (Spec.applies_iff w_frames).mpr ⟨w_running, w_runnable, w_alone, w_named, w_hears, w_ripe, w_room, w_tables⟩
theorem atStart : AtStart classFile x code maxLocals ret World_1 tables_1 room_1 Calls_1 rest_1 Pre_1 launch0 p0 e0 about1 theMethod args0 below0 :=
  ⟨lists_1, trivial, launch0.admits_env _ _ _, launch0.least_env, fairChoices_fair.cas, fairChoices_fair.clock, w_frames, w_args, w_heap, w_applies, trivial, trivial, w_case⟩
end start1
theorem witness_1 : WitnessClaimed_1 := ⟨start1.p0, start1.e0, start1.about1, start1.theMethod, start1.args0, start1.below0, start1.atStart⟩
end Jvm.Pilot.@@N@@
