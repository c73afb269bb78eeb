import JvmDerived
import JvmDerived.Pilot.@@N@@Statement
import JvmDerived.Pilot.@@N@@Code
set_option linter.unusedVariables false
set_option linter.unusedSimpArgs false
namespace Jvm.Own
open Sem ClassFile Op Lib Jvm.Stand Jvm.Free Jvm.LawKit Jvm.RoadKit
section Lay
variable {p : Program} {l : Launch} {e : Env} {R : Room} {s : State} {m : MethodId} {args : Array Value} {below : List Frame} {meth : Method} {c : Code} {T T' : State} {cells slots n0 : Nat} {Z : State} {a0 : Array Value} {h h' : Heap} {Rest : State → Outcome → Prop} {pc pc' : Nat} {L L' : Array Slot} {S : List Value} {f f' : JFrame} {bytes : ByteArray} {maxL : Nat} {ret : Option FieldType} {own nme : String}
/-- the run stands here: a Stand whose written places are all new -/
def St (p : Program) (l : Launch) (e : Env) (R : Room) (s : State) (m : MethodId) (args : Array Value) (below : List Frame) (meth : Method) (c : Code) (n0 : Nat) (T : State) (h : Heap) (cells slots : Nat) : Prop := ∃ locs, Stand p l e R s m args below meth c T locs cells slots ∧ Fr n0 locs ∧ T.heap = h
def Cx (p : Program) (s : State) (m : MethodId) (meth : Method) (c : Code) (Z : State) (bytes : ByteArray) (maxL : Nat) (ret : Option FieldType) (own nme : String) : Prop := p.tables.exec = Jvm.exec ∧ c.code = bytes ∧ c.maxLocals = maxL ∧ meth.sig.returnType = ret ∧ meth.locks = false ∧ s.vm.findClass own = some m.cls ∧ meth.name = nme ∧ Z.Warmed39 s.vm
def Go (p : Program) (e : Env) (below : List Frame) (Rest : State → Outcome → Prop) (T : State) (f : JFrame) : Prop := ∃ t o, Steps p.tables e below (T.setTop f) t ∧ Rest t o
theorem go_by (st : ∀ t, Steps p.tables e below (T'.setTop f') t → Steps p.tables e below (T.setTop f) t) (k : Go p e below Rest T' f') : Go p e below Rest T f := by
  obtain ⟨t, o, h1, h2⟩ := k; exact ⟨t, o, st t h1, h2⟩
theorem go_tr (st : Steps p.tables e below (T.setTop f) (T'.setTop f')) (k : Go p e below Rest T' f') : Go p e below Rest T f := by
  obtain ⟨t, o, h1, h2⟩ := k; exact ⟨t, o, st.trans h1, h2⟩
theorem go_cast (q : f = f') (k : Go p e below Rest T f') : Go p e below Rest T f := q ▸ k
abbrev Rs (s : State) (below : List Frame) (n0 : Nat) (Q : Option Value → Heap → Prop) (k n : Nat) : State → Outcome → Prop := fun t o => t.status = .running ∧ Ended t below o ∧ ∃ v L, o = .returned v ∧ (Q v t.heap ∧ Fr n0 L) ∧ FrameEnd s o t L k n
abbrev Ctr (l : Launch) (y : MethodName) (bytes : ByteArray) (maxL : Nat) (ret : Option FieldType) (rm : Room) (Z : State) (n0 : Nat) (as : Array Value) (h : Heap) (Q : Option Value → Heap → Prop) (ws : List Jvm.Cond) : Prop :=
  MetFree l y (head1 (Jvm.Cond.code y bytes maxL ret :: ws) rm) (fun a U => a = as ∧ Z.Warmed39 U.vm ∧ U.heap = h) (fun _ _ _ _ _ => True) (fun _ U o U' => ∃ v L, o = .returned v ∧ (Q v U'.heap ∧ Fr n0 L) ∧ FrameEnd U o U' L rm.cells rm.slots)
theorem ctr_of {y : MethodName} {rm : Room} {as : Array Value} {Q : Option Value → Heap → Prop} {ws : List Jvm.Cond} (hpn : plainFor y = true)
    (body : ∀ p e s m below meth c s₁, St p l e rm s m as below meth c n0 s₁ h 0 0 → Cx p s m meth c Z bytes maxL ret y.cls y.name → Go p e below (Rs s below n0 Q rm.cells rm.slots) s₁ (entryFrame m as maxL)) :
    Ctr l y bytes maxL ret rm Z n0 as h Q ws := by
  refine MetFree.of_bodySF hpn hisR ?_
  intro p e s m args below meth c s₁ Bd hml0 hP hK
  obtain ⟨rfl, hZ, hh⟩ := hP
  have hown := findClass_of_methodNamed Bd.named
  have hnm := (name_of_methodNamed Bd.named Bd.method).1
  have X0 : Stand p l e rm s m args below meth c s₁ [] 0 0 := Stand.of_body Bd
  have e0 : s₁.heap = h := by rw [← hh, Bd.state]; rfl
  obtain ⟨t, o, h1, h2, h3, h4⟩ := body p e s m below meth c s₁ ⟨[], X0, Fr.nil n0, e0⟩ ⟨Bd.exec, Bd.bytes, hml0, Bd.returns, Bd.notSynchronized, hown, hnm, hZ⟩
  exact ⟨t, o, h1, h2, h3, h4⟩
theorem g_iload (X : St p l e R s m args below meth c n0 T h cells slots) (C : Cx p s m meth c Z bytes maxL ret own nme) {k : Nat} {v : Int32} (hd : decode bytes pc = .ok (.iload k, 2)) (hl : L[k]? = some (.val (.int v))) (hp : pc + 2 = pc') (r : Go p e below Rest T (mkF m pc' L (.int v :: S))) : Go p e below Rest T (mkF m pc L S) := by
  obtain ⟨_, X, -, -⟩ := X; obtain ⟨hx, hby, -⟩ := C; subst hp
  exact go_by (fun t k => XS.iload X.here hx rfl (hb hby hd) hl k) r
theorem g_iloadN (X : St p l e R s m args below meth c n0 T h cells slots) (C : Cx p s m meth c Z bytes maxL ret own nme) {k : Fin 4} {v : Int32} (hd : decode bytes pc = .ok (.iload_n k, 1)) (hl : L[k.val]? = some (.val (.int v))) (hp : pc + 1 = pc') (r : Go p e below Rest T (mkF m pc' L (.int v :: S))) : Go p e below Rest T (mkF m pc L S) := by
  obtain ⟨_, X, -, -⟩ := X; obtain ⟨hx, hby, -⟩ := C; subst hp
  exact go_by (fun t k => XS.iloadN X.here hx rfl (hb hby hd) hl k) r
theorem g_istore (X : St p l e R s m args below meth c n0 T h cells slots) (C : Cx p s m meth c Z bytes maxL ret own nme) {k : Nat} {v v' : Int32} (hd : decode bytes pc = .ok (.istore k, 2)) (hv : v' = v) (hl : storeLocals L k (.int v') = some L') (hp : pc + 2 = pc') (r : Go p e below Rest T (mkF m pc' L' S)) : Go p e below Rest T (mkF m pc L (.int v :: S)) := by
  obtain ⟨_, X, -, -⟩ := X; obtain ⟨hx, hby, -⟩ := C; subst hp
  exact go_by (fun t k => XS.istore X.here hx rfl (hb hby hd) rfl (hv ▸ hl) k) r
theorem g_istoreN (X : St p l e R s m args below meth c n0 T h cells slots) (C : Cx p s m meth c Z bytes maxL ret own nme) {k : Fin 4} {v v' : Int32} (hd : decode bytes pc = .ok (.istore_n k, 1)) (hv : v' = v) (hl : storeLocals L k.val (.int v') = some L') (hp : pc + 1 = pc') (r : Go p e below Rest T (mkF m pc' L' S)) : Go p e below Rest T (mkF m pc L (.int v :: S)) := by
  obtain ⟨_, X, -, -⟩ := X; obtain ⟨hx, hby, -⟩ := C; subst hp
  exact go_by (fun t k => XS.istoreN X.here hx rfl (hb hby hd) rfl (hv ▸ hl) k) r
theorem g_lload (X : St p l e R s m args below meth c n0 T h cells slots) (C : Cx p s m meth c Z bytes maxL ret own nme) {k : Nat} {v : Int64} (hd : decode bytes pc = .ok (.lload k, 2)) (hl : L[k]? = some (.val (.long v))) (hp : pc + 2 = pc') (r : Go p e below Rest T (mkF m pc' L (.long v :: S))) : Go p e below Rest T (mkF m pc L S) := by
  obtain ⟨_, X, -, -⟩ := X; obtain ⟨hx, hby, -⟩ := C; subst hp
  exact go_by (fun t k => XS.lload X.here hx rfl (hb hby hd) hl k) r
theorem g_lloadN (X : St p l e R s m args below meth c n0 T h cells slots) (C : Cx p s m meth c Z bytes maxL ret own nme) {k : Fin 4} {v : Int64} (hd : decode bytes pc = .ok (.lload_n k, 1)) (hl : L[k.val]? = some (.val (.long v))) (hp : pc + 1 = pc') (r : Go p e below Rest T (mkF m pc' L (.long v :: S))) : Go p e below Rest T (mkF m pc L S) := by
  obtain ⟨_, X, -, -⟩ := X; obtain ⟨hx, hby, -⟩ := C; subst hp
  exact go_by (fun t k => XS.lloadN X.here hx rfl (hb hby hd) hl k) r
theorem g_lstore (X : St p l e R s m args below meth c n0 T h cells slots) (C : Cx p s m meth c Z bytes maxL ret own nme) {k : Nat} {v v' : Int64} (hd : decode bytes pc = .ok (.lstore k, 2)) (hv : v' = v) (hl : storeLocals L k (.long v') = some L') (hp : pc + 2 = pc') (r : Go p e below Rest T (mkF m pc' L' S)) : Go p e below Rest T (mkF m pc L (.long v :: S)) := by
  obtain ⟨_, X, -, -⟩ := X; obtain ⟨hx, hby, -⟩ := C; subst hp
  exact go_by (fun t k => XS.lstore X.here hx rfl (hb hby hd) rfl (hv ▸ hl) k) r
theorem g_lstoreN (X : St p l e R s m args below meth c n0 T h cells slots) (C : Cx p s m meth c Z bytes maxL ret own nme) {k : Fin 4} {v v' : Int64} (hd : decode bytes pc = .ok (.lstore_n k, 1)) (hv : v' = v) (hl : storeLocals L k.val (.long v') = some L') (hp : pc + 1 = pc') (r : Go p e below Rest T (mkF m pc' L' S)) : Go p e below Rest T (mkF m pc L (.long v :: S)) := by
  obtain ⟨_, X, -, -⟩ := X; obtain ⟨hx, hby, -⟩ := C; subst hp
  exact go_by (fun t k => XS.lstoreN X.here hx rfl (hb hby hd) rfl (hv ▸ hl) k) r
theorem g_aload (X : St p l e R s m args below meth c n0 T h cells slots) (C : Cx p s m meth c Z bytes maxL ret own nme) {k : Nat} {v : Value} (hd : decode bytes pc = .ok (.aload k, 2)) (hl : L[k]? = some (.val v)) (hv : v.isRef = true) (hp : pc + 2 = pc') (r : Go p e below Rest T (mkF m pc' L (v :: S))) : Go p e below Rest T (mkF m pc L S) := by
  obtain ⟨_, X, -, -⟩ := X; obtain ⟨hx, hby, -⟩ := C; subst hp
  exact go_by (fun t k => XS.aload X.here hx rfl (hb hby hd) hl hv k) r
theorem g_aloadN (X : St p l e R s m args below meth c n0 T h cells slots) (C : Cx p s m meth c Z bytes maxL ret own nme) {k : Fin 4} {v : Value} (hd : decode bytes pc = .ok (.aload_n k, 1)) (hl : L[k.val]? = some (.val v)) (hv : v.isRef = true) (hp : pc + 1 = pc') (r : Go p e below Rest T (mkF m pc' L (v :: S))) : Go p e below Rest T (mkF m pc L S) := by
  obtain ⟨_, X, -, -⟩ := X; obtain ⟨hx, hby, -⟩ := C; subst hp
  exact go_by (fun t k => XS.aloadN X.here hx rfl (hb hby hd) hl hv k) r
theorem g_astore (X : St p l e R s m args below meth c n0 T h cells slots) (C : Cx p s m meth c Z bytes maxL ret own nme) {k : Nat} {v : Value} (hd : decode bytes pc = .ok (.astore k, 2)) (hv : v.isRef = true) (hl : storeLocals L k v = some L') (hp : pc + 2 = pc') (r : Go p e below Rest T (mkF m pc' L' S)) : Go p e below Rest T (mkF m pc L (v :: S)) := by
  obtain ⟨_, X, -, -⟩ := X; obtain ⟨hx, hby, -⟩ := C; subst hp
  exact go_by (fun t k => XS.astore X.here hx rfl (hb hby hd) rfl hv hl k) r
theorem g_astoreN (X : St p l e R s m args below meth c n0 T h cells slots) (C : Cx p s m meth c Z bytes maxL ret own nme) {k : Fin 4} {v : Value} (hd : decode bytes pc = .ok (.astore_n k, 1)) (hv : v.isRef = true) (hl : storeLocals L k.val v = some L') (hp : pc + 1 = pc') (r : Go p e below Rest T (mkF m pc' L' S)) : Go p e below Rest T (mkF m pc L (v :: S)) := by
  obtain ⟨_, X, -, -⟩ := X; obtain ⟨hx, hby, -⟩ := C; subst hp
  exact go_by (fun t k => XS.astoreN X.here hx rfl (hb hby hd) rfl hv hl k) r
theorem g_iconst (X : St p l e R s m args below meth c n0 T h cells slots) (C : Cx p s m meth c Z bytes maxL ret own nme) {i : Int} {v : Int32} (hd : decode bytes pc = .ok (.iconst i, 1)) (hv : Int32.ofInt i = v) (hp : pc + 1 = pc') (r : Go p e below Rest T (mkF m pc' L (.int v :: S))) : Go p e below Rest T (mkF m pc L S) := by
  obtain ⟨_, X, -, -⟩ := X; obtain ⟨hx, hby, -⟩ := C; subst hp hv
  exact go_by (fun t k => XS.iconst X.here hx rfl (hb hby hd) k) r
theorem g_bipush (X : St p l e R s m args below meth c n0 T h cells slots) (C : Cx p s m meth c Z bytes maxL ret own nme) {i : Int} {v : Int32} (hd : decode bytes pc = .ok (.bipush i, 2)) (hv : (Int8.ofInt i).toInt32 = v) (hp : pc + 2 = pc') (r : Go p e below Rest T (mkF m pc' L (.int v :: S))) : Go p e below Rest T (mkF m pc L S) := by
  obtain ⟨_, X, -, -⟩ := X; obtain ⟨hx, hby, -⟩ := C; subst hp hv
  exact go_by (fun t k => XS.bipush X.here hx rfl (hb hby hd) k) r
theorem g_sipush (X : St p l e R s m args below meth c n0 T h cells slots) (C : Cx p s m meth c Z bytes maxL ret own nme) {i : Int} {v : Int32} (hd : decode bytes pc = .ok (.sipush i, 3)) (hv : (Int16.ofInt i).toInt32 = v) (hp : pc + 3 = pc') (r : Go p e below Rest T (mkF m pc' L (.int v :: S))) : Go p e below Rest T (mkF m pc L S) := by
  obtain ⟨_, X, -, -⟩ := X; obtain ⟨hx, hby, -⟩ := C; subst hp hv
  exact go_by (fun t k => XS.sipush X.here hx rfl (hb hby hd) k) r
theorem g_lconst (X : St p l e R s m args below meth c n0 T h cells slots) (C : Cx p s m meth c Z bytes maxL ret own nme) {i : Fin 2} {v : Int64} (hd : decode bytes pc = .ok (.lconst i, 1)) (hv : Int64.ofNat i = v) (hp : pc + 1 = pc') (r : Go p e below Rest T (mkF m pc' L (.long v :: S))) : Go p e below Rest T (mkF m pc L S) := by
  obtain ⟨_, X, -, -⟩ := X; obtain ⟨hx, hby, -⟩ := C; subst hp hv
  exact go_by (fun t k => XS.lconst X.here hx rfl (hb hby hd) k) r
theorem g_aconst (X : St p l e R s m args below meth c n0 T h cells slots) (C : Cx p s m meth c Z bytes maxL ret own nme)  (hd : decode bytes pc = .ok (.aconst_null, 1))  (hp : pc + 1 = pc') (r : Go p e below Rest T (mkF m pc' L (.null :: S))) : Go p e below Rest T (mkF m pc L S) := by
  obtain ⟨_, X, -, -⟩ := X; obtain ⟨hx, hby, -⟩ := C; subst hp
  exact go_by (fun t k => XS.aconstNull X.here hx rfl (hb hby hd)  k) r
theorem g_iadd (X : St p l e R s m args below meth c n0 T h cells slots) (C : Cx p s m meth c Z bytes maxL ret own nme) {x y : Int32} (hd : decode bytes pc = .ok (.iadd, 1))  (hp : pc + 1 = pc') (r : Go p e below Rest T (mkF m pc' L (.int (x + y) :: S))) : Go p e below Rest T (mkF m pc L (.int y :: .int x :: S)) := by
  obtain ⟨_, X, -, -⟩ := X; obtain ⟨hx, hby, -⟩ := C; subst hp
  exact go_by (fun t k => XS.iadd X.here hx rfl (hb hby hd) rfl k) r
theorem g_ladd (X : St p l e R s m args below meth c n0 T h cells slots) (C : Cx p s m meth c Z bytes maxL ret own nme) {x y : Int64} (hd : decode bytes pc = .ok (.ladd, 1))  (hp : pc + 1 = pc') (r : Go p e below Rest T (mkF m pc' L (.long (x + y) :: S))) : Go p e below Rest T (mkF m pc L (.long y :: .long x :: S)) := by
  obtain ⟨_, X, -, -⟩ := X; obtain ⟨hx, hby, -⟩ := C; subst hp
  exact go_by (fun t k => XS.ladd X.here hx rfl (hb hby hd) rfl k) r
theorem g_isub (X : St p l e R s m args below meth c n0 T h cells slots) (C : Cx p s m meth c Z bytes maxL ret own nme) {x y : Int32} (hd : decode bytes pc = .ok (.isub, 1))  (hp : pc + 1 = pc') (r : Go p e below Rest T (mkF m pc' L (.int (x - y) :: S))) : Go p e below Rest T (mkF m pc L (.int y :: .int x :: S)) := by
  obtain ⟨_, X, -, -⟩ := X; obtain ⟨hx, hby, -⟩ := C; subst hp
  exact go_by (fun t k => XS.isub X.here hx rfl (hb hby hd) rfl k) r
theorem g_lsub (X : St p l e R s m args below meth c n0 T h cells slots) (C : Cx p s m meth c Z bytes maxL ret own nme) {x y : Int64} (hd : decode bytes pc = .ok (.lsub, 1))  (hp : pc + 1 = pc') (r : Go p e below Rest T (mkF m pc' L (.long (x - y) :: S))) : Go p e below Rest T (mkF m pc L (.long y :: .long x :: S)) := by
  obtain ⟨_, X, -, -⟩ := X; obtain ⟨hx, hby, -⟩ := C; subst hp
  exact go_by (fun t k => XS.lsub X.here hx rfl (hb hby hd) rfl k) r
theorem g_imul (X : St p l e R s m args below meth c n0 T h cells slots) (C : Cx p s m meth c Z bytes maxL ret own nme) {x y : Int32} (hd : decode bytes pc = .ok (.imul, 1))  (hp : pc + 1 = pc') (r : Go p e below Rest T (mkF m pc' L (.int (x * y) :: S))) : Go p e below Rest T (mkF m pc L (.int y :: .int x :: S)) := by
  obtain ⟨_, X, -, -⟩ := X; obtain ⟨hx, hby, -⟩ := C; subst hp
  exact go_by (fun t k => XS.imul X.here hx rfl (hb hby hd) rfl k) r
theorem g_lmul (X : St p l e R s m args below meth c n0 T h cells slots) (C : Cx p s m meth c Z bytes maxL ret own nme) {x y : Int64} (hd : decode bytes pc = .ok (.lmul, 1))  (hp : pc + 1 = pc') (r : Go p e below Rest T (mkF m pc' L (.long (x * y) :: S))) : Go p e below Rest T (mkF m pc L (.long y :: .long x :: S)) := by
  obtain ⟨_, X, -, -⟩ := X; obtain ⟨hx, hby, -⟩ := C; subst hp
  exact go_by (fun t k => XS.lmul X.here hx rfl (hb hby hd) rfl k) r
theorem g_iand (X : St p l e R s m args below meth c n0 T h cells slots) (C : Cx p s m meth c Z bytes maxL ret own nme) {x y : Int32} (hd : decode bytes pc = .ok (.iand, 1))  (hp : pc + 1 = pc') (r : Go p e below Rest T (mkF m pc' L (.int (x &&& y) :: S))) : Go p e below Rest T (mkF m pc L (.int y :: .int x :: S)) := by
  obtain ⟨_, X, -, -⟩ := X; obtain ⟨hx, hby, -⟩ := C; subst hp
  exact go_by (fun t k => XS.iand X.here hx rfl (hb hby hd) rfl k) r
theorem g_land (X : St p l e R s m args below meth c n0 T h cells slots) (C : Cx p s m meth c Z bytes maxL ret own nme) {x y : Int64} (hd : decode bytes pc = .ok (.land, 1))  (hp : pc + 1 = pc') (r : Go p e below Rest T (mkF m pc' L (.long (x &&& y) :: S))) : Go p e below Rest T (mkF m pc L (.long y :: .long x :: S)) := by
  obtain ⟨_, X, -, -⟩ := X; obtain ⟨hx, hby, -⟩ := C; subst hp
  exact go_by (fun t k => XS.land X.here hx rfl (hb hby hd) rfl k) r
theorem g_ior (X : St p l e R s m args below meth c n0 T h cells slots) (C : Cx p s m meth c Z bytes maxL ret own nme) {x y : Int32} (hd : decode bytes pc = .ok (.ior, 1))  (hp : pc + 1 = pc') (r : Go p e below Rest T (mkF m pc' L (.int (x ||| y) :: S))) : Go p e below Rest T (mkF m pc L (.int y :: .int x :: S)) := by
  obtain ⟨_, X, -, -⟩ := X; obtain ⟨hx, hby, -⟩ := C; subst hp
  exact go_by (fun t k => XS.ior X.here hx rfl (hb hby hd) rfl k) r
theorem g_lor (X : St p l e R s m args below meth c n0 T h cells slots) (C : Cx p s m meth c Z bytes maxL ret own nme) {x y : Int64} (hd : decode bytes pc = .ok (.lor, 1))  (hp : pc + 1 = pc') (r : Go p e below Rest T (mkF m pc' L (.long (x ||| y) :: S))) : Go p e below Rest T (mkF m pc L (.long y :: .long x :: S)) := by
  obtain ⟨_, X, -, -⟩ := X; obtain ⟨hx, hby, -⟩ := C; subst hp
  exact go_by (fun t k => XS.lor X.here hx rfl (hb hby hd) rfl k) r
theorem g_ixor (X : St p l e R s m args below meth c n0 T h cells slots) (C : Cx p s m meth c Z bytes maxL ret own nme) {x y : Int32} (hd : decode bytes pc = .ok (.ixor, 1))  (hp : pc + 1 = pc') (r : Go p e below Rest T (mkF m pc' L (.int (x ^^^ y) :: S))) : Go p e below Rest T (mkF m pc L (.int y :: .int x :: S)) := by
  obtain ⟨_, X, -, -⟩ := X; obtain ⟨hx, hby, -⟩ := C; subst hp
  exact go_by (fun t k => XS.ixor X.here hx rfl (hb hby hd) rfl k) r
theorem g_lxor (X : St p l e R s m args below meth c n0 T h cells slots) (C : Cx p s m meth c Z bytes maxL ret own nme) {x y : Int64} (hd : decode bytes pc = .ok (.lxor, 1))  (hp : pc + 1 = pc') (r : Go p e below Rest T (mkF m pc' L (.long (x ^^^ y) :: S))) : Go p e below Rest T (mkF m pc L (.long y :: .long x :: S)) := by
  obtain ⟨_, X, -, -⟩ := X; obtain ⟨hx, hby, -⟩ := C; subst hp
  exact go_by (fun t k => XS.lxor X.here hx rfl (hb hby hd) rfl k) r
theorem g_ishl (X : St p l e R s m args below meth c n0 T h cells slots) (C : Cx p s m meth c Z bytes maxL ret own nme) {x : Int32} {y : Int32} (hd : decode bytes pc = .ok (.ishl, 1))  (hp : pc + 1 = pc') (r : Go p e below Rest T (mkF m pc' L (.int (x <<< (y &&& 31)) :: S))) : Go p e below Rest T (mkF m pc L (.int y :: .int x :: S)) := by
  obtain ⟨_, X, -, -⟩ := X; obtain ⟨hx, hby, -⟩ := C; subst hp
  exact go_by (fun t k => XS.ishl X.here hx rfl (hb hby hd) rfl k) r
theorem g_ishr (X : St p l e R s m args below meth c n0 T h cells slots) (C : Cx p s m meth c Z bytes maxL ret own nme) {x : Int32} {y : Int32} (hd : decode bytes pc = .ok (.ishr, 1))  (hp : pc + 1 = pc') (r : Go p e below Rest T (mkF m pc' L (.int (x >>> (y &&& 31)) :: S))) : Go p e below Rest T (mkF m pc L (.int y :: .int x :: S)) := by
  obtain ⟨_, X, -, -⟩ := X; obtain ⟨hx, hby, -⟩ := C; subst hp
  exact go_by (fun t k => XS.ishr X.here hx rfl (hb hby hd) rfl k) r
theorem g_iushr (X : St p l e R s m args below meth c n0 T h cells slots) (C : Cx p s m meth c Z bytes maxL ret own nme) {x : Int32} {y : Int32} (hd : decode bytes pc = .ok (.iushr, 1))  (hp : pc + 1 = pc') (r : Go p e below Rest T (mkF m pc' L (.int ((x.toUInt32 >>> (y &&& 31).toUInt32).toInt32) :: S))) : Go p e below Rest T (mkF m pc L (.int y :: .int x :: S)) := by
  obtain ⟨_, X, -, -⟩ := X; obtain ⟨hx, hby, -⟩ := C; subst hp
  exact go_by (fun t k => XS.iushr X.here hx rfl (hb hby hd) rfl k) r
theorem g_lshl (X : St p l e R s m args below meth c n0 T h cells slots) (C : Cx p s m meth c Z bytes maxL ret own nme) {x : Int64} {y : Int32} (hd : decode bytes pc = .ok (.lshl, 1))  (hp : pc + 1 = pc') (r : Go p e below Rest T (mkF m pc' L (.long (x <<< (y &&& 0x3f).toInt64) :: S))) : Go p e below Rest T (mkF m pc L (.int y :: .long x :: S)) := by
  obtain ⟨_, X, -, -⟩ := X; obtain ⟨hx, hby, -⟩ := C; subst hp
  exact go_by (fun t k => XS.lshl X.here hx rfl (hb hby hd) rfl k) r
theorem g_lshr (X : St p l e R s m args below meth c n0 T h cells slots) (C : Cx p s m meth c Z bytes maxL ret own nme) {x : Int64} {y : Int32} (hd : decode bytes pc = .ok (.lshr, 1))  (hp : pc + 1 = pc') (r : Go p e below Rest T (mkF m pc' L (.long (x >>> (y &&& 0x3f).toInt64) :: S))) : Go p e below Rest T (mkF m pc L (.int y :: .long x :: S)) := by
  obtain ⟨_, X, -, -⟩ := X; obtain ⟨hx, hby, -⟩ := C; subst hp
  exact go_by (fun t k => XS.lshr X.here hx rfl (hb hby hd) rfl k) r
theorem g_lushr (X : St p l e R s m args below meth c n0 T h cells slots) (C : Cx p s m meth c Z bytes maxL ret own nme) {x : Int64} {y : Int32} (hd : decode bytes pc = .ok (.lushr, 1))  (hp : pc + 1 = pc') (r : Go p e below Rest T (mkF m pc' L (.long ((x.toUInt64 >>> (y &&& 0x3f).toInt64.toUInt64).toInt64) :: S))) : Go p e below Rest T (mkF m pc L (.int y :: .long x :: S)) := by
  obtain ⟨_, X, -, -⟩ := X; obtain ⟨hx, hby, -⟩ := C; subst hp
  exact go_by (fun t k => XS.lushr X.here hx rfl (hb hby hd) rfl k) r
theorem g_idiv (X : St p l e R s m args below meth c n0 T h cells slots) (C : Cx p s m meth c Z bytes maxL ret own nme) {x y : Int32} (hd : decode bytes pc = .ok (.idiv, 1)) (hy : y ≠ 0) (hp : pc + 1 = pc') (r : Go p e below Rest T (mkF m pc' L (.int (x / y) :: S))) : Go p e below Rest T (mkF m pc L (.int y :: .int x :: S)) := by
  obtain ⟨_, X, -, -⟩ := X; obtain ⟨hx, hby, -⟩ := C; subst hp
  exact go_by (fun t k => XS.idiv X.here hx rfl (hb hby hd) rfl hy k) r
theorem g_ldiv (X : St p l e R s m args below meth c n0 T h cells slots) (C : Cx p s m meth c Z bytes maxL ret own nme) {x y : Int64} (hd : decode bytes pc = .ok (.ldiv, 1)) (hy : y ≠ 0) (hp : pc + 1 = pc') (r : Go p e below Rest T (mkF m pc' L (.long (x / y) :: S))) : Go p e below Rest T (mkF m pc L (.long y :: .long x :: S)) := by
  obtain ⟨_, X, -, -⟩ := X; obtain ⟨hx, hby, -⟩ := C; subst hp
  exact go_by (fun t k => XS.ldiv X.here hx rfl (hb hby hd) rfl hy k) r
theorem g_ineg (X : St p l e R s m args below meth c n0 T h cells slots) (C : Cx p s m meth c Z bytes maxL ret own nme) {x : Int32} (hd : decode bytes pc = .ok (.ineg, 1))  (hp : pc + 1 = pc') (r : Go p e below Rest T (mkF m pc' L (.int ((-x)) :: S))) : Go p e below Rest T (mkF m pc L (.int x :: S)) := by
  obtain ⟨_, X, -, -⟩ := X; obtain ⟨hx, hby, -⟩ := C; subst hp
  exact go_by (fun t k => XS.ineg X.here hx rfl (hb hby hd) rfl k) r
theorem g_lneg (X : St p l e R s m args below meth c n0 T h cells slots) (C : Cx p s m meth c Z bytes maxL ret own nme) {x : Int64} (hd : decode bytes pc = .ok (.lneg, 1))  (hp : pc + 1 = pc') (r : Go p e below Rest T (mkF m pc' L (.long ((-x)) :: S))) : Go p e below Rest T (mkF m pc L (.long x :: S)) := by
  obtain ⟨_, X, -, -⟩ := X; obtain ⟨hx, hby, -⟩ := C; subst hp
  exact go_by (fun t k => XS.lneg X.here hx rfl (hb hby hd) rfl k) r
theorem g_i2l (X : St p l e R s m args below meth c n0 T h cells slots) (C : Cx p s m meth c Z bytes maxL ret own nme) {x : Int32} (hd : decode bytes pc = .ok (.i2l, 1))  (hp : pc + 1 = pc') (r : Go p e below Rest T (mkF m pc' L (.long (x.toInt64) :: S))) : Go p e below Rest T (mkF m pc L (.int x :: S)) := by
  obtain ⟨_, X, -, -⟩ := X; obtain ⟨hx, hby, -⟩ := C; subst hp
  exact go_by (fun t k => XS.i2l X.here hx rfl (hb hby hd) rfl k) r
theorem g_l2i (X : St p l e R s m args below meth c n0 T h cells slots) (C : Cx p s m meth c Z bytes maxL ret own nme) {x : Int64} (hd : decode bytes pc = .ok (.l2i, 1))  (hp : pc + 1 = pc') (r : Go p e below Rest T (mkF m pc' L (.int (x.toInt32) :: S))) : Go p e below Rest T (mkF m pc L (.long x :: S)) := by
  obtain ⟨_, X, -, -⟩ := X; obtain ⟨hx, hby, -⟩ := C; subst hp
  exact go_by (fun t k => XS.l2i X.here hx rfl (hb hby hd) rfl k) r
theorem g_i2b (X : St p l e R s m args below meth c n0 T h cells slots) (C : Cx p s m meth c Z bytes maxL ret own nme) {x : Int32} (hd : decode bytes pc = .ok (.i2b, 1))  (hp : pc + 1 = pc') (r : Go p e below Rest T (mkF m pc' L (.int (x.toInt8.toInt32) :: S))) : Go p e below Rest T (mkF m pc L (.int x :: S)) := by
  obtain ⟨_, X, -, -⟩ := X; obtain ⟨hx, hby, -⟩ := C; subst hp
  exact go_by (fun t k => XS.i2b X.here hx rfl (hb hby hd) rfl k) r
theorem g_i2s (X : St p l e R s m args below meth c n0 T h cells slots) (C : Cx p s m meth c Z bytes maxL ret own nme) {x : Int32} (hd : decode bytes pc = .ok (.i2s, 1))  (hp : pc + 1 = pc') (r : Go p e below Rest T (mkF m pc' L (.int (x.toInt16.toInt32) :: S))) : Go p e below Rest T (mkF m pc L (.int x :: S)) := by
  obtain ⟨_, X, -, -⟩ := X; obtain ⟨hx, hby, -⟩ := C; subst hp
  exact go_by (fun t k => XS.i2s X.here hx rfl (hb hby hd) rfl k) r
theorem g_i2c (X : St p l e R s m args below meth c n0 T h cells slots) (C : Cx p s m meth c Z bytes maxL ret own nme) {x : Int32} (hd : decode bytes pc = .ok (.i2c, 1))  (hp : pc + 1 = pc') (r : Go p e below Rest T (mkF m pc' L (.int (x.toUInt32.toUInt16.toUInt32.toInt32) :: S))) : Go p e below Rest T (mkF m pc L (.int x :: S)) := by
  obtain ⟨_, X, -, -⟩ := X; obtain ⟨hx, hby, -⟩ := C; subst hp
  exact go_by (fun t k => XS.i2c X.here hx rfl (hb hby hd) rfl k) r
theorem g_lcmp (X : St p l e R s m args below meth c n0 T h cells slots) (C : Cx p s m meth c Z bytes maxL ret own nme) {x y : Int64} (hd : decode bytes pc = .ok (.lcmp, 1))  (hp : pc + 1 = pc') (r : Go p e below Rest T (mkF m pc' L (.int (lcmpW x y) :: S))) : Go p e below Rest T (mkF m pc L (.long y :: .long x :: S)) := by
  obtain ⟨_, X, -, -⟩ := X; obtain ⟨hx, hby, -⟩ := C; subst hp
  exact go_by (fun t k => XS.lcmp X.here hx rfl (hb hby hd) rfl k) r
theorem g_dup (X : St p l e R s m args below meth c n0 T h cells slots) (C : Cx p s m meth c Z bytes maxL ret own nme) {x : Value} (hd : decode bytes pc = .ok (.dup, 1)) (hc : x.category = 1) (hp : pc + 1 = pc') (r : Go p e below Rest T (mkF m pc' L (x :: x :: S))) : Go p e below Rest T (mkF m pc L (x :: S)) := by
  obtain ⟨_, X, -, -⟩ := X; obtain ⟨hx, hby, -⟩ := C; subst hp
  exact go_by (fun t k => XS.dup X.here hx rfl (hb hby hd) rfl hc k) r
theorem g_pop (X : St p l e R s m args below meth c n0 T h cells slots) (C : Cx p s m meth c Z bytes maxL ret own nme) {x : Value} (hd : decode bytes pc = .ok (.pop, 1)) (hc : x.category = 1) (hp : pc + 1 = pc') (r : Go p e below Rest T (mkF m pc' L S)) : Go p e below Rest T (mkF m pc L (x :: S)) := by
  obtain ⟨_, X, -, -⟩ := X; obtain ⟨hx, hby, -⟩ := C; subst hp
  exact go_by (fun t k => XS.pop X.here hx rfl (hb hby hd) rfl hc k) r
theorem g_dupx1 (X : St p l e R s m args below meth c n0 T h cells slots) (C : Cx p s m meth c Z bytes maxL ret own nme) {x y : Value} (hd : decode bytes pc = .ok (.dup_x1, 1)) (hc : x.category = 1) (hc' : y.category = 1) (hp : pc + 1 = pc') (r : Go p e below Rest T (mkF m pc' L (x :: y :: x :: S))) : Go p e below Rest T (mkF m pc L (x :: y :: S)) := by
  obtain ⟨_, X, -, -⟩ := X; obtain ⟨hx, hby, -⟩ := C; subst hp
  exact go_by (fun t k => XS.dupX1 X.here hx rfl (hb hby hd) rfl hc hc' k) r
theorem g_dup2 (X : St p l e R s m args below meth c n0 T h cells slots) (C : Cx p s m meth c Z bytes maxL ret own nme) {x y : Value} (hd : decode bytes pc = .ok (.dup2, 1)) (hc : x.category = 1) (hc' : y.category = 1) (hp : pc + 1 = pc') (r : Go p e below Rest T (mkF m pc' L (x :: y :: x :: y :: S))) : Go p e below Rest T (mkF m pc L (x :: y :: S)) := by
  obtain ⟨_, X, -, -⟩ := X; obtain ⟨hx, hby, -⟩ := C; subst hp
  exact go_by (fun t k => XT.dup2 X.here hx rfl (hb hby hd) rfl hc hc' k) r
theorem g_dup2L (X : St p l e R s m args below meth c n0 T h cells slots) (C : Cx p s m meth c Z bytes maxL ret own nme) {x : Int64} (hd : decode bytes pc = .ok (.dup2, 1))  (hp : pc + 1 = pc') (r : Go p e below Rest T (mkF m pc' L (.long x :: .long x :: S))) : Go p e below Rest T (mkF m pc L (.long x :: S)) := by
  obtain ⟨_, X, -, -⟩ := X; obtain ⟨hx, hby, -⟩ := C; subst hp
  exact go_by (fun t k => XT.dup2L X.here hx rfl (hb hby hd) rfl k) r
theorem g_iinc (X : St p l e R s m args below meth c n0 T h cells slots) (C : Cx p s m meth c Z bytes maxL ret own nme) {k : Nat} {i : Int} {v v' : Int32} (hd : decode bytes pc = .ok (.iinc k i, 3)) (hl : L[k]? = some (.val (.int v))) (hv : v' = v + Int32.ofInt i) (hs : storeLocals L k (.int v') = some L') (hp : pc + 3 = pc') (r : Go p e below Rest T (mkF m pc' L' S)) : Go p e below Rest T (mkF m pc L S) := by
  obtain ⟨_, X, -, -⟩ := X; obtain ⟨hx, hby, -⟩ := C; subst hp
  exact go_by (fun t k => XS.iinc X.here hx rfl (hb hby hd) hl (hv ▸ hs) k) r
theorem g_goto (X : St p l e R s m args below meth c n0 T h cells slots) (C : Cx p s m meth c Z bytes maxL ret own nme) {o : Int} (hd : decode bytes pc = .ok (.goto o, 3)) (h0 : 0 ≤ (pc : Int) + o) (hp : ((pc : Int) + o).toNat = pc') (r : Go p e below Rest T (mkF m pc' L S)) : Go p e below Rest T (mkF m pc L S) := by
  obtain ⟨_, X, -, -⟩ := X; obtain ⟨hx, hby, -⟩ := C
  exact go_by (fun t k => XS.goto X.here hx rfl (pc0 := pc) rfl (hb hby hd) h0 hp k) r
theorem g_icmp (X : St p l e R s m args below meth c n0 T h cells slots) (C : Cx p s m meth c Z bytes maxL ret own nme) {cd : ClassFile.Cond} {o : Int} {x y : Int32} {pT pF : Nat} (hd : decode bytes pc = .ok (.if_icmp cd o, 3)) (h0 : 0 ≤ (pc : Int) + o) (hT : ((pc : Int) + o).toNat = pT) (hF : pc + 3 = pF) (r1 : if_icmp.holds cd x y = true → Go p e below Rest T (mkF m pT L S)) (r2 : if_icmp.holds cd x y = false → Go p e below Rest T (mkF m pF L S)) : Go p e below Rest T (mkF m pc L (.int y :: .int x :: S)) := by
  obtain ⟨_, X, -, -⟩ := X; obtain ⟨hx, hby, -⟩ := C
  rcases Bool.eq_false_or_eq_true (if_icmp.holds cd x y) with q | q
  · exact go_by (fun t k => XS.icmpYes X.here hx rfl (pc0 := pc) rfl (hb hby hd) rfl q h0 hT k) (r1 q)
  · subst hF; exact go_by (fun t k => XS.icmpNo X.here hx rfl (hb hby hd) rfl q k) (r2 q)
theorem g_if (X : St p l e R s m args below meth c n0 T h cells slots) (C : Cx p s m meth c Z bytes maxL ret own nme) {cd : ClassFile.Cond} {o : Int} {x : Int32} {pT pF : Nat} (hd : decode bytes pc = .ok (.ifCond cd o, 3)) (h0 : 0 ≤ (pc : Int) + o) (hT : ((pc : Int) + o).toNat = pT) (hF : pc + 3 = pF) (r1 : if_icmp.holds cd x 0 = true → Go p e below Rest T (mkF m pT L S)) (r2 : if_icmp.holds cd x 0 = false → Go p e below Rest T (mkF m pF L S)) : Go p e below Rest T (mkF m pc L (.int x :: S)) := by
  obtain ⟨_, X, -, -⟩ := X; obtain ⟨hx, hby, -⟩ := C
  rcases Bool.eq_false_or_eq_true (if_icmp.holds cd x 0) with q | q
  · exact go_by (fun t k => XS.ifYes X.here hx rfl (pc0 := pc) rfl (hb hby hd) rfl ((if0 _ _).trans q) h0 hT k) (r1 q)
  · subst hF; exact go_by (fun t k => XS.ifNo X.here hx rfl (hb hby hd) rfl ((if0 _ _).trans q) k) (r2 q)
theorem hold_lt {x y : Int32} {a b : Int} (ha : x.toInt = a) (hb' : y.toInt = b) : (if_icmp.holds .lt x y = true → a < b) ∧ (if_icmp.holds .lt x y = false → b ≤ a) := by
  subst ha hb'
  constructor <;> intro q <;> simp [if_icmp.holds, Int32.lt_iff_toInt_lt, Int32.le_iff_toInt_le, ← Int32.toInt_inj] at q <;> omega
theorem g_icmp_lt (X : St p l e R s m args below meth c n0 T h cells slots) (C : Cx p s m meth c Z bytes maxL ret own nme) {o : Int} {x y : Int32} {a b : Int} {pT pF : Nat} (hd : decode bytes pc = .ok (.if_icmp .lt o, 3)) (ha : x.toInt = a) (hb' : y.toInt = b) (h0 : 0 ≤ (pc : Int) + o) (hT : ((pc : Int) + o).toNat = pT) (hF : pc + 3 = pF) (r1 : a < b → Go p e below Rest T (mkF m pT L S)) (r2 : b ≤ a → Go p e below Rest T (mkF m pF L S)) : Go p e below Rest T (mkF m pc L (.int y :: .int x :: S)) :=
  g_icmp X C hd h0 hT hF (fun q => r1 ((hold_lt ha hb').1 q)) (fun q => r2 ((hold_lt ha hb').2 q))
theorem g_if_lt (X : St p l e R s m args below meth c n0 T h cells slots) (C : Cx p s m meth c Z bytes maxL ret own nme) {o : Int} {x : Int32} {a : Int} {pT pF : Nat} (hd : decode bytes pc = .ok (.ifCond .lt o, 3)) (ha : x.toInt = a) (h0 : 0 ≤ (pc : Int) + o) (hT : ((pc : Int) + o).toNat = pT) (hF : pc + 3 = pF) (r1 : a < 0 → Go p e below Rest T (mkF m pT L S)) (r2 : 0 ≤ a → Go p e below Rest T (mkF m pF L S)) : Go p e below Rest T (mkF m pc L (.int x :: S)) :=
  g_if X C hd h0 hT hF (fun q => r1 ((hold_lt ha (by decide)).1 q)) (fun q => r2 ((hold_lt ha (by decide)).2 q))
theorem hlc_lt {x y : Int64} {a b : Int} (ha : x.toInt = a) (hb' : y.toInt = b) : (if_icmp.holds .lt (lcmpW x y) 0 = true → a < b) ∧ (if_icmp.holds .lt (lcmpW x y) 0 = false → b ≤ a) := by
  have h1 := c_lcmp x y; subst ha hb'
  have h3 := hold_lt (x := lcmpW x y) (y := 0) rfl (b := 0) (by decide)
  refine ⟨fun q => ?_, fun q => ?_⟩
  · have := h3.1 q; omega
  · have := h3.2 q; omega
theorem g_lif_lt (X : St p l e R s m args below meth c n0 T h cells slots) (C : Cx p s m meth c Z bytes maxL ret own nme) {o : Int} {x y : Int64} {a b : Int} {pT pF : Nat} (hd : decode bytes pc = .ok (.ifCond .lt o, 3)) (ha : x.toInt = a) (hb' : y.toInt = b) (h0 : 0 ≤ (pc : Int) + o) (hT : ((pc : Int) + o).toNat = pT) (hF : pc + 3 = pF) (r1 : a < b → Go p e below Rest T (mkF m pT L S)) (r2 : b ≤ a → Go p e below Rest T (mkF m pF L S)) : Go p e below Rest T (mkF m pc L (.int (lcmpW x y) :: S)) :=
  g_if X C hd h0 hT hF (fun q => r1 ((hlc_lt ha hb').1 q)) (fun q => r2 ((hlc_lt ha hb').2 q))
theorem hold_ge {x y : Int32} {a b : Int} (ha : x.toInt = a) (hb' : y.toInt = b) : (if_icmp.holds .ge x y = true → b ≤ a) ∧ (if_icmp.holds .ge x y = false → a < b) := by
  subst ha hb'
  constructor <;> intro q <;> simp [if_icmp.holds, Int32.lt_iff_toInt_lt, Int32.le_iff_toInt_le, ← Int32.toInt_inj] at q <;> omega
theorem g_icmp_ge (X : St p l e R s m args below meth c n0 T h cells slots) (C : Cx p s m meth c Z bytes maxL ret own nme) {o : Int} {x y : Int32} {a b : Int} {pT pF : Nat} (hd : decode bytes pc = .ok (.if_icmp .ge o, 3)) (ha : x.toInt = a) (hb' : y.toInt = b) (h0 : 0 ≤ (pc : Int) + o) (hT : ((pc : Int) + o).toNat = pT) (hF : pc + 3 = pF) (r1 : b ≤ a → Go p e below Rest T (mkF m pT L S)) (r2 : a < b → Go p e below Rest T (mkF m pF L S)) : Go p e below Rest T (mkF m pc L (.int y :: .int x :: S)) :=
  g_icmp X C hd h0 hT hF (fun q => r1 ((hold_ge ha hb').1 q)) (fun q => r2 ((hold_ge ha hb').2 q))
theorem g_if_ge (X : St p l e R s m args below meth c n0 T h cells slots) (C : Cx p s m meth c Z bytes maxL ret own nme) {o : Int} {x : Int32} {a : Int} {pT pF : Nat} (hd : decode bytes pc = .ok (.ifCond .ge o, 3)) (ha : x.toInt = a) (h0 : 0 ≤ (pc : Int) + o) (hT : ((pc : Int) + o).toNat = pT) (hF : pc + 3 = pF) (r1 : 0 ≤ a → Go p e below Rest T (mkF m pT L S)) (r2 : a < 0 → Go p e below Rest T (mkF m pF L S)) : Go p e below Rest T (mkF m pc L (.int x :: S)) :=
  g_if X C hd h0 hT hF (fun q => r1 ((hold_ge ha (by decide)).1 q)) (fun q => r2 ((hold_ge ha (by decide)).2 q))
theorem hlc_ge {x y : Int64} {a b : Int} (ha : x.toInt = a) (hb' : y.toInt = b) : (if_icmp.holds .ge (lcmpW x y) 0 = true → b ≤ a) ∧ (if_icmp.holds .ge (lcmpW x y) 0 = false → a < b) := by
  have h1 := c_lcmp x y; subst ha hb'
  have h3 := hold_ge (x := lcmpW x y) (y := 0) rfl (b := 0) (by decide)
  refine ⟨fun q => ?_, fun q => ?_⟩
  · have := h3.1 q; omega
  · have := h3.2 q; omega
theorem g_lif_ge (X : St p l e R s m args below meth c n0 T h cells slots) (C : Cx p s m meth c Z bytes maxL ret own nme) {o : Int} {x y : Int64} {a b : Int} {pT pF : Nat} (hd : decode bytes pc = .ok (.ifCond .ge o, 3)) (ha : x.toInt = a) (hb' : y.toInt = b) (h0 : 0 ≤ (pc : Int) + o) (hT : ((pc : Int) + o).toNat = pT) (hF : pc + 3 = pF) (r1 : b ≤ a → Go p e below Rest T (mkF m pT L S)) (r2 : a < b → Go p e below Rest T (mkF m pF L S)) : Go p e below Rest T (mkF m pc L (.int (lcmpW x y) :: S)) :=
  g_if X C hd h0 hT hF (fun q => r1 ((hlc_ge ha hb').1 q)) (fun q => r2 ((hlc_ge ha hb').2 q))
theorem hold_gt {x y : Int32} {a b : Int} (ha : x.toInt = a) (hb' : y.toInt = b) : (if_icmp.holds .gt x y = true → b < a) ∧ (if_icmp.holds .gt x y = false → a ≤ b) := by
  subst ha hb'
  constructor <;> intro q <;> simp [if_icmp.holds, Int32.lt_iff_toInt_lt, Int32.le_iff_toInt_le, ← Int32.toInt_inj] at q <;> omega
theorem g_icmp_gt (X : St p l e R s m args below meth c n0 T h cells slots) (C : Cx p s m meth c Z bytes maxL ret own nme) {o : Int} {x y : Int32} {a b : Int} {pT pF : Nat} (hd : decode bytes pc = .ok (.if_icmp .gt o, 3)) (ha : x.toInt = a) (hb' : y.toInt = b) (h0 : 0 ≤ (pc : Int) + o) (hT : ((pc : Int) + o).toNat = pT) (hF : pc + 3 = pF) (r1 : b < a → Go p e below Rest T (mkF m pT L S)) (r2 : a ≤ b → Go p e below Rest T (mkF m pF L S)) : Go p e below Rest T (mkF m pc L (.int y :: .int x :: S)) :=
  g_icmp X C hd h0 hT hF (fun q => r1 ((hold_gt ha hb').1 q)) (fun q => r2 ((hold_gt ha hb').2 q))
theorem g_if_gt (X : St p l e R s m args below meth c n0 T h cells slots) (C : Cx p s m meth c Z bytes maxL ret own nme) {o : Int} {x : Int32} {a : Int} {pT pF : Nat} (hd : decode bytes pc = .ok (.ifCond .gt o, 3)) (ha : x.toInt = a) (h0 : 0 ≤ (pc : Int) + o) (hT : ((pc : Int) + o).toNat = pT) (hF : pc + 3 = pF) (r1 : 0 < a → Go p e below Rest T (mkF m pT L S)) (r2 : a ≤ 0 → Go p e below Rest T (mkF m pF L S)) : Go p e below Rest T (mkF m pc L (.int x :: S)) :=
  g_if X C hd h0 hT hF (fun q => r1 ((hold_gt ha (by decide)).1 q)) (fun q => r2 ((hold_gt ha (by decide)).2 q))
theorem hlc_gt {x y : Int64} {a b : Int} (ha : x.toInt = a) (hb' : y.toInt = b) : (if_icmp.holds .gt (lcmpW x y) 0 = true → b < a) ∧ (if_icmp.holds .gt (lcmpW x y) 0 = false → a ≤ b) := by
  have h1 := c_lcmp x y; subst ha hb'
  have h3 := hold_gt (x := lcmpW x y) (y := 0) rfl (b := 0) (by decide)
  refine ⟨fun q => ?_, fun q => ?_⟩
  · have := h3.1 q; omega
  · have := h3.2 q; omega
theorem g_lif_gt (X : St p l e R s m args below meth c n0 T h cells slots) (C : Cx p s m meth c Z bytes maxL ret own nme) {o : Int} {x y : Int64} {a b : Int} {pT pF : Nat} (hd : decode bytes pc = .ok (.ifCond .gt o, 3)) (ha : x.toInt = a) (hb' : y.toInt = b) (h0 : 0 ≤ (pc : Int) + o) (hT : ((pc : Int) + o).toNat = pT) (hF : pc + 3 = pF) (r1 : b < a → Go p e below Rest T (mkF m pT L S)) (r2 : a ≤ b → Go p e below Rest T (mkF m pF L S)) : Go p e below Rest T (mkF m pc L (.int (lcmpW x y) :: S)) :=
  g_if X C hd h0 hT hF (fun q => r1 ((hlc_gt ha hb').1 q)) (fun q => r2 ((hlc_gt ha hb').2 q))
theorem hold_le {x y : Int32} {a b : Int} (ha : x.toInt = a) (hb' : y.toInt = b) : (if_icmp.holds .le x y = true → a ≤ b) ∧ (if_icmp.holds .le x y = false → b < a) := by
  subst ha hb'
  constructor <;> intro q <;> simp [if_icmp.holds, Int32.lt_iff_toInt_lt, Int32.le_iff_toInt_le, ← Int32.toInt_inj] at q <;> omega
theorem g_icmp_le (X : St p l e R s m args below meth c n0 T h cells slots) (C : Cx p s m meth c Z bytes maxL ret own nme) {o : Int} {x y : Int32} {a b : Int} {pT pF : Nat} (hd : decode bytes pc = .ok (.if_icmp .le o, 3)) (ha : x.toInt = a) (hb' : y.toInt = b) (h0 : 0 ≤ (pc : Int) + o) (hT : ((pc : Int) + o).toNat = pT) (hF : pc + 3 = pF) (r1 : a ≤ b → Go p e below Rest T (mkF m pT L S)) (r2 : b < a → Go p e below Rest T (mkF m pF L S)) : Go p e below Rest T (mkF m pc L (.int y :: .int x :: S)) :=
  g_icmp X C hd h0 hT hF (fun q => r1 ((hold_le ha hb').1 q)) (fun q => r2 ((hold_le ha hb').2 q))
theorem g_if_le (X : St p l e R s m args below meth c n0 T h cells slots) (C : Cx p s m meth c Z bytes maxL ret own nme) {o : Int} {x : Int32} {a : Int} {pT pF : Nat} (hd : decode bytes pc = .ok (.ifCond .le o, 3)) (ha : x.toInt = a) (h0 : 0 ≤ (pc : Int) + o) (hT : ((pc : Int) + o).toNat = pT) (hF : pc + 3 = pF) (r1 : a ≤ 0 → Go p e below Rest T (mkF m pT L S)) (r2 : 0 < a → Go p e below Rest T (mkF m pF L S)) : Go p e below Rest T (mkF m pc L (.int x :: S)) :=
  g_if X C hd h0 hT hF (fun q => r1 ((hold_le ha (by decide)).1 q)) (fun q => r2 ((hold_le ha (by decide)).2 q))
theorem hlc_le {x y : Int64} {a b : Int} (ha : x.toInt = a) (hb' : y.toInt = b) : (if_icmp.holds .le (lcmpW x y) 0 = true → a ≤ b) ∧ (if_icmp.holds .le (lcmpW x y) 0 = false → b < a) := by
  have h1 := c_lcmp x y; subst ha hb'
  have h3 := hold_le (x := lcmpW x y) (y := 0) rfl (b := 0) (by decide)
  refine ⟨fun q => ?_, fun q => ?_⟩
  · have := h3.1 q; omega
  · have := h3.2 q; omega
theorem g_lif_le (X : St p l e R s m args below meth c n0 T h cells slots) (C : Cx p s m meth c Z bytes maxL ret own nme) {o : Int} {x y : Int64} {a b : Int} {pT pF : Nat} (hd : decode bytes pc = .ok (.ifCond .le o, 3)) (ha : x.toInt = a) (hb' : y.toInt = b) (h0 : 0 ≤ (pc : Int) + o) (hT : ((pc : Int) + o).toNat = pT) (hF : pc + 3 = pF) (r1 : a ≤ b → Go p e below Rest T (mkF m pT L S)) (r2 : b < a → Go p e below Rest T (mkF m pF L S)) : Go p e below Rest T (mkF m pc L (.int (lcmpW x y) :: S)) :=
  g_if X C hd h0 hT hF (fun q => r1 ((hlc_le ha hb').1 q)) (fun q => r2 ((hlc_le ha hb').2 q))
theorem hold_eq {x y : Int32} {a b : Int} (ha : x.toInt = a) (hb' : y.toInt = b) : (if_icmp.holds .eq x y = true → a = b) ∧ (if_icmp.holds .eq x y = false → a ≠ b) := by
  subst ha hb'
  constructor <;> intro q <;> simp [if_icmp.holds, Int32.lt_iff_toInt_lt, Int32.le_iff_toInt_le, ← Int32.toInt_inj] at q <;> omega
theorem g_icmp_eq (X : St p l e R s m args below meth c n0 T h cells slots) (C : Cx p s m meth c Z bytes maxL ret own nme) {o : Int} {x y : Int32} {a b : Int} {pT pF : Nat} (hd : decode bytes pc = .ok (.if_icmp .eq o, 3)) (ha : x.toInt = a) (hb' : y.toInt = b) (h0 : 0 ≤ (pc : Int) + o) (hT : ((pc : Int) + o).toNat = pT) (hF : pc + 3 = pF) (r1 : a = b → Go p e below Rest T (mkF m pT L S)) (r2 : a ≠ b → Go p e below Rest T (mkF m pF L S)) : Go p e below Rest T (mkF m pc L (.int y :: .int x :: S)) :=
  g_icmp X C hd h0 hT hF (fun q => r1 ((hold_eq ha hb').1 q)) (fun q => r2 ((hold_eq ha hb').2 q))
theorem g_if_eq (X : St p l e R s m args below meth c n0 T h cells slots) (C : Cx p s m meth c Z bytes maxL ret own nme) {o : Int} {x : Int32} {a : Int} {pT pF : Nat} (hd : decode bytes pc = .ok (.ifCond .eq o, 3)) (ha : x.toInt = a) (h0 : 0 ≤ (pc : Int) + o) (hT : ((pc : Int) + o).toNat = pT) (hF : pc + 3 = pF) (r1 : a = 0 → Go p e below Rest T (mkF m pT L S)) (r2 : a ≠ 0 → Go p e below Rest T (mkF m pF L S)) : Go p e below Rest T (mkF m pc L (.int x :: S)) :=
  g_if X C hd h0 hT hF (fun q => r1 ((hold_eq ha (by decide)).1 q)) (fun q => r2 ((hold_eq ha (by decide)).2 q))
theorem hlc_eq {x y : Int64} {a b : Int} (ha : x.toInt = a) (hb' : y.toInt = b) : (if_icmp.holds .eq (lcmpW x y) 0 = true → a = b) ∧ (if_icmp.holds .eq (lcmpW x y) 0 = false → a ≠ b) := by
  have h1 := c_lcmp x y; subst ha hb'
  have h3 := hold_eq (x := lcmpW x y) (y := 0) rfl (b := 0) (by decide)
  refine ⟨fun q => ?_, fun q => ?_⟩
  · have := h3.1 q; omega
  · have := h3.2 q; omega
theorem g_lif_eq (X : St p l e R s m args below meth c n0 T h cells slots) (C : Cx p s m meth c Z bytes maxL ret own nme) {o : Int} {x y : Int64} {a b : Int} {pT pF : Nat} (hd : decode bytes pc = .ok (.ifCond .eq o, 3)) (ha : x.toInt = a) (hb' : y.toInt = b) (h0 : 0 ≤ (pc : Int) + o) (hT : ((pc : Int) + o).toNat = pT) (hF : pc + 3 = pF) (r1 : a = b → Go p e below Rest T (mkF m pT L S)) (r2 : a ≠ b → Go p e below Rest T (mkF m pF L S)) : Go p e below Rest T (mkF m pc L (.int (lcmpW x y) :: S)) :=
  g_if X C hd h0 hT hF (fun q => r1 ((hlc_eq ha hb').1 q)) (fun q => r2 ((hlc_eq ha hb').2 q))
theorem hold_ne {x y : Int32} {a b : Int} (ha : x.toInt = a) (hb' : y.toInt = b) : (if_icmp.holds .ne x y = true → a ≠ b) ∧ (if_icmp.holds .ne x y = false → a = b) := by
  subst ha hb'
  constructor <;> intro q <;> simp [if_icmp.holds, Int32.lt_iff_toInt_lt, Int32.le_iff_toInt_le, ← Int32.toInt_inj] at q <;> omega
theorem g_icmp_ne (X : St p l e R s m args below meth c n0 T h cells slots) (C : Cx p s m meth c Z bytes maxL ret own nme) {o : Int} {x y : Int32} {a b : Int} {pT pF : Nat} (hd : decode bytes pc = .ok (.if_icmp .ne o, 3)) (ha : x.toInt = a) (hb' : y.toInt = b) (h0 : 0 ≤ (pc : Int) + o) (hT : ((pc : Int) + o).toNat = pT) (hF : pc + 3 = pF) (r1 : a ≠ b → Go p e below Rest T (mkF m pT L S)) (r2 : a = b → Go p e below Rest T (mkF m pF L S)) : Go p e below Rest T (mkF m pc L (.int y :: .int x :: S)) :=
  g_icmp X C hd h0 hT hF (fun q => r1 ((hold_ne ha hb').1 q)) (fun q => r2 ((hold_ne ha hb').2 q))
theorem g_if_ne (X : St p l e R s m args below meth c n0 T h cells slots) (C : Cx p s m meth c Z bytes maxL ret own nme) {o : Int} {x : Int32} {a : Int} {pT pF : Nat} (hd : decode bytes pc = .ok (.ifCond .ne o, 3)) (ha : x.toInt = a) (h0 : 0 ≤ (pc : Int) + o) (hT : ((pc : Int) + o).toNat = pT) (hF : pc + 3 = pF) (r1 : a ≠ 0 → Go p e below Rest T (mkF m pT L S)) (r2 : a = 0 → Go p e below Rest T (mkF m pF L S)) : Go p e below Rest T (mkF m pc L (.int x :: S)) :=
  g_if X C hd h0 hT hF (fun q => r1 ((hold_ne ha (by decide)).1 q)) (fun q => r2 ((hold_ne ha (by decide)).2 q))
theorem hlc_ne {x y : Int64} {a b : Int} (ha : x.toInt = a) (hb' : y.toInt = b) : (if_icmp.holds .ne (lcmpW x y) 0 = true → a ≠ b) ∧ (if_icmp.holds .ne (lcmpW x y) 0 = false → a = b) := by
  have h1 := c_lcmp x y; subst ha hb'
  have h3 := hold_ne (x := lcmpW x y) (y := 0) rfl (b := 0) (by decide)
  refine ⟨fun q => ?_, fun q => ?_⟩
  · have := h3.1 q; omega
  · have := h3.2 q; omega
theorem g_lif_ne (X : St p l e R s m args below meth c n0 T h cells slots) (C : Cx p s m meth c Z bytes maxL ret own nme) {o : Int} {x y : Int64} {a b : Int} {pT pF : Nat} (hd : decode bytes pc = .ok (.ifCond .ne o, 3)) (ha : x.toInt = a) (hb' : y.toInt = b) (h0 : 0 ≤ (pc : Int) + o) (hT : ((pc : Int) + o).toNat = pT) (hF : pc + 3 = pF) (r1 : a ≠ b → Go p e below Rest T (mkF m pT L S)) (r2 : a = b → Go p e below Rest T (mkF m pF L S)) : Go p e below Rest T (mkF m pc L (.int (lcmpW x y) :: S)) :=
  g_if X C hd h0 hT hF (fun q => r1 ((hlc_ne ha hb').1 q)) (fun q => r2 ((hlc_ne ha hb').2 q))
theorem g_nullY (X : St p l e R s m args below meth c n0 T h cells slots) (C : Cx p s m meth c Z bytes maxL ret own nme) {o : Int} {pT : Nat} (hd : decode bytes pc = .ok (.ifnull o, 3)) (h0 : 0 ≤ (pc : Int) + o) (hT : ((pc : Int) + o).toNat = pT) (r : Go p e below Rest T (mkF m pT L S)) : Go p e below Rest T (mkF m pc L (.null :: S)) := by
  obtain ⟨_, X, -, -⟩ := X; obtain ⟨hx, hby, -⟩ := C
  exact go_by (fun t k => XS.ifnullYes X.here hx rfl (pc0 := pc) rfl (hb hby hd) rfl h0 hT k) r
theorem g_nullN (X : St p l e R s m args below meth c n0 T h cells slots) (C : Cx p s m meth c Z bytes maxL ret own nme) {o : Int} {b : Addr} {pF : Nat} (hd : decode bytes pc = .ok (.ifnull o, 3)) (hF : pc + 3 = pF) (r : Go p e below Rest T (mkF m pF L S)) : Go p e below Rest T (mkF m pc L (.ref b :: S)) := by
  obtain ⟨_, X, -, -⟩ := X; obtain ⟨hx, hby, -⟩ := C; subst hF
  exact go_by (fun t k => XS.ifnullNo X.here hx rfl (hb hby hd) rfl k) r
theorem g_nonnullY (X : St p l e R s m args below meth c n0 T h cells slots) (C : Cx p s m meth c Z bytes maxL ret own nme) {o : Int} {b : Addr} {pT : Nat} (hd : decode bytes pc = .ok (.ifnonnull o, 3)) (h0 : 0 ≤ (pc : Int) + o) (hT : ((pc : Int) + o).toNat = pT) (r : Go p e below Rest T (mkF m pT L S)) : Go p e below Rest T (mkF m pc L (.ref b :: S)) := by
  obtain ⟨_, X, -, -⟩ := X; obtain ⟨hx, hby, -⟩ := C
  exact go_by (fun t k => XS.ifnonnullYes X.here hx rfl (pc0 := pc) rfl (hb hby hd) rfl h0 hT k) r
theorem g_nonnullN (X : St p l e R s m args below meth c n0 T h cells slots) (C : Cx p s m meth c Z bytes maxL ret own nme) {o : Int} {pF : Nat} (hd : decode bytes pc = .ok (.ifnonnull o, 3)) (hF : pc + 3 = pF) (r : Go p e below Rest T (mkF m pF L S)) : Go p e below Rest T (mkF m pc L (.null :: S)) := by
  obtain ⟨_, X, -, -⟩ := X; obtain ⟨hx, hby, -⟩ := C; subst hF
  exact go_by (fun t k => XS.ifnonnullNo X.here hx rfl (hb hby hd) rfl k) r
theorem g_irem (X : St p l e R s m args below meth c n0 T h cells slots) (C : Cx p s m meth c Z bytes maxL ret own nme) {x y : Int32} (hd : decode bytes pc = .ok (.irem, 1)) (hy : y ≠ 0) (hp : pc + 1 = pc') (r : Go p e below Rest T (mkF m pc' L (.int (x % y) :: S))) : Go p e below Rest T (mkF m pc L (.int y :: .int x :: S)) := by
  obtain ⟨_, X, -, -⟩ := X; obtain ⟨hx, hby, -⟩ := C; subst hp
  exact go_by (fun t k => iremM X hx rfl (hb hby hd) rfl hy k) r
theorem g_lrem (X : St p l e R s m args below meth c n0 T h cells slots) (C : Cx p s m meth c Z bytes maxL ret own nme) {x y : Int64} (hd : decode bytes pc = .ok (.lrem, 1)) (hy : y ≠ 0) (hp : pc + 1 = pc') (r : Go p e below Rest T (mkF m pc' L (.long (x % y) :: S))) : Go p e below Rest T (mkF m pc L (.long y :: .long x :: S)) := by
  obtain ⟨_, X, -, -⟩ := X; obtain ⟨hx, hby, -⟩ := C; subst hp
  rw [← lrem_mod] at r
  exact go_by (fun t k => XS.lrem X.here hx rfl (hb hby hd) rfl hy k) r
theorem g_ldcI (X : St p l e R s m args below meth c n0 T h cells slots) (C : Cx p s m meth c Z bytes maxL ret own nme) {index : Nat} {v : Int32} (w : (Jvm.Cond.constant own index v).before a0 Z = true) (hd : decode bytes pc = .ok (.ldc index, 2)) (hp : pc + 2 = pc') (r : Go p e below Rest T (mkF m pc' L (.int v :: S))) : Go p e below Rest T (mkF m pc L S) := by
  obtain ⟨_, X, -, -⟩ := X; obtain ⟨hx, hby, -, -, -, hown, -, hZ⟩ := C; subst hp
  exact go_by (X.ldcInt hx hown (mvT hZ w) (g := mkF m pc L S) rfl (hb hby hd)) r
theorem g_ldcJ (X : St p l e R s m args below meth c n0 T h cells slots) (C : Cx p s m meth c Z bytes maxL ret own nme) {index : Nat} {v : Int64} (w : (Jvm.Cond.constantLong own index v).before a0 Z = true) (hd : decode bytes pc = .ok (.ldc2_w index, 3)) (hp : pc + 3 = pc') (r : Go p e below Rest T (mkF m pc' L (.long v :: S))) : Go p e below Rest T (mkF m pc L S) := by
  obtain ⟨_, X, -, -⟩ := X; obtain ⟨hx, hby, -, -, -, hown, -, hZ⟩ := C; subst hp
  exact go_by (X.ldc2Long hx hown (mvT hZ w) (g := mkF m pc L S) rfl (hb hby hd)) r
/-- an array: its kind, its length, what each place holds -/
def Ar (Z : State) (h : Heap) (a : Addr) (ty : FieldType) (n : Nat) (fn : Nat → Value) : Prop := ∃ cl : Cell, Arr Z h a cl ty ∧ cl.slots.size = n ∧ ∀ j, j < n → cl.slots[j]? = some (fn j)
theorem Ar.lt {a : Addr} {ty : FieldType} {n : Nat} {fn : Nat → Value} (A : Ar Z h a ty n fn) : a < h.size := by obtain ⟨_, A, -⟩ := A; exact A.lt
theorem Ar.keep {a : Addr} {ty : FieldType} {n : Nat} {fn : Nat → Value} {ws : List Addr} (A : Ar Z h a ty n fn) (K : Keep h h' ws) (q : a ∉ ws) : Ar Z h' a ty n fn := by
  obtain ⟨cl, A, r⟩ := A; exact ⟨cl, ⟨K.2.1 a cl A.1 q, A.2⟩, r⟩
theorem Ar.congr {a : Addr} {ty : FieldType} {n : Nat} {fn gn : Nat → Value} (A : Ar Z h a ty n fn) (q : ∀ j, j < n → fn j = gn j) : Ar Z h a ty n gn := by
  obtain ⟨cl, A, r1, r2⟩ := A; exact ⟨cl, A, r1, fun j hj => by rw [r2 j hj, q j hj]⟩
theorem Ar.set {a : Addr} {ty : FieldType} {n i : Nat} {fn : Nat → Value} {v : Value} (A : Ar Z h a ty n fn) (hi : i < n) (W : Wr h h' a i v) : Ar Z h' a ty n (fun k => if k = i then v else fn k) := by
  obtain ⟨cl, A, r1, r2⟩ := A
  refine ⟨_, A.same W, by rw [sz_set]; exact r1, fun j hj => ?_⟩
  by_cases q : j = i
  · subst q; simp [Cell.setSlot, Array.getElem?_setIfInBounds, r1, hi]
  · have := r2 j hj; simp [Cell.setSlot, Array.getElem?_setIfInBounds, q, Ne.symm q, this]
theorem keepE (E : Ext h h') : Keep h h' [] := (Keep.refl _ _).ext E
theorem keepE' {ws : List Addr} (E : Ext h h') : Keep h h' ws := (Keep.refl _ _).ext E
theorem nneg {z : Int32} {n : Nat} (hz : z.toInt = n) : ¬ z < 0 := by
  rw [Int32.lt_iff_toInt_lt, hz]; have : (0 : Int32).toInt = 0 := by decide
  omega
theorem addn {x y : Int32} {i k : Nat} (hx : x.toInt = i) (hy : y.toInt = k) (hb : i + k < 2147483648) : (x + y).toInt = (i + k : Nat) := by
  have g1 := c_iadd x y; have g2 := rng32 (x + y); omega
theorem clamp_of {j : Int32} {i : Nat} (hi : j.toInt = i) : j.toNatClampNeg = i := by
  rw [Int32.toNatClampNeg, hi]; simp
theorem inb {j : Int32} {i n : Nat} {cl : Cell} (hi : j.toInt = i) (hlt : i < n) (hs : cl.slots.size = n) : ¬ (j < 0 ∨ cl.slots.size ≤ j.toNatClampNeg) := by
  rw [clamp_of hi, hs]
  rintro (q | q)
  · rw [Int32.lt_iff_toInt_lt, hi] at q; have : (0 : Int32).toInt = 0 := by decide
    omega
  · omega
def Ob (Z : State) (h : Heap) (a : Addr) (K : String) (NS : List (String × String)) (vs : List Value) : Prop := Exa Z h a K ∧ ∀ (i : Nat) (n d : String) (v : Value), NS[i]? = some (n, d) → vs[i]? = some v → Fld Z h a K n d v
def CF (Z : State) (a0 : Array Value) (K : String) (NS : List (String × String)) (k : Nat) : Prop := (NS.map (·.1)).Nodup ∧ (∀ x ∈ NS, Laid Z a0 K K x.1 x.2 ∧ (parseFieldDescriptor x.2).isSome = true) ∧ (Jvm.Cond.instantiable K k).before a0 Z = true
theorem Ob.lt {a : Addr} {K : String} {NS : List (String × String)} {vs : List Value} (O : Ob Z h a K NS vs) : a < h.size := O.1.lt
theorem Ob.keep {a : Addr} {K : String} {NS : List (String × String)} {vs : List Value} {ws : List Addr} (O : Ob Z h a K NS vs) (K' : Keep h h' ws) (q : a ∉ ws) : Ob Z h' a K NS vs := ⟨O.1.keep K', fun i n d v h1 h2 => (O.2 i n d v h1 h2).keep K' q⟩
theorem Ob.put {a : Addr} {K : String} {NS : List (String × String)} {vs vs' : List Value} {k i : Nat} {n d : String} {v old : Value} (O : Ob Z h a K NS vs) (F : CF Z a0 K NS k) (hN : NS[i]? = some (n, d)) (ho : vs[i]? = some old) (hvs : vs.set i v = vs') (W : Wr h h' a (Jvm.RoadKit.slotOf Z K n d) v) : Ob Z h' a K NS vs' := by
  subst hvs
  refine ⟨O.1.wr W, fun j n' d' w h1 h2 => ?_⟩
  by_cases q : j = i
  · subst q
    rw [hN] at h1; obtain ⟨rfl, rfl⟩ := Prod.mk.inj (Option.some.inj h1)
    rw [List.getElem?_set_self (by exact (List.getElem?_eq_some_iff.mp ho).1)] at h2
    obtain rfl := Option.some.inj h2
    exact (O.2 _ _ _ _ hN ho).same W
  · rw [List.getElem?_set_ne (Ne.symm q)] at h2
    have hne : n' ≠ n := by
      intro e
      have h3 : (NS.map (·.1))[j]? = some n' := by rw [List.getElem?_map, h1]; rfl
      have h4 : (NS.map (·.1))[i]? = some n := by rw [List.getElem?_map, hN]; rfl
      obtain ⟨l1, e1⟩ := List.getElem?_eq_some_iff.mp h3
      obtain ⟨l2, e2⟩ := List.getElem?_eq_some_iff.mp h4
      rcases Nat.lt_or_gt_of_ne q with u | u
      · exact (List.pairwise_iff_getElem.mp F.1) j i l1 l2 u (by rw [e1, e2, e])
      · exact (List.pairwise_iff_getElem.mp F.1) i j l2 l1 u (by rw [e1, e2, e])
    obtain ⟨p1, p2⟩ := F.2.1 _ (List.mem_of_getElem? h1)
    obtain ⟨p3, p4⟩ := F.2.1 _ (List.mem_of_getElem? hN)
    obtain ⟨t1, q1⟩ := Option.isSome_iff_exists.mp p2
    obtain ⟨t2, q2⟩ := Option.isSome_iff_exists.mp p4
    exact (O.2 _ _ _ _ h1 h2).other W (Or.inr (slot_ne p1 p3 hne q1 q2))
theorem g_getO (X : St p l e R s m args below meth c n0 T h cells slots) (C : Cx p s m meth c Z bytes maxL ret own nme) {a : Addr} {K n d host : String} {NS : List (String × String)} {vs : List Value} {i index : Nat} {v : Value} (O : Ob Z h a K NS vs) (hN : NS[i]? = some (n, d)) (hv : vs[i]? = some v) (w : (Jvm.Cond.fieldLink own index K n d).before a0 Z = true ∨ (Jvm.Cond.fieldLinkNest own index K n d host).before a0 Z = true) (hd : decode bytes pc = .ok (.getfield index, 3)) (hp : pc + 3 = pc') (r : ∀ T', St p l e R s m args below meth c n0 T' h cells slots → Go p e below Rest T' (mkF m pc' L (v :: S))) : Go p e below Rest T (mkF m pc L (.ref a :: S)) := by
  obtain ⟨locs, X, N, eT⟩ := X; obtain ⟨hx, hby, -, -, -, hown, -, hZ⟩ := C; subst hp
  obtain ⟨T', X', e', st⟩ := getF X hx hZ hown w Via.refl eT (O.2 _ _ _ _ hN hv) (g := mkF m pc L (.ref a :: S)) rfl rfl (hb hby hd)
  exact go_by st (r T' ⟨locs, X', N, e'⟩)
theorem g_putO (X : St p l e R s m args below meth c n0 T h cells slots) (C : Cx p s m meth c Z bytes maxL ret own nme) {a : Addr} {K n d host : String} {NS : List (String × String)} {vs vs' : List Value} {i k index : Nat} {v old : Value} {ty : FieldType} (O : Ob Z h a K NS vs) (F : CF Z a0 K NS k) (hN : NS[i]? = some (n, d)) (ho : vs[i]? = some old) (hvs : vs.set i v = vs') (ga : n0 ≤ a) (w : (Jvm.Cond.fieldLink own index K n d).before a0 Z = true ∨ (Jvm.Cond.fieldLinkNest own index K n d host).before a0 Z = true) (Ly : (Jvm.Cond.lays K K n d).before a0 Z = true ∨ ((Jvm.Cond.laysFinal K K n d).before a0 Z = true ∧ own = K ∧ nme = "<init>")) (hty : parseFieldDescriptor d = some ty) (hn : narrow ty v = v) (hf : fits ty v = true) (hd : decode bytes pc = .ok (.putfield index, 3)) (hp : pc + 3 = pc') (r : ∀ T' h', St p l e R s m args below meth c n0 T' h' cells slots → Ob Z h' a K NS vs' → Keep h h' [a] → Go p e below Rest T' (mkF m pc' L S)) : Go p e below Rest T (mkF m pc L (v :: .ref a :: S)) := by
  obtain ⟨locs, X, N, eT⟩ := X; obtain ⟨hx, hby, -, -, -, hown, hnm, hZ⟩ := C; subst hp
  obtain ⟨T', h', X', e', W, st⟩ := putF X hx hZ hown w Via.refl eT (O.2 _ _ _ _ hN ho) O.1 (Ly.imp id fun q => ⟨q.1, q.2.1, by rw [hnm]; exact q.2.2⟩) F.2.2 hty hn hf (g := mkF m pc L (v :: .ref a :: S)) rfl rfl (hb hby hd)
  exact go_by st (r T' h' ⟨_, X', Fr.snoc X' N ga, e'⟩ (O.put F hN ho hvs W) (Keep.of_wr W))
theorem g_putN (X : St p l e R s m args below meth c n0 T h cells slots) (C : Cx p s m meth c Z bytes maxL ret own nme) {a : Addr} {K n d : String} {NS : List (String × String)} {vs vs' : List Value} {i k index : Nat} {v v' old : Value} {ty : FieldType} (O : Ob Z h a K NS vs) (F : CF Z a0 K NS k) (hN : NS[i]? = some (n, d)) (ho : vs[i]? = some old) (hvs : vs.set i v' = vs') (ga : n0 ≤ a) (w : (Jvm.Cond.fieldLink own index K n d).before a0 Z = true) (Ly : (Jvm.Cond.lays K K n d).before a0 Z = true ∨ ((Jvm.Cond.laysFinal K K n d).before a0 Z = true ∧ own = K ∧ nme = "<init>")) (hty : parseFieldDescriptor d = some ty) (hn : narrow ty v = v') (hf : fits ty v' = true) (hd : decode bytes pc = .ok (.putfield index, 3)) (hp : pc + 3 = pc') (r : ∀ T' h', St p l e R s m args below meth c n0 T' h' cells slots → Ob Z h' a K NS vs' → Keep h h' [a] → Go p e below Rest T' (mkF m pc' L S)) : Go p e below Rest T (mkF m pc L (v :: .ref a :: S)) := by
  obtain ⟨locs, X, N, eT⟩ := X; obtain ⟨hx, hby, -, -, -, hown, hnm, hZ⟩ := C; subst hp
  obtain ⟨T', h', X', e', W, st⟩ := putFN X hx hZ hown w Via.refl eT (O.2 _ _ _ _ hN ho) O.1 (Ly.imp id fun q => ⟨q.1, q.2.1, by rw [hnm]; exact q.2.2⟩) F.2.2 hty hn hf (g := mkF m pc L (v :: .ref a :: S)) rfl rfl (hb hby hd)
  exact go_by st (r T' h' ⟨_, X', Fr.snoc X' N ga, e'⟩ (O.put F hN ho hvs W) (Keep.of_wr W))
def dflt (d : String) : Value := match parseFieldDescriptor d with | some ty => defaultValue ty | none => .null
theorem g_newO (X : St p l e R s m args below meth c n0 T h cells slots) (C : Cx p s m meth c Z bytes maxL ret own nme) {K : String} {NS : List (String × String)} {vs : List Value} {index k : Nat} (w : (Jvm.Cond.classLink own index K).before a0 Z = true) (F : CF Z a0 K NS k) (wz : (Jvm.Cond.initialized K).before a0 Z = true) (hvs : NS.map (fun x => dflt x.2) = vs) (hc : cells + 1 ≤ R.cells) (hl : slots + k ≤ R.slots) (hd : decode bytes pc = .ok (.new index, 3)) (hp : pc + 3 = pc') (r : ∀ T' h' b, b = h.size → St p l e R s m args below meth c n0 T' h' (cells + 1) (slots + k) → Ob Z h' b K NS vs → Keep h h' [] → Go p e below Rest T' (mkF m pc' L (.ref b :: S))) : Go p e below Rest T (mkF m pc L S) := by
  obtain ⟨locs, X, N, eT⟩ := X; obtain ⟨hx, hby, -, -, -, hown, hnm, hZ⟩ := C; subst hp hvs
  obtain ⟨T', h', X', e', E, A, D, -, st⟩ := newO X hx hZ hown w F.2.2 wz eT (g := mkF m pc L S) rfl (hb hby hd) hc hl
  refine go_by st (r T' h' _ rfl ⟨_, X', N, e'⟩ ⟨A, fun i n d v h1 h2 => ?_⟩ (keepE E))
  obtain ⟨p1, p2⟩ := F.2.1 _ (List.mem_of_getElem? h1)
  obtain ⟨t1, q1⟩ := Option.isSome_iff_exists.mp p2
  rw [List.getElem?_map, h1] at h2
  obtain rfl := Option.some.inj h2
  have := D p1 q1
  simp only [dflt, q1]
  exact this
theorem g_newarr (X : St p l e R s m args below meth c n0 T h cells slots) (C : Cx p s m meth c Z bytes maxL ret own nme) {aty : ArrayType} {z : Int32} {n cap : Nat} (w : (Jvm.Cond.arrayClass (newarray.typeOf aty)).before a0 Z = true) (hz : z.toInt = n) (hcap : n ≤ cap) (hcb : cap * 8 ≤ 536870912) (hc : cells + 1 ≤ R.cells) (hl : slots + cap ≤ R.slots) (hd : decode bytes pc = .ok (.newarray aty, 2)) (hp : pc + 2 = pc') (r : ∀ T' h' b, b = h.size → St p l e R s m args below meth c n0 T' h' (cells + 1) (slots + cap) → Ar Z h' b (newarray.typeOf aty) n (fun _ => defaultValue (newarray.typeOf aty)) → Keep h h' [] → Go p e below Rest T' (mkF m pc' L (.ref b :: S))) : Go p e below Rest T (mkF m pc L (.int z :: S)) := by
  obtain ⟨locs, X, N, eT⟩ := X; obtain ⟨hx, hby, -, -, -, hown, hnm, hZ⟩ := C; subst hp
  have hneg : ¬ z < 0 := nneg hz
  obtain ⟨T', h', cA, X', e', E, A, st⟩ := newP X hx hZ w eT (g := mkF m pc L (.int z :: S)) rfl (hb hby hd) rfl hneg (cap := cap) (by rw [clamp_of hz]; exact hcap) hcb hc hl
  refine go_by st (r T' h' _ rfl ⟨_, X', N, e'⟩ ⟨_, A, by rw [sz_new, clamp_of hz], fun j hj => ?_⟩ (keepE E))
  simp [newA, clamp_of hz, hj]
def ArR (Z : State) (h : Heap) (a : Addr) (K : String) (n : Nat) (fn : Nat → Value) : Prop := ∃ cl : Cell, Arr Z h a cl (.object K) ∧ Ovr Z cl.cls K ∧ cl.slots.size = n ∧ ∀ j, j < n → cl.slots[j]? = some (fn j)
theorem ArR.lt {a : Addr} {K : String} {n : Nat} {fn : Nat → Value} (A : ArR Z h a K n fn) : a < h.size := by obtain ⟨_, A, -⟩ := A; exact A.lt
theorem ArR.keep {a : Addr} {K : String} {n : Nat} {fn : Nat → Value} {ws : List Addr} (A : ArR Z h a K n fn) (K' : Keep h h' ws) (q : a ∉ ws) : ArR Z h' a K n fn := by
  obtain ⟨cl, A, r⟩ := A; exact ⟨cl, ⟨K'.2.1 a cl A.1 q, A.2⟩, r⟩
theorem g_newR (X : St p l e R s m args below meth c n0 T h cells slots) (C : Cx p s m meth c Z bytes maxL ret own nme) {K : String} {index : Nat} {z : Int32} {n cap : Nat} (w1 : (Jvm.Cond.classLink own index K).before a0 Z = true) (w2 : (Jvm.Cond.arrayOver (.object K)).before a0 Z = true) (hz : z.toInt = n) (hcap : n ≤ cap) (hcb : cap * 8 ≤ 536870912) (hc : cells + 1 ≤ R.cells) (hl : slots + cap ≤ R.slots) (hd : decode bytes pc = .ok (.anewarray index, 3)) (hp : pc + 3 = pc') (r : ∀ T' h' b, b = h.size → St p l e R s m args below meth c n0 T' h' (cells + 1) (slots + cap) → ArR Z h' b K n (fun _ => .null) → Keep h h' [] → Go p e below Rest T' (mkF m pc' L (.ref b :: S))) : Go p e below Rest T (mkF m pc L (.int z :: S)) := by
  obtain ⟨locs, X, N, eT⟩ := X; obtain ⟨hx, hby, -, -, -, hown, hnm, hZ⟩ := C; subst hp
  have hneg : ¬ z < 0 := nneg hz
  obtain ⟨T', h', cA, X', e', E, A, Ov, st⟩ := newR X hx hZ hown w1 w2 eT (g := mkF m pc L (.int z :: S)) rfl (hb hby hd) rfl hneg (cap := cap) (by rw [clamp_of hz]; exact hcap) hcb hc hl
  refine go_by st (r T' h' _ rfl ⟨_, X', N, e'⟩ ⟨_, A, Ov, by rw [sz_new, clamp_of hz], fun j hj => ?_⟩ (keepE E))
  simp [newA, clamp_of hz, hj, defaultValue]
theorem g_arrlen (X : St p l e R s m args below meth c n0 T h cells slots) (C : Cx p s m meth c Z bytes maxL ret own nme) {a : Addr} {ty : FieldType} {n : Nat} {fn : Nat → Value} {z : Int32} (A : Ar Z h a ty n fn) (hz : n.toInt32 = z) (hd : decode bytes pc = .ok (.arraylength, 1)) (hp : pc + 1 = pc') (r : Go p e below Rest T (mkF m pc' L (.int z :: S))) : Go p e below Rest T (mkF m pc L (.ref a :: S)) := by
  obtain ⟨locs, X, N, eT⟩ := X; obtain ⟨hx, hby, -, -, -, hown, hnm, hZ⟩ := C; subst hp hz
  obtain ⟨cl, A, r1, r2⟩ := A; subst r1
  exact go_by (fun t k => X.arraylength hx (by rw [eT]; exact A.1) (State.isArrayOf_alike hZ.alike A.2.1) (g := mkF m pc L (.ref a :: S)) rfl rfl (hb hby hd) t k) r
theorem g_iaload (X : St p l e R s m args below meth c n0 T h cells slots) (C : Cx p s m meth c Z bytes maxL ret own nme) {a : Addr} {n i : Nat} {fn : Nat → Value} {j : Int32} {v : Value} (A : Ar Z h a .int n fn) (hi : j.toInt = i) (hlt : i < n) (hv : fn i = v) (hd : decode bytes pc = .ok (.iaload, 1)) (hp : pc + 1 = pc') (r : Go p e below Rest T (mkF m pc' L (v :: S))) : Go p e below Rest T (mkF m pc L (.int j :: .ref a :: S)) := by
  obtain ⟨locs, X, N, eT⟩ := X; obtain ⟨hx, hby, -, -, -, hown, hnm, hZ⟩ := C; subst hp hv
  obtain ⟨cl, A, r1, r2⟩ := A
  exact go_by (fun t k => X.iaload hx (j := j) (by rw [eT]; exact A.1) (State.isArrayOf_alike hZ.alike A.2.1) A.2.2 (inb hi hlt r1) (by rw [clamp_of hi]; exact r2 i hlt) (g := mkF m pc L (.int j :: .ref a :: S)) rfl rfl (hb hby hd) t k) r
theorem g_laload (X : St p l e R s m args below meth c n0 T h cells slots) (C : Cx p s m meth c Z bytes maxL ret own nme) {a : Addr} {n i : Nat} {fn : Nat → Value} {j : Int32} {v : Value} (A : Ar Z h a .long n fn) (hi : j.toInt = i) (hlt : i < n) (hv : fn i = v) (hd : decode bytes pc = .ok (.laload, 1)) (hp : pc + 1 = pc') (r : Go p e below Rest T (mkF m pc' L (v :: S))) : Go p e below Rest T (mkF m pc L (.int j :: .ref a :: S)) := by
  obtain ⟨locs, X, N, eT⟩ := X; obtain ⟨hx, hby, -, -, -, hown, hnm, hZ⟩ := C; subst hp hv
  obtain ⟨cl, A, r1, r2⟩ := A
  exact go_by (fun t k => X.laload hx (j := j) (by rw [eT]; exact A.1) (State.isArrayOf_alike hZ.alike A.2.1) A.2.2 (inb hi hlt r1) (by rw [clamp_of hi]; exact r2 i hlt) (g := mkF m pc L (.int j :: .ref a :: S)) rfl rfl (hb hby hd) t k) r
theorem g_baloadB (X : St p l e R s m args below meth c n0 T h cells slots) (C : Cx p s m meth c Z bytes maxL ret own nme) {a : Addr} {n i : Nat} {fn : Nat → Value} {j : Int32} {v : Value} (A : Ar Z h a .byte n fn) (hi : j.toInt = i) (hlt : i < n) (hv : fn i = v) (hd : decode bytes pc = .ok (.baload, 1)) (hp : pc + 1 = pc') (r : Go p e below Rest T (mkF m pc' L (v :: S))) : Go p e below Rest T (mkF m pc L (.int j :: .ref a :: S)) := by
  obtain ⟨locs, X, N, eT⟩ := X; obtain ⟨hx, hby, -, -, -, hown, hnm, hZ⟩ := C; subst hp hv
  obtain ⟨cl, A, r1, r2⟩ := A
  exact go_by (fun t k => X.baloadBytes hx (j := j) (by rw [eT]; exact A.1) (State.isArrayOf_alike hZ.alike A.2.1) A.2.2 (inb hi hlt r1) (by rw [clamp_of hi]; exact r2 i hlt) (g := mkF m pc L (.int j :: .ref a :: S)) rfl rfl (hb hby hd) t k) r
theorem g_baloadZ (X : St p l e R s m args below meth c n0 T h cells slots) (C : Cx p s m meth c Z bytes maxL ret own nme) {a : Addr} {n i : Nat} {fn : Nat → Value} {j : Int32} {v : Value} (A : Ar Z h a .boolean n fn) (hi : j.toInt = i) (hlt : i < n) (hv : fn i = v) (hd : decode bytes pc = .ok (.baload, 1)) (hp : pc + 1 = pc') (r : Go p e below Rest T (mkF m pc' L (v :: S))) : Go p e below Rest T (mkF m pc L (.int j :: .ref a :: S)) := by
  obtain ⟨locs, X, N, eT⟩ := X; obtain ⟨hx, hby, -, -, -, hown, hnm, hZ⟩ := C; subst hp hv
  obtain ⟨cl, A, r1, r2⟩ := A
  exact go_by (fun t k => X.baloadBooleans hx (j := j) (by rw [eT]; exact A.1) (State.isArrayOf_alike hZ.alike A.2.1) A.2.2 (inb hi hlt r1) (by rw [clamp_of hi]; exact r2 i hlt) (g := mkF m pc L (.int j :: .ref a :: S)) rfl rfl (hb hby hd) t k) r
theorem g_aaload (X : St p l e R s m args below meth c n0 T h cells slots) (C : Cx p s m meth c Z bytes maxL ret own nme) {a : Addr} {n i : Nat} {K : String} {fn : Nat → Value} {j : Int32} {v : Value} (A : ArR Z h a K n fn) (hi : j.toInt = i) (hlt : i < n) (hv : fn i = v) (hd : decode bytes pc = .ok (.aaload, 1)) (hp : pc + 1 = pc') (r : Go p e below Rest T (mkF m pc' L (v :: S))) : Go p e below Rest T (mkF m pc L (.int j :: .ref a :: S)) := by
  obtain ⟨locs, X, N, eT⟩ := X; obtain ⟨hx, hby, -, -, -, hown, hnm, hZ⟩ := C; subst hp hv
  obtain ⟨cl, A, -, r1, r2⟩ := A
  exact go_by (fun t k => X.aaload hx (j := j) (by rw [eT]; exact A.1) (State.isArrayOf_alike hZ.alike A.2.1) rfl A.2.2 (inb hi hlt r1) (by rw [clamp_of hi]; exact r2 i hlt) (g := mkF m pc L (.int j :: .ref a :: S)) rfl rfl (hb hby hd) t k) r
theorem g_iastore (X : St p l e R s m args below meth c n0 T h cells slots) (C : Cx p s m meth c Z bytes maxL ret own nme) {a : Addr} {n i : Nat} {fn : Nat → Int32} {j : Int32} {x : Int32} (A : Ar Z h a .int n (fun k => .int (fn k))) (hi : j.toInt = i) (hlt : i < n) (ga : n0 ≤ a) (hd : decode bytes pc = .ok (.iastore, 1)) (hp : pc + 1 = pc') (r : ∀ T' h', St p l e R s m args below meth c n0 T' h' cells slots → Ar Z h' a .int n (fun k => .int (if k = i then x else fn k)) → Keep h h' [a] → Go p e below Rest T' (mkF m pc' L S)) : Go p e below Rest T (mkF m pc L (.int x :: .int j :: .ref a :: S)) := by
  obtain ⟨locs, X, N, eT⟩ := X; obtain ⟨hx, hby, -, -, -, hown, hnm, hZ⟩ := C; subst hp
  have A0 := A
  obtain ⟨cl, A, r1, r2⟩ := A
  obtain ⟨T', h', X', e', W, st⟩ := stI X hx hZ eT A (j := j) (inb hi hlt r1) (g := mkF m pc L (.int x :: .int j :: .ref a :: S)) rfl rfl (hb hby hd)
  rw [clamp_of hi] at W
  exact go_by st (r T' h' ⟨_, X', Fr.snoc X' N ga, e'⟩ ((A0.set hlt W).congr (fun k hk => by (try dsimp only); split <;> rfl)) (Keep.of_wr W))
theorem g_lastore (X : St p l e R s m args below meth c n0 T h cells slots) (C : Cx p s m meth c Z bytes maxL ret own nme) {a : Addr} {n i : Nat} {fn : Nat → Int64} {j : Int32} {x : Int64} (A : Ar Z h a .long n (fun k => .long (fn k))) (hi : j.toInt = i) (hlt : i < n) (ga : n0 ≤ a) (hd : decode bytes pc = .ok (.lastore, 1)) (hp : pc + 1 = pc') (r : ∀ T' h', St p l e R s m args below meth c n0 T' h' cells slots → Ar Z h' a .long n (fun k => .long (if k = i then x else fn k)) → Keep h h' [a] → Go p e below Rest T' (mkF m pc' L S)) : Go p e below Rest T (mkF m pc L (.long x :: .int j :: .ref a :: S)) := by
  obtain ⟨locs, X, N, eT⟩ := X; obtain ⟨hx, hby, -, -, -, hown, hnm, hZ⟩ := C; subst hp
  have A0 := A
  obtain ⟨cl, A, r1, r2⟩ := A
  obtain ⟨T', h', X', e', W, st⟩ := stJ X hx hZ eT A (j := j) (inb hi hlt r1) (g := mkF m pc L (.long x :: .int j :: .ref a :: S)) rfl rfl (hb hby hd)
  rw [clamp_of hi] at W
  exact go_by st (r T' h' ⟨_, X', Fr.snoc X' N ga, e'⟩ ((A0.set hlt W).congr (fun k hk => by (try dsimp only); split <;> rfl)) (Keep.of_wr W))
theorem g_bastoreB (X : St p l e R s m args below meth c n0 T h cells slots) (C : Cx p s m meth c Z bytes maxL ret own nme) {a : Addr} {n i : Nat} {fn : Nat → Int32} {j : Int32} {x : Int32} (A : Ar Z h a .byte n (fun k => .int (fn k))) (hi : j.toInt = i) (hlt : i < n) (ga : n0 ≤ a) (hd : decode bytes pc = .ok (.bastore, 1)) (hp : pc + 1 = pc') (r : ∀ T' h', St p l e R s m args below meth c n0 T' h' cells slots → Ar Z h' a .byte n (fun k => .int (if k = i then (nar .byte x) else fn k)) → Keep h h' [a] → Go p e below Rest T' (mkF m pc' L S)) : Go p e below Rest T (mkF m pc L (.int x :: .int j :: .ref a :: S)) := by
  obtain ⟨locs, X, N, eT⟩ := X; obtain ⟨hx, hby, -, -, -, hown, hnm, hZ⟩ := C; subst hp
  have A0 := A
  obtain ⟨cl, A, r1, r2⟩ := A
  obtain ⟨T', h', X', e', W, st⟩ := stB X hx hZ eT A (j := j) (inb hi hlt r1) (g := mkF m pc L (.int x :: .int j :: .ref a :: S)) rfl rfl (hb hby hd)
  rw [clamp_of hi] at W
  exact go_by st (r T' h' ⟨_, X', Fr.snoc X' N ga, e'⟩ ((A0.set hlt W).congr (fun k hk => by (try dsimp only); split <;> rfl)) (Keep.of_wr W))
theorem g_bastoreZ (X : St p l e R s m args below meth c n0 T h cells slots) (C : Cx p s m meth c Z bytes maxL ret own nme) {a : Addr} {n i : Nat} {fn : Nat → Int32} {j : Int32} {x : Int32} (A : Ar Z h a .boolean n (fun k => .int (fn k))) (hi : j.toInt = i) (hlt : i < n) (ga : n0 ≤ a) (hd : decode bytes pc = .ok (.bastore, 1)) (hp : pc + 1 = pc') (r : ∀ T' h', St p l e R s m args below meth c n0 T' h' cells slots → Ar Z h' a .boolean n (fun k => .int (if k = i then (nar .boolean x) else fn k)) → Keep h h' [a] → Go p e below Rest T' (mkF m pc' L S)) : Go p e below Rest T (mkF m pc L (.int x :: .int j :: .ref a :: S)) := by
  obtain ⟨locs, X, N, eT⟩ := X; obtain ⟨hx, hby, -, -, -, hown, hnm, hZ⟩ := C; subst hp
  have A0 := A
  obtain ⟨cl, A, r1, r2⟩ := A
  obtain ⟨T', h', X', e', W, st⟩ := stZ X hx hZ eT A (j := j) (inb hi hlt r1) (g := mkF m pc L (.int x :: .int j :: .ref a :: S)) rfl rfl (hb hby hd)
  rw [clamp_of hi] at W
  exact go_by st (r T' h' ⟨_, X', Fr.snoc X' N ga, e'⟩ ((A0.set hlt W).congr (fun k hk => by (try dsimp only); split <;> rfl)) (Keep.of_wr W))
theorem g_initO (X : St p l e R s m args below meth c n0 T h cells slots) (C : Cx p s m meth c Z bytes maxL ret own nme) {index : Nat} {a : Addr} {W : Nat} (w1 : (Jvm.Cond.methodLink own index Lib.objectInit).before a0 Z = true) (w2 : (Jvm.Cond.instanceMethod Lib.objectInit).before a0 Z = true) (w3 : (Jvm.Cond.code Lib.objectInit ⟨#[0xb1]⟩ 1 none).before a0 Z = true) (hsz : L.size = maxL) (hW : (S.map fun v => v.category).sum = W) (hf : 1 ≤ R.frames) (hl : W + 12 ≤ R.locals) (hd : decode bytes pc = .ok (.invokespecial index, 3)) (hp : pc + 3 = pc') (r : ∀ T', St p l e R s m args below meth c n0 T' h cells slots → Go p e below Rest T' (mkF m pc' L S)) : Go p e below Rest T (mkF m pc L (.ref a :: S)) := by
  obtain ⟨locs, X, N, eT⟩ := X; obtain ⟨hx, hby, hml, -, -, hown, hnm, hZ⟩ := C; subst hp
  obtain ⟨T', X', e', st⟩ := initO X hx hZ hown w1 w2 w3 eT (g := mkF m pc L (.ref a :: S)) rfl (by rw [hml]; exact hsz) rfl (hb hby hd) hf (W := W) (by show 2 * 0 + _ ≤ _; omega) hl
  exact go_by st (r T' ⟨locs, X', N, e'⟩)
theorem g_static (X : St p l e R s m args below meth c n0 T h cells slots) (C : Cx p s m meth c Z bytes maxL ret own nme) {y : MethodName} {bytes' : ByteArray} {maxL' : Nat} {ret' : Option FieldType} {rm : Room} {as : Array Value} {Q : Option Value → Heap → Prop} {index : Nat} {W : Nat} {argsL rest : List Value} {ps : List FieldType} {rt : Option FieldType} (hM : Ctr l y bytes' maxL' ret' rm Z n0 as h Q []) (w1 : (Jvm.Cond.methodLink own index y).before a0 Z = true) (w2 : (Jvm.Cond.static y).before a0 Z = true) (w3 : (Jvm.Cond.initialized y.cls).before a0 Z = true) (w4 : (Jvm.Cond.code y bytes' maxL' ret').before a0 Z = true) (hy : y.cls ≠ "java/lang/invoke/MethodHandle" ∧ y.cls ≠ "java/lang/invoke/VarHandle") (pd : parseMethodDescriptor y.desc = some ⟨ps, rt⟩) (hal : argsL.length = ps.length) (has : argsL.toArray = as) (hs : S = argsL.reverse ++ rest) (hsz : L.size = maxL) (hW : (rest.map fun v => v.category).sum = W) (hf : rm.frames + 1 ≤ R.frames) (hl : W + (maxL' + 11) + rm.locals ≤ R.locals) (hc : cells + rm.cells ≤ R.cells) (hsl : slots + rm.slots ≤ R.slots) (hd : decode bytes pc = .ok (.invokestatic index, 3)) (hp : pc + 3 = pc') (r : ∀ v T' h', Q v h' → St p l e R s m args below meth c n0 T' h' (cells + rm.cells) (slots + rm.slots) → Go p e below Rest T' (mkF m pc' L (v.toList ++ rest))) : Go p e below Rest T (mkF m pc L S) := by
  obtain ⟨locs, X, N, eT⟩ := X; obtain ⟨hx, hby, hml, -, -, hown, hnm, hZ⟩ := C; subst hp
  obtain ⟨v, _, ⟨T', L1, k1, n1⟩, -, X', ⟨Lc, ⟨hQ, hN⟩, l1, y1, z1⟩, st⟩ := Jvm.LawKit.callS X hx (y := y) hown (mvT hZ w1) (mvT hZ w2) (mvT hZ w3) (mvT hZ w4) hy (backOf (W := W) (Q := fun v h L => Q v h ∧ Fr n0 L) hM hZ w4 w3 hf hl) (g := mkF m pc L S) rfl (by rw [hml]; exact hsz) (argsL := argsL) (rest := rest) (lenOf pd hal) hs (by show 2 * 0 + _ ≤ _; omega) (hb hby hd) (fun _ _ => ⟨has, eT, hc, hsl⟩)
  dsimp only [Pt.U, Pt.locs, Pt.cells, Pt.slots] at X' l1 y1 z1 st hQ
  subst l1 y1 z1
  exact go_by st (r v T' _ hQ ⟨_, X', Fr.app N hN, rfl⟩)
theorem g_special (X : St p l e R s m args below meth c n0 T h cells slots) (C : Cx p s m meth c Z bytes maxL ret own nme) {y : MethodName} {bytes' : ByteArray} {maxL' : Nat} {ret' : Option FieldType} {rm : Room} {as : Array Value} {Q : Option Value → Heap → Prop} {index : Nat} {W : Nat} {argsL rest : List Value} {ps : List FieldType} {rt : Option FieldType} (hM : Ctr l y bytes' maxL' ret' rm Z n0 as h Q []) {a : Addr} (hy1 : y.name = "<init>") (hret : ret' = none) (w1 : (Jvm.Cond.methodLink own index y).before a0 Z = true) (w2 : (Jvm.Cond.instanceMethod y).before a0 Z = true) (w3 : (Jvm.Cond.initialized y.cls).before a0 Z = true) (w4 : (Jvm.Cond.code y bytes' maxL' ret').before a0 Z = true) (hy : y.cls ≠ "java/lang/invoke/MethodHandle" ∧ y.cls ≠ "java/lang/invoke/VarHandle") (pd : parseMethodDescriptor y.desc = some ⟨ps, rt⟩) (hal : argsL.length = ps.length) (has : (.ref a :: argsL).toArray = as) (hs : S = argsL.reverse ++ .ref a :: rest) (hsz : L.size = maxL) (hW : (rest.map fun v => v.category).sum = W) (hf : rm.frames + 1 ≤ R.frames) (hl : W + (maxL' + 11) + rm.locals ≤ R.locals) (hc : cells + rm.cells ≤ R.cells) (hsl : slots + rm.slots ≤ R.slots) (hd : decode bytes pc = .ok (.invokespecial index, 3)) (hp : pc + 3 = pc') (r : ∀ v T' h', Q v h' → St p l e R s m args below meth c n0 T' h' (cells + rm.cells) (slots + rm.slots) → Go p e below Rest T' (mkF m pc' L (v.toList ++ rest))) : Go p e below Rest T (mkF m pc L S) := by
  obtain ⟨locs, X, N, eT⟩ := X; obtain ⟨hx, hby, hml, -, -, hown, hnm, hZ⟩ := C; subst hp hret
  obtain ⟨v, _, ⟨T', L1, k1, n1⟩, -, X', ⟨Lc, ⟨hQ, hN⟩, l1, y1, z1⟩, st⟩ := X.specialBack hx (y := y) hy1 hown (mvT hZ w1) (mvT hZ w2) (mvT hZ w4) hy (backOf (W := W) (Q := fun v h L => Q v h ∧ Fr n0 L) hM hZ w4 w3 hf hl) (g := mkF m pc L S) rfl (by rw [hml]; exact hsz) (Steps.refl _) (a := a) (argsL := argsL) (rest := rest) (lenOf pd hal) hs (by show 2 * 0 + _ ≤ _; omega) (hb hby hd) (fun _ _ => ⟨has, eT, hc, hsl⟩)
  dsimp only [Pt.U, Pt.locs, Pt.cells, Pt.slots] at X' l1 y1 z1 st hQ
  subst l1 y1 z1
  exact go_tr st (r v T' _ hQ ⟨_, X', Fr.app N hN, rfl⟩)
theorem g_virtual (X : St p l e R s m args below meth c n0 T h cells slots) (C : Cx p s m meth c Z bytes maxL ret own nme) {y : MethodName} {bytes' : ByteArray} {maxL' : Nat} {ret' : Option FieldType} {rm : Room} {as : Array Value} {Q : Option Value → Heap → Prop} {index : Nat} {W : Nat} {argsL rest : List Value} {ps : List FieldType} {rt : Option FieldType} (hM : Ctr l y bytes' maxL' ret' rm Z n0 as h Q []) {a : Addr} (Ex : Exa Z h a y.cls) (w1 : (Jvm.Cond.methodLink own index y).before a0 Z = true) (w2 : (Jvm.Cond.declares y).before a0 Z = true) (ws : (Jvm.Cond.selects y.cls y y).before a0 Z = true) (wi : (Jvm.Cond.instanceMethod y).before a0 Z = true) (w3 : (Jvm.Cond.initialized y.cls).before a0 Z = true) (w4 : (Jvm.Cond.code y bytes' maxL' ret').before a0 Z = true) (hy : y.cls ≠ "java/lang/invoke/MethodHandle" ∧ y.cls ≠ "java/lang/invoke/VarHandle") (pd : parseMethodDescriptor y.desc = some ⟨ps, rt⟩) (hal : argsL.length = ps.length) (has : (.ref a :: argsL).toArray = as) (hs : S = argsL.reverse ++ .ref a :: rest) (hsz : L.size = maxL) (hW : (rest.map fun v => v.category).sum = W) (hf : rm.frames + 1 ≤ R.frames) (hl : W + (maxL' + 11) + rm.locals ≤ R.locals) (hc : cells + rm.cells ≤ R.cells) (hsl : slots + rm.slots ≤ R.slots) (hd : decode bytes pc = .ok (.invokevirtual index, 3)) (hp : pc + 3 = pc') (r : ∀ v T' h', Q v h' → St p l e R s m args below meth c n0 T' h' (cells + rm.cells) (slots + rm.slots) → Go p e below Rest T' (mkF m pc' L (v.toList ++ rest))) : Go p e below Rest T (mkF m pc L S) := by
  obtain ⟨locs, X, N, eT⟩ := X; obtain ⟨hx, hby, hml, -, -, hown, hnm, hZ⟩ := C; subst hp
  obtain ⟨cq, kq, qa, qb, qc⟩ := isOf hZ eT Ex
  obtain ⟨v, _, ⟨T', L1, k1, n1⟩, -, X', ⟨Lc, ⟨hQ, hN⟩, l1, y1, z1⟩, st⟩ := X.virtualBack hx (y := y) (z := y) hown (mvT hZ w1) (mvT hZ w2) (notFace_of_selects (args := #[]) (mvT hZ ws)) (mvT hZ ws) (mvT hZ wi) hy (backOf (W := W) (Q := fun v h L => Q v h ∧ Fr n0 L) hM hZ w4 w3 hf hl) qa qc (g := mkF m pc L S) rfl (by rw [hml]; exact hsz) (Steps.refl _) (argsL := argsL) (rest := rest) (lenOf pd hal) hs (by show 2 * 0 + _ ≤ _; omega) (hb hby hd) (fun _ _ => ⟨has, eT, hc, hsl⟩)
  dsimp only [Pt.U, Pt.locs, Pt.cells, Pt.slots] at X' l1 y1 z1 st hQ
  subst l1 y1 z1
  exact go_tr st (r v T' _ hQ ⟨_, X', Fr.app N hN, rfl⟩)
theorem g_retI {z : Int32} (X : St p l e R s m args below meth c n0 T h cells slots) (C : Cx p s m meth c Z bytes maxL (some .int) own nme) {Q : Option Value → Heap → Prop} {k n : Nat} (hd : decode bytes pc = .ok (.ireturn, 1)) (hQ : Q (some (.int z)) h) (hk : cells ≤ k) (hn : slots ≤ n) : Go p e below (Rs s below n0 Q k n) T (mkF m pc L (.int z :: S)) := by
  obtain ⟨locs, X, N, eT⟩ := X; obtain ⟨hx, hby, -, hret, hlk, -⟩ := C
  obtain ⟨fs, hr, hrun, hended, hW, hsame⟩ := X.leave (v := (some (.int z))) (fun q => by first | rfl | (rw [hret] at q; cases q)) hlk
  refine ⟨_, _, ?_, hrun, hended, _, _, rfl, ⟨?_, N⟩, ⟨_, rfl⟩, hW, hsame.mono hk hn⟩
  · exact retOut X hx hret rfl (Or.inl ⟨rfl, Or.inl rfl, z, rfl⟩) (hb hby hd) hr
  · show Q _ T.heap; rw [eT]; exact hQ
theorem g_retJ {z : Int64} (X : St p l e R s m args below meth c n0 T h cells slots) (C : Cx p s m meth c Z bytes maxL (some .long) own nme) {Q : Option Value → Heap → Prop} {k n : Nat} (hd : decode bytes pc = .ok (.lreturn, 1)) (hQ : Q (some (.long z)) h) (hk : cells ≤ k) (hn : slots ≤ n) : Go p e below (Rs s below n0 Q k n) T (mkF m pc L (.long z :: S)) := by
  obtain ⟨locs, X, N, eT⟩ := X; obtain ⟨hx, hby, -, hret, hlk, -⟩ := C
  obtain ⟨fs, hr, hrun, hended, hW, hsame⟩ := X.leave (v := (some (.long z))) (fun q => by first | rfl | (rw [hret] at q; cases q)) hlk
  refine ⟨_, _, ?_, hrun, hended, _, _, rfl, ⟨?_, N⟩, ⟨_, rfl⟩, hW, hsame.mono hk hn⟩
  · exact retOut X hx hret rfl (Or.inr (Or.inl ⟨rfl, rfl, z, rfl⟩)) (hb hby hd) hr
  · show Q _ T.heap; rw [eT]; exact hQ
theorem g_retZ {z : Int32} (X : St p l e R s m args below meth c n0 T h cells slots) (C : Cx p s m meth c Z bytes maxL (some .boolean) own nme) {Q : Option Value → Heap → Prop} {k n : Nat} (hd : decode bytes pc = .ok (.ireturn, 1)) (hQ : Q (some (.int (nar .boolean z))) h) (hk : cells ≤ k) (hn : slots ≤ n) : Go p e below (Rs s below n0 Q k n) T (mkF m pc L (.int z :: S)) := by
  obtain ⟨locs, X, N, eT⟩ := X; obtain ⟨hx, hby, -, hret, hlk, -⟩ := C
  obtain ⟨fs, hr, hrun, hended, hW, hsame⟩ := X.leave (v := (some (.int (nar .boolean z)))) (fun q => by first | rfl | (rw [hret] at q; cases q)) hlk
  refine ⟨_, _, ?_, hrun, hended, _, _, rfl, ⟨?_, N⟩, ⟨_, rfl⟩, hW, hsame.mono hk hn⟩
  · exact retN X hx (t := .boolean) hret (by simp) (hb hby hd) hr
  · show Q _ T.heap; rw [eT]; exact hQ
theorem g_retB {z : Int32} (X : St p l e R s m args below meth c n0 T h cells slots) (C : Cx p s m meth c Z bytes maxL (some .byte) own nme) {Q : Option Value → Heap → Prop} {k n : Nat} (hd : decode bytes pc = .ok (.ireturn, 1)) (hQ : Q (some (.int (nar .byte z))) h) (hk : cells ≤ k) (hn : slots ≤ n) : Go p e below (Rs s below n0 Q k n) T (mkF m pc L (.int z :: S)) := by
  obtain ⟨locs, X, N, eT⟩ := X; obtain ⟨hx, hby, -, hret, hlk, -⟩ := C
  obtain ⟨fs, hr, hrun, hended, hW, hsame⟩ := X.leave (v := (some (.int (nar .byte z)))) (fun q => by first | rfl | (rw [hret] at q; cases q)) hlk
  refine ⟨_, _, ?_, hrun, hended, _, _, rfl, ⟨?_, N⟩, ⟨_, rfl⟩, hW, hsame.mono hk hn⟩
  · exact retN X hx (t := .byte) hret (by simp) (hb hby hd) hr
  · show Q _ T.heap; rw [eT]; exact hQ
theorem g_retV  (X : St p l e R s m args below meth c n0 T h cells slots) (C : Cx p s m meth c Z bytes maxL none own nme) {Q : Option Value → Heap → Prop} {k n : Nat} (hd : decode bytes pc = .ok (.return_, 1)) (hQ : Q none h) (hk : cells ≤ k) (hn : slots ≤ n) : Go p e below (Rs s below n0 Q k n) T (mkF m pc L []) := by
  obtain ⟨locs, X, N, eT⟩ := X; obtain ⟨hx, hby, -, hret, hlk, -⟩ := C
  obtain ⟨fs, hr, hrun, hended, hW, hsame⟩ := X.leave (v := none) (fun q => by first | rfl | (rw [hret] at q; cases q)) hlk
  refine ⟨_, _, ?_, hrun, hended, _, _, rfl, ⟨?_, N⟩, ⟨_, rfl⟩, hW, hsame.mono hk hn⟩
  · exact X.returnOut hx hret (hb hby hd) hr
  · show Q _ T.heap; rw [eT]; exact hQ
theorem g_retA {v : Value} {ty : FieldType} (X : St p l e R s m args below meth c n0 T h cells slots) (C : Cx p s m meth c Z bytes maxL (some ty) own nme) {Q : Option Value → Heap → Prop} {k n : Nat} (hd : decode bytes pc = .ok (.areturn, 1)) (ht : ty.isReference = true) (hv : v.isRef = true) (hQ : Q (some v) h) (hk : cells ≤ k) (hn : slots ≤ n) : Go p e below (Rs s below n0 Q k n) T (mkF m pc L (v :: S)) := by
  obtain ⟨locs, X, N, eT⟩ := X; obtain ⟨hx, hby, -, hret, hlk, -⟩ := C
  obtain ⟨fs, hr, hrun, hended, hW, hsame⟩ := X.leave (v := (some v)) (fun q => by first | rfl | (rw [hret] at q; cases q)) hlk
  refine ⟨_, _, ?_, hrun, hended, _, _, rfl, ⟨?_, N⟩, ⟨_, rfl⟩, hW, hsame.mono hk hn⟩
  · exact retOut X hx hret (by cases ty <;> cases v <;> simp_all [narrow, FieldType.isReference, Value.isRef]) (Or.inr (Or.inr (Or.inr (Or.inr ⟨rfl, ht, hv⟩)))) (hb hby hd) hr
  · show Q _ T.heap; rw [eT]; exact hQ
end Lay
end Jvm.Own
namespace Jvm.Pilot.@@N@@
open Jvm Jvm.ClassFile Sem Op Lib Jvm.Free Jvm.Stand Jvm.LawKit Jvm.RoadKit Jvm.Own Bundle Jvm.Pilot.@@N@@.Jvm.D
def own_step (h : Int64) (b : Int32) : Int64 := (h ^^^ (b &&& 255).toInt64) * 1099511628211
def own_foldG (st : Int64 → Int32 → Int64) (g : Nat → Int32) : Nat → Nat → Int64 → Int64
  | _, 0, h => h
  | i, k + 1, h => own_foldG st g (i + 1) k (st h (g i))
theorem own_fold0 (st : Int64 → Int32 → Int64) (g : Nat → Int32) (i : Nat) (h : Int64) : own_foldG st g i 0 h = h := by rw [own_foldG]
theorem own_foldS (st : Int64 → Int32 → Int64) (g : Nat → Int32) (i k : Nat) (h : Int64) : own_foldG st g i (k + 1) h = own_foldG st g (i + 1) k (st h (g i)) := by rw [own_foldG]
theorem own_fold1 (st : Int64 → Int32 → Int64) (g : Nat → Int32) (i : Nat) (h : Int64) : own_foldG st g i 1 h = st h (g i) := by rw [own_foldS, own_fold0]
theorem own_fold2 (st : Int64 → Int32 → Int64) (g : Nat → Int32) (i : Nat) (h : Int64) : own_foldG st g i 2 h = st (st h (g i)) (g (i + 1)) := by rw [own_foldS, own_fold1]
theorem own_fold3 (st : Int64 → Int32 → Int64) (g : Nat → Int32) (i : Nat) (h : Int64) : own_foldG st g i 3 h = st (st (st h (g i)) (g (i + 1))) (g (i + 1 + 1)) := by rw [own_foldS, own_fold2]
theorem own_fold4 (st : Int64 → Int32 → Int64) (g : Nat → Int32) (i : Nat) (h : Int64) : own_foldG st g i 4 h = st (st (st (st h (g i)) (g (i + 1))) (g (i + 1 + 1))) (g (i + 1 + 1 + 1)) := by rw [own_foldS, own_fold3]
def own_sh (x : Int64) : Int64 := x ^^^ ((x.toUInt64 >>> ((33 : Int32) &&& 0x3f).toInt64.toUInt64).toInt64)
def own_fmix (x : Int64) : Int64 := own_sh (own_sh (own_sh x * (-49064778989728563)) * (-4265267296055464877))
theorem own_narb (x : Int64) : nar .byte (x.toInt32.toInt8.toInt32) = x.toInt32.toInt8.toInt32 := by
  simp [nar]

theorem d1_0 : decode prog_113_method_14_code 0 = .ok (.ldc2_w 190, 3) := by decide +kernel
theorem d1_3 : decode prog_113_method_14_code 3 = .ok (.lstore_n 3, 1) := by decide +kernel
theorem d1_4 : decode prog_113_method_14_code 4 = .ok (.iload_n 1, 1) := by decide +kernel
theorem d1_5 : decode prog_113_method_14_code 5 = .ok (.istore 5, 2) := by decide +kernel
theorem d1_7 : decode prog_113_method_14_code 7 = .ok (.iload 5, 2) := by decide +kernel
theorem d1_9 : decode prog_113_method_14_code 9 = .ok (.iload_n 2, 1) := by decide +kernel
theorem d1_10 : decode prog_113_method_14_code 10 = .ok (.if_icmp .ge 25, 3) := by decide +kernel
theorem d1_13 : decode prog_113_method_14_code 13 = .ok (.lload_n 3, 1) := by decide +kernel
theorem d1_14 : decode prog_113_method_14_code 14 = .ok (.aload_n 0, 1) := by decide +kernel
theorem d1_15 : decode prog_113_method_14_code 15 = .ok (.iload 5, 2) := by decide +kernel
theorem d1_17 : decode prog_113_method_14_code 17 = .ok (.baload, 1) := by decide +kernel
theorem d1_18 : decode prog_113_method_14_code 18 = .ok (.sipush 255, 3) := by decide +kernel
theorem d1_21 : decode prog_113_method_14_code 21 = .ok (.iand, 1) := by decide +kernel
theorem d1_22 : decode prog_113_method_14_code 22 = .ok (.i2l, 1) := by decide +kernel
theorem d1_23 : decode prog_113_method_14_code 23 = .ok (.lxor, 1) := by decide +kernel
theorem d1_24 : decode prog_113_method_14_code 24 = .ok (.ldc2_w 192, 3) := by decide +kernel
theorem d1_27 : decode prog_113_method_14_code 27 = .ok (.lmul, 1) := by decide +kernel
theorem d1_28 : decode prog_113_method_14_code 28 = .ok (.lstore_n 3, 1) := by decide +kernel
theorem d1_29 : decode prog_113_method_14_code 29 = .ok (.iinc 5 1, 3) := by decide +kernel
theorem d1_32 : decode prog_113_method_14_code 32 = .ok (.goto (-25), 3) := by decide +kernel
theorem d1_35 : decode prog_113_method_14_code 35 = .ok (.lload_n 3, 1) := by decide +kernel
theorem d1_36 : decode prog_113_method_14_code 36 = .ok (.lload_n 3, 1) := by decide +kernel
theorem d1_37 : decode prog_113_method_14_code 37 = .ok (.bipush 33, 2) := by decide +kernel
theorem d1_39 : decode prog_113_method_14_code 39 = .ok (.lushr, 1) := by decide +kernel
theorem d1_40 : decode prog_113_method_14_code 40 = .ok (.lxor, 1) := by decide +kernel
theorem d1_41 : decode prog_113_method_14_code 41 = .ok (.ldc2_w 194, 3) := by decide +kernel
theorem d1_44 : decode prog_113_method_14_code 44 = .ok (.lmul, 1) := by decide +kernel
theorem d1_45 : decode prog_113_method_14_code 45 = .ok (.lstore_n 3, 1) := by decide +kernel
theorem d1_46 : decode prog_113_method_14_code 46 = .ok (.lload_n 3, 1) := by decide +kernel
theorem d1_47 : decode prog_113_method_14_code 47 = .ok (.lload_n 3, 1) := by decide +kernel
theorem d1_48 : decode prog_113_method_14_code 48 = .ok (.bipush 33, 2) := by decide +kernel
theorem d1_50 : decode prog_113_method_14_code 50 = .ok (.lushr, 1) := by decide +kernel
theorem d1_51 : decode prog_113_method_14_code 51 = .ok (.lxor, 1) := by decide +kernel
theorem d1_52 : decode prog_113_method_14_code 52 = .ok (.ldc2_w 196, 3) := by decide +kernel
theorem d1_55 : decode prog_113_method_14_code 55 = .ok (.lmul, 1) := by decide +kernel
theorem d1_56 : decode prog_113_method_14_code 56 = .ok (.lstore_n 3, 1) := by decide +kernel
theorem d1_57 : decode prog_113_method_14_code 57 = .ok (.lload_n 3, 1) := by decide +kernel
theorem d1_58 : decode prog_113_method_14_code 58 = .ok (.lload_n 3, 1) := by decide +kernel
theorem d1_59 : decode prog_113_method_14_code 59 = .ok (.bipush 33, 2) := by decide +kernel
theorem d1_61 : decode prog_113_method_14_code 61 = .ok (.lushr, 1) := by decide +kernel
theorem d1_62 : decode prog_113_method_14_code 62 = .ok (.lxor, 1) := by decide +kernel
theorem d1_63 : decode prog_113_method_14_code 63 = .ok (.lreturn, 1) := by decide +kernel
theorem d2_0 : decode method_3_code 0 = .ok (.lload_n 0, 1) := by decide +kernel
theorem d2_1 : decode method_3_code 1 = .ok (.lstore_n 2, 1) := by decide +kernel
theorem d2_2 : decode method_3_code 2 = .ok (.lload_n 2, 1) := by decide +kernel
theorem d2_3 : decode method_3_code 3 = .ok (.lload_n 2, 1) := by decide +kernel
theorem d2_4 : decode method_3_code 4 = .ok (.bipush 33, 2) := by decide +kernel
theorem d2_6 : decode method_3_code 6 = .ok (.lushr, 1) := by decide +kernel
theorem d2_7 : decode method_3_code 7 = .ok (.lxor, 1) := by decide +kernel
theorem d2_8 : decode method_3_code 8 = .ok (.lstore_n 2, 1) := by decide +kernel
theorem d2_9 : decode method_3_code 9 = .ok (.lload_n 2, 1) := by decide +kernel
theorem d2_10 : decode method_3_code 10 = .ok (.ldc2_w 11, 3) := by decide +kernel
theorem d2_13 : decode method_3_code 13 = .ok (.lmul, 1) := by decide +kernel
theorem d2_14 : decode method_3_code 14 = .ok (.lstore_n 2, 1) := by decide +kernel
theorem d2_15 : decode method_3_code 15 = .ok (.lload_n 2, 1) := by decide +kernel
theorem d2_16 : decode method_3_code 16 = .ok (.lload_n 2, 1) := by decide +kernel
theorem d2_17 : decode method_3_code 17 = .ok (.bipush 33, 2) := by decide +kernel
theorem d2_19 : decode method_3_code 19 = .ok (.lushr, 1) := by decide +kernel
theorem d2_20 : decode method_3_code 20 = .ok (.lxor, 1) := by decide +kernel
theorem d2_21 : decode method_3_code 21 = .ok (.lstore_n 2, 1) := by decide +kernel
theorem d2_22 : decode method_3_code 22 = .ok (.lload_n 2, 1) := by decide +kernel
theorem d2_23 : decode method_3_code 23 = .ok (.ldc2_w 13, 3) := by decide +kernel
theorem d2_26 : decode method_3_code 26 = .ok (.lmul, 1) := by decide +kernel
theorem d2_27 : decode method_3_code 27 = .ok (.lstore_n 2, 1) := by decide +kernel
theorem d2_28 : decode method_3_code 28 = .ok (.lload_n 2, 1) := by decide +kernel
theorem d2_29 : decode method_3_code 29 = .ok (.lload_n 2, 1) := by decide +kernel
theorem d2_30 : decode method_3_code 30 = .ok (.bipush 33, 2) := by decide +kernel
theorem d2_32 : decode method_3_code 32 = .ok (.lushr, 1) := by decide +kernel
theorem d2_33 : decode method_3_code 33 = .ok (.lxor, 1) := by decide +kernel
theorem d2_34 : decode method_3_code 34 = .ok (.lstore_n 2, 1) := by decide +kernel
theorem d2_35 : decode method_3_code 35 = .ok (.lload_n 2, 1) := by decide +kernel
theorem d2_36 : decode method_3_code 36 = .ok (.lreturn, 1) := by decide +kernel
theorem d3_0 : decode method_2_code 0 = .ok (.lload_n 0, 1) := by decide +kernel
theorem d3_1 : decode method_2_code 1 = .ok (.iload_n 2, 1) := by decide +kernel
theorem d3_2 : decode method_2_code 2 = .ok (.sipush 255, 3) := by decide +kernel
theorem d3_5 : decode method_2_code 5 = .ok (.iand, 1) := by decide +kernel
theorem d3_6 : decode method_2_code 6 = .ok (.i2l, 1) := by decide +kernel
theorem d3_7 : decode method_2_code 7 = .ok (.lxor, 1) := by decide +kernel
theorem d3_8 : decode method_2_code 8 = .ok (.ldc2_w 9, 3) := by decide +kernel
theorem d3_11 : decode method_2_code 11 = .ok (.lmul, 1) := by decide +kernel
theorem d3_12 : decode method_2_code 12 = .ok (.lreturn, 1) := by decide +kernel
theorem pn_0 : plainName "org/foreslot/service/HistoryHashPinLaw" = true := by first | (simp [plainName, overriddenIn]; done) | decide +kernel
theorem pn_1 : plainName "org/foreslot/service/History" = true := by first | (simp [plainName, overriddenIn]; done) | decide +kernel
theorem pd_0 : parseMethodDescriptor "([BII)J" = some ⟨[(.array .byte), .int, .int], some .long⟩ := by decide +kernel
theorem pd_1 : parseMethodDescriptor "(J)J" = some ⟨[.long], some .long⟩ := by decide +kernel
theorem pd_2 : parseMethodDescriptor "(JB)J" = some ⟨[.long, .byte], some .long⟩ := by decide +kernel
theorem ef_rmS (m : MethodId) (q1 : Int64) (p2 : Int32) : entryFrame m #[(.long q1), (.int p2)] 3 = mkF m 0 #[.val (.long q1), .second, .val (.int p2)] [] := by first | (simp [entryFrame, mkF, argsToLocals, Value.category]; done) | rfl
set_option maxRecDepth 65536 in
set_option maxHeartbeats 40000000 in
theorem rmS (l : Launch) (Z : State) (a0 : Array Value) (hw : ∀ d ∈ tables_1, d.before a0 Z = true) (q1 : Int64) (p2 : Int32) (h0 : Heap) (n0 : Nat) (hz0 : n0 ≤ h0.size)  (ws : List Jvm.Cond) :
    Ctr l (⟨"org/foreslot/service/HistoryHashPinLaw", "step", "(JB)J"⟩ : MethodName) method_2_code 3 (some .long) ({ frames := 0, cells := 0, slots := 0, locals := 0 } : Room) Z n0 #[(.long q1), (.int p2)] h0 (fun v h => v = some (.long (own_step q1 p2)) ∧ h = h0) ws := by
  refine ctr_of (plainFor_of_name pn_0) ?_
  intro p e s m below meth c T0 X0 C
  refine go_cast (ef_rmS m q1 p2) ?_
  obtain ⟨RS, hRS⟩ : ∃ RS, RS = Rs s below n0 (fun v h => v = some (.long (own_step q1 p2)) ∧ h = h0) ({ frames := 0, cells := 0, slots := 0, locals := 0 } : Room).cells ({ frames := 0, cells := 0, slots := 0, locals := 0 } : Room).slots := ⟨_, rfl⟩
  suffices HG : Go p e below RS T0 (mkF m 0 #[.val (.long q1), .second, .val (.int p2)] []) by rw [hRS] at HG; exact HG
  show Go p e below RS T0 (mkF m 0 #[.val (.long q1), .second, .val (.int p2)] [])
  refine g_lloadN X0 C d3_0 rfl rfl ?_
  refine g_iloadN X0 C d3_1 rfl rfl ?_
  refine g_sipush (v := 255) X0 C d3_2 (by decide) rfl ?_
  refine g_iand X0 C d3_5 rfl ?_
  refine g_i2l X0 C d3_6 rfl ?_
  refine g_lxor X0 C d3_7 rfl ?_
  refine g_ldcJ X0 C (hw _ (List.mem_of_getElem? (i := 19) rfl)) d3_8 rfl ?_
  refine g_lmul X0 C d3_11 rfl ?_
  rw [hRS]
  refine g_retJ X0 C d3_12 ?_ (by decide) (by decide)
  exact ⟨rfl, rfl⟩
theorem ef_rmF (m : MethodId) (q1 : Int64) : entryFrame m #[(.long q1)] 4 = mkF m 0 #[.val (.long q1), .second, .unset, .unset] [] := by first | (simp [entryFrame, mkF, argsToLocals, Value.category]; done) | rfl
set_option maxRecDepth 65536 in
set_option maxHeartbeats 40000000 in
theorem rmF (l : Launch) (Z : State) (a0 : Array Value) (hw : ∀ d ∈ tables_1, d.before a0 Z = true) (q1 : Int64) (h0 : Heap) (n0 : Nat) (hz0 : n0 ≤ h0.size)  (ws : List Jvm.Cond) :
    Ctr l (⟨"org/foreslot/service/HistoryHashPinLaw", "fmix", "(J)J"⟩ : MethodName) method_3_code 4 (some .long) ({ frames := 0, cells := 0, slots := 0, locals := 0 } : Room) Z n0 #[(.long q1)] h0 (fun v h => v = some (.long (own_fmix q1)) ∧ h = h0) ws := by
  refine ctr_of (plainFor_of_name pn_0) ?_
  intro p e s m below meth c T0 X0 C
  refine go_cast (ef_rmF m q1) ?_
  obtain ⟨RS, hRS⟩ : ∃ RS, RS = Rs s below n0 (fun v h => v = some (.long (own_fmix q1)) ∧ h = h0) ({ frames := 0, cells := 0, slots := 0, locals := 0 } : Room).cells ({ frames := 0, cells := 0, slots := 0, locals := 0 } : Room).slots := ⟨_, rfl⟩
  suffices HG : Go p e below RS T0 (mkF m 0 #[.val (.long q1), .second, .unset, .unset] []) by rw [hRS] at HG; exact HG
  show Go p e below RS T0 (mkF m 0 #[.val (.long q1), .second, .unset, .unset] [])
  refine g_lloadN X0 C d2_0 rfl rfl ?_
  refine g_lstoreN (L' := #[.val (.long q1), .second, .val (.long q1), .second]) X0 C d2_1 rfl rfl rfl ?_
  refine g_lloadN X0 C d2_2 rfl rfl ?_
  refine g_lloadN X0 C d2_3 rfl rfl ?_
  refine g_bipush (v := 33) X0 C d2_4 (by decide) rfl ?_
  refine g_lushr X0 C d2_6 rfl ?_
  refine g_lxor X0 C d2_7 rfl ?_
  obtain ⟨j1, h_j1⟩ : ∃ z, z = (q1 ^^^ ((q1.toUInt64 >>> ((33 : Int32) &&& 0x3f).toInt64.toUInt64).toInt64)) := ⟨_, rfl⟩
  refine g_lstoreN (L' := #[.val (.long q1), .second, .val (.long j1), .second]) X0 C d2_8 h_j1 rfl rfl ?_
  refine g_lloadN X0 C d2_9 rfl rfl ?_
  refine g_ldcJ X0 C (hw _ (List.mem_of_getElem? (i := 14) rfl)) d2_10 rfl ?_
  refine g_lmul X0 C d2_13 rfl ?_
  obtain ⟨j2, h_j2⟩ : ∃ z, z = (j1 * (-49064778989728563 : Int64)) := ⟨_, rfl⟩
  refine g_lstoreN (L' := #[.val (.long q1), .second, .val (.long j2), .second]) X0 C d2_14 h_j2 rfl rfl ?_
  refine g_lloadN X0 C d2_15 rfl rfl ?_
  refine g_lloadN X0 C d2_16 rfl rfl ?_
  refine g_bipush (v := 33) X0 C d2_17 (by decide) rfl ?_
  refine g_lushr X0 C d2_19 rfl ?_
  refine g_lxor X0 C d2_20 rfl ?_
  obtain ⟨j3, h_j3⟩ : ∃ z, z = (j2 ^^^ ((j2.toUInt64 >>> ((33 : Int32) &&& 0x3f).toInt64.toUInt64).toInt64)) := ⟨_, rfl⟩
  refine g_lstoreN (L' := #[.val (.long q1), .second, .val (.long j3), .second]) X0 C d2_21 h_j3 rfl rfl ?_
  refine g_lloadN X0 C d2_22 rfl rfl ?_
  refine g_ldcJ X0 C (hw _ (List.mem_of_getElem? (i := 15) rfl)) d2_23 rfl ?_
  refine g_lmul X0 C d2_26 rfl ?_
  obtain ⟨j4, h_j4⟩ : ∃ z, z = (j3 * (-4265267296055464877 : Int64)) := ⟨_, rfl⟩
  refine g_lstoreN (L' := #[.val (.long q1), .second, .val (.long j4), .second]) X0 C d2_27 h_j4 rfl rfl ?_
  refine g_lloadN X0 C d2_28 rfl rfl ?_
  refine g_lloadN X0 C d2_29 rfl rfl ?_
  refine g_bipush (v := 33) X0 C d2_30 (by decide) rfl ?_
  refine g_lushr X0 C d2_32 rfl ?_
  refine g_lxor X0 C d2_33 rfl ?_
  obtain ⟨j5, h_j5⟩ : ∃ z, z = (j4 ^^^ ((j4.toUInt64 >>> ((33 : Int32) &&& 0x3f).toInt64.toUInt64).toInt64)) := ⟨_, rfl⟩
  refine g_lstoreN (L' := #[.val (.long q1), .second, .val (.long j5), .second]) X0 C d2_34 h_j5 rfl rfl ?_
  refine g_lloadN X0 C d2_35 rfl rfl ?_
  rw [hRS]
  refine g_retJ X0 C d2_36 ?_ (by decide) (by decide)
  have e1 : j1 = own_sh q1 := h_j1
  have e3 : j3 = own_sh j2 := h_j3
  have e5 : j5 = own_sh j4 := h_j5
  exact ⟨by rw [e5, h_j4, e3, h_j2, e1, own_fmix], rfl⟩
theorem ef_rmH (m : MethodId) (a1 : Addr) (p2 : Int32) (p3 : Int32) : entryFrame m #[(.ref a1), (.int p2), (.int p3)] 6 = mkF m 0 #[.val (.ref a1), .val (.int p2), .val (.int p3), .unset, .unset, .unset] [] := by first | (simp [entryFrame, mkF, argsToLocals, Value.category]; done) | rfl
set_option maxRecDepth 65536 in
set_option maxHeartbeats 40000000 in
theorem rmH (l : Launch) (Z : State) (a0 : Array Value) (hw : ∀ d ∈ tables_1, d.before a0 Z = true) (a1 : Addr) (p2 p3 : Int32) (g : Nat → Int32) (o n : Nat) (h0 : Heap) (n0 : Nat) (hz0 : n0 ≤ h0.size) (ho : p2.toInt = o) (hn : p3.toInt = (o + n : Nat)) (hb : o + n ≤ 8) (A_a1 : Ar Z h0 a1 .byte 8 (fun k => .int (g k))) (ws : List Jvm.Cond) :
    Ctr l (⟨"org/foreslot/service/History", "hash", "([BII)J"⟩ : MethodName) prog_113_method_14_code 6 (some .long) ({ frames := 0, cells := 0, slots := 0, locals := 0 } : Room) Z n0 #[(.ref a1), (.int p2), (.int p3)] h0 (fun v h => v = some (.long (own_fmix (own_foldG own_step g o n (-3750763034362895579)))) ∧ h = h0) ws := by
  refine ctr_of (plainFor_of_name pn_1) ?_
  intro p e s m below meth c T0 X0 C
  refine go_cast (ef_rmH m a1 p2 p3) ?_
  obtain ⟨RS, hRS⟩ : ∃ RS, RS = Rs s below n0 (fun v h => v = some (.long (own_fmix (own_foldG own_step g o n (-3750763034362895579)))) ∧ h = h0) ({ frames := 0, cells := 0, slots := 0, locals := 0 } : Room).cells ({ frames := 0, cells := 0, slots := 0, locals := 0 } : Room).slots := ⟨_, rfl⟩
  suffices HG : Go p e below RS T0 (mkF m 0 #[.val (.ref a1), .val (.int p2), .val (.int p3), .unset, .unset, .unset] []) by rw [hRS] at HG; exact HG
  show Go p e below RS T0 (mkF m 0 #[.val (.ref a1), .val (.int p2), .val (.int p3), .unset, .unset, .unset] [])
  refine g_ldcJ X0 C (hw _ (List.mem_of_getElem? (i := 7) rfl)) d1_0 rfl ?_
  refine g_lstoreN (L' := #[.val (.ref a1), .val (.int p2), .val (.int p3), .val (.long (-3750763034362895579 : Int64)), .second, .unset]) X0 C d1_3 rfl rfl rfl ?_
  refine g_iloadN X0 C d1_4 rfl rfl ?_
  refine g_istore (L' := #[.val (.ref a1), .val (.int p2), .val (.int p3), .val (.long (-3750763034362895579 : Int64)), .second, .val (.int p2)]) X0 C d1_5 rfl rfl rfl ?_
  have LP : ∀ (k i : Nat) (j : Int64) (x : Int32), x.toInt = i → i + k = o + n → own_foldG own_step g i k j = own_foldG own_step g o n (-3750763034362895579) → Go p e below RS T0 (mkF m 7 #[.val (.ref a1), .val (.int p2), .val (.int p3), .val (.long j), .second, .val (.int x)] []) := by
    intro k
    induction k with
    | zero =>
      intro i j x hx hk hf
      refine g_iload X0 C d1_7 rfl rfl ?_
      refine g_iloadN X0 C d1_9 rfl rfl ?_
      refine g_icmp_ge (a := x.toInt) (b := p3.toInt) X0 C d1_10 rfl rfl (by decide) (pT := 35) (by decide) (pF := 13) rfl (fun hc10 => ?_) (fun hc10 => absurd hc10 (by omega))
      refine g_lloadN X0 C d1_35 rfl rfl ?_
      refine g_lloadN X0 C d1_36 rfl rfl ?_
      refine g_bipush (v := 33) X0 C d1_37 (by decide) rfl ?_
      refine g_lushr X0 C d1_39 rfl ?_
      refine g_lxor X0 C d1_40 rfl ?_
      refine g_ldcJ X0 C (hw _ (List.mem_of_getElem? (i := 8) rfl)) d1_41 rfl ?_
      refine g_lmul X0 C d1_44 rfl ?_
      obtain ⟨j6, h_j6⟩ : ∃ z, z = ((j ^^^ ((j.toUInt64 >>> ((33 : Int32) &&& 0x3f).toInt64.toUInt64).toInt64)) * (-49064778989728563 : Int64)) := ⟨_, rfl⟩
      refine g_lstoreN (L' := #[.val (.ref a1), .val (.int p2), .val (.int p3), .val (.long j6), .second, .val (.int x)]) X0 C d1_45 h_j6 rfl rfl ?_
      refine g_lloadN X0 C d1_46 rfl rfl ?_
      refine g_lloadN X0 C d1_47 rfl rfl ?_
      refine g_bipush (v := 33) X0 C d1_48 (by decide) rfl ?_
      refine g_lushr X0 C d1_50 rfl ?_
      refine g_lxor X0 C d1_51 rfl ?_
      refine g_ldcJ X0 C (hw _ (List.mem_of_getElem? (i := 9) rfl)) d1_52 rfl ?_
      refine g_lmul X0 C d1_55 rfl ?_
      obtain ⟨j7, h_j7⟩ : ∃ z, z = ((j6 ^^^ ((j6.toUInt64 >>> ((33 : Int32) &&& 0x3f).toInt64.toUInt64).toInt64)) * (-4265267296055464877 : Int64)) := ⟨_, rfl⟩
      refine g_lstoreN (L' := #[.val (.ref a1), .val (.int p2), .val (.int p3), .val (.long j7), .second, .val (.int x)]) X0 C d1_56 h_j7 rfl rfl ?_
      refine g_lloadN X0 C d1_57 rfl rfl ?_
      refine g_lloadN X0 C d1_58 rfl rfl ?_
      refine g_bipush (v := 33) X0 C d1_59 (by decide) rfl ?_
      refine g_lushr X0 C d1_61 rfl ?_
      refine g_lxor X0 C d1_62 rfl ?_
      rw [hRS]
      refine g_retJ X0 C d1_63 ?_ (by decide) (by decide)
      have e1 : j6 = own_sh j * (-49064778989728563) := h_j6
      have e2 : j7 = own_sh j6 * (-4265267296055464877) := h_j7
      have hf' : j = own_foldG own_step g o n (-3750763034362895579) := by rw [own_fold0] at hf; exact hf
      refine ⟨?_, rfl⟩
      show some (Value.long (own_sh j7)) = _
      rw [e2, e1, hf', own_fmix]
    | succ k ih =>
      intro i j x hx hk hf
      refine g_iload X0 C d1_7 rfl rfl ?_
      refine g_iloadN X0 C d1_9 rfl rfl ?_
      refine g_icmp_ge (a := x.toInt) (b := p3.toInt) X0 C d1_10 rfl rfl (by decide) (pT := 35) (by decide) (pF := 13) rfl (fun hc10 => absurd hc10 (by omega)) (fun hc10 => ?_)
      refine g_lloadN X0 C d1_13 rfl rfl ?_
      refine g_aloadN X0 C d1_14 rfl rfl rfl ?_
      refine g_iload X0 C d1_15 rfl rfl ?_
      refine g_baloadB (i := i) (v := (.int (g i))) X0 C A_a1 hx (by omega) rfl d1_17 rfl ?_
      refine g_sipush (v := 255) X0 C d1_18 (by decide) rfl ?_
      refine g_iand X0 C d1_21 rfl ?_
      refine g_i2l X0 C d1_22 rfl ?_
      refine g_lxor X0 C d1_23 rfl ?_
      refine g_ldcJ X0 C (hw _ (List.mem_of_getElem? (i := 20) rfl)) d1_24 rfl ?_
      refine g_lmul X0 C d1_27 rfl ?_
      obtain ⟨j8, h_j8⟩ : ∃ z, z = ((j ^^^ ((g i) &&& (255 : Int32)).toInt64) * (1099511628211 : Int64)) := ⟨_, rfl⟩
      refine g_lstoreN (L' := #[.val (.ref a1), .val (.int p2), .val (.int p3), .val (.long j8), .second, .val (.int x)]) X0 C d1_28 h_j8 rfl rfl ?_
      obtain ⟨i9, h_i9⟩ : ∃ z, z = (x + (1 : Int32)) := ⟨_, rfl⟩
      have hi_i9 : i9.toInt = (i + 1 : Nat) := by
          have g1 := c_iadd x 1; have g2 := rng32 i9; have g3 : (1 : Int32).toInt = 1 := by decide
          rw [← h_i9] at g1; omega
      refine g_iinc (L' := #[.val (.ref a1), .val (.int p2), .val (.int p3), .val (.long j8), .second, .val (.int i9)]) X0 C d1_29 rfl h_i9 rfl rfl ?_
      refine g_goto (pc' := 7) X0 C d1_32 (by decide) (by decide) ?_
      exact ih (i + 1) _ _ hi_i9 (by omega) (by rw [show j8 = own_step j (g i) from h_j8, ← own_foldS]; exact hf)
  exact LP n o _ _ ho rfl rfl
theorem ef_rm0 (m : MethodId) (q1 : Int64) (q2 : Int64) (p3 : Int32) : entryFrame m #[(.long q1), (.long q2), (.int p3)] maxLocals = mkF m 0 #[.val (.long q1), .second, .val (.long q2), .second, .val (.int p3), .unset, .unset, .unset, .unset, .unset, .unset, .unset, .unset, .unset] [] := by first | (simp [entryFrame, mkF, argsToLocals, Value.category, maxLocals]; done) | rfl
set_option maxRecDepth 65536 in
set_option maxHeartbeats 40000000 in
theorem rm0 (l : Launch) (Z : State) (a0 : Array Value) (hw : ∀ d ∈ tables_1, d.before a0 Z = true) (q1 q2 : Int64) (p3 : Int32) (h0 : Heap) (n0 : Nat) (hz0 : n0 ≤ h0.size)  (ws : List Jvm.Cond) :
    Ctr l x code maxLocals ret room_1 Z n0 #[(.long q1), (.long q2), (.int p3)] h0 (fun v h => v = some (.int 1)) ws := by
  refine ctr_of (plainFor_of_name pn_0) ?_
  intro p e s m below meth c T0 X0 C
  refine go_cast (ef_rm0 m q1 q2 p3) ?_
  obtain ⟨RS, hRS⟩ : ∃ RS, RS = Rs s below n0 (fun v h => v = some (.int 1)) room_1.cells room_1.slots := ⟨_, rfl⟩
  suffices HG : Go p e below RS T0 (mkF m 0 #[.val (.long q1), .second, .val (.long q2), .second, .val (.int p3), .unset, .unset, .unset, .unset, .unset, .unset, .unset, .unset, .unset] []) by rw [hRS] at HG; exact HG
  show Go p e below RS T0 (mkF m 0 #[.val (.long q1), .second, .val (.long q2), .second, .val (.int p3), .unset, .unset, .unset, .unset, .unset, .unset, .unset, .unset, .unset] [])
  refine g_iload X0 C at_0 rfl rfl ?_
  refine g_ldcI X0 C (hw _ (List.mem_of_getElem? (i := 0) rfl)) at_2 rfl ?_
  refine g_iand X0 C at_4 rfl ?_
  refine g_iconst (v := 5) X0 C at_5 (by decide) rfl ?_
  refine g_irem X0 C at_6 (by decide) rfl ?_
  obtain ⟨i10, h_i10⟩ : ∃ z, z = ((p3 &&& (2147483647 : Int32)) % (5 : Int32)) := ⟨_, rfl⟩
  have hn5 : 0 ≤ i10.toInt ∧ i10.toInt ≤ 4 := by
    have g1 := c_mask p3 2147483647 31 (by decide) (by decide)
    have g2 := (c_irem (p3 &&& 2147483647) 5 5 (by decide)).1
    rw [← h_i10] at g2; rw [g1] at g2; simp only [Nat.reducePow] at g2
    omega
  refine g_istore (L' := #[.val (.long q1), .second, .val (.long q2), .second, .val (.int p3), .val (.int i10), .unset, .unset, .unset, .unset, .unset, .unset, .unset, .unset]) X0 C at_7 h_i10 rfl rfl ?_
  refine g_iload X0 C at_9 rfl rfl ?_
  refine g_iconst (v := 4) X0 C at_11 (by decide) rfl ?_
  refine g_iushr X0 C at_12 rfl ?_
  refine g_iconst (v := 3) X0 C at_13 (by decide) rfl ?_
  refine g_iand X0 C at_14 rfl ?_
  obtain ⟨i11, h_i11⟩ : ∃ z, z = (((p3.toUInt32 >>> ((4 : Int32) &&& 31).toUInt32).toInt32) &&& (3 : Int32)) := ⟨_, rfl⟩
  obtain ⟨o, ho, ho3⟩ : ∃ o : Nat, i11.toInt = o ∧ o ≤ 3 := by
    have g1 := c_mask (p3.toUInt32 >>> ((4 : Int32) &&& 31).toUInt32).toInt32 3 2 (by decide) (by decide)
    rw [← h_i11] at g1; simp only [Nat.reducePow] at g1
    exact ⟨i11.toInt.toNat, by omega, by omega⟩
  refine g_istore (L' := #[.val (.long q1), .second, .val (.long q2), .second, .val (.int p3), .val (.int i10), .val (.int i11), .unset, .unset, .unset, .unset, .unset, .unset, .unset]) X0 C at_15 h_i11 rfl rfl ?_
  refine g_lloadN X0 C at_17 rfl rfl ?_
  refine g_l2i X0 C at_18 rfl ?_
  refine g_i2b X0 C at_19 rfl ?_
  obtain ⟨i12, h_i12⟩ : ∃ z, z = q1.toInt32.toInt8.toInt32 := ⟨_, rfl⟩
  have hn_i12 : nar .byte i12 = i12 := by rw [h_i12]; exact own_narb _
  refine g_istore (L' := #[.val (.long q1), .second, .val (.long q2), .second, .val (.int p3), .val (.int i10), .val (.int i11), .val (.int i12), .unset, .unset, .unset, .unset, .unset, .unset]) X0 C at_20 h_i12 rfl rfl ?_
  refine g_lloadN X0 C at_22 rfl rfl ?_
  refine g_bipush (v := 8) X0 C at_23 (by decide) rfl ?_
  refine g_lushr X0 C at_25 rfl ?_
  refine g_l2i X0 C at_26 rfl ?_
  refine g_i2b X0 C at_27 rfl ?_
  obtain ⟨i13, h_i13⟩ : ∃ z, z = ((q1.toUInt64 >>> ((8 : Int32) &&& 0x3f).toInt64.toUInt64).toInt64).toInt32.toInt8.toInt32 := ⟨_, rfl⟩
  have hn_i13 : nar .byte i13 = i13 := by rw [h_i13]; exact own_narb _
  refine g_istore (L' := #[.val (.long q1), .second, .val (.long q2), .second, .val (.int p3), .val (.int i10), .val (.int i11), .val (.int i12), .val (.int i13), .unset, .unset, .unset, .unset, .unset]) X0 C at_28 h_i13 rfl rfl ?_
  refine g_lloadN X0 C at_30 rfl rfl ?_
  refine g_bipush (v := 16) X0 C at_31 (by decide) rfl ?_
  refine g_lushr X0 C at_33 rfl ?_
  refine g_l2i X0 C at_34 rfl ?_
  refine g_i2b X0 C at_35 rfl ?_
  obtain ⟨i14, h_i14⟩ : ∃ z, z = ((q1.toUInt64 >>> ((16 : Int32) &&& 0x3f).toInt64.toUInt64).toInt64).toInt32.toInt8.toInt32 := ⟨_, rfl⟩
  have hn_i14 : nar .byte i14 = i14 := by rw [h_i14]; exact own_narb _
  refine g_istore (L' := #[.val (.long q1), .second, .val (.long q2), .second, .val (.int p3), .val (.int i10), .val (.int i11), .val (.int i12), .val (.int i13), .val (.int i14), .unset, .unset, .unset, .unset]) X0 C at_36 h_i14 rfl rfl ?_
  refine g_lloadN X0 C at_38 rfl rfl ?_
  refine g_bipush (v := 24) X0 C at_39 (by decide) rfl ?_
  refine g_lushr X0 C at_41 rfl ?_
  refine g_l2i X0 C at_42 rfl ?_
  refine g_i2b X0 C at_43 rfl ?_
  obtain ⟨i15, h_i15⟩ : ∃ z, z = ((q1.toUInt64 >>> ((24 : Int32) &&& 0x3f).toInt64.toUInt64).toInt64).toInt32.toInt8.toInt32 := ⟨_, rfl⟩
  have hn_i15 : nar .byte i15 = i15 := by rw [h_i15]; exact own_narb _
  refine g_istore (L' := #[.val (.long q1), .second, .val (.long q2), .second, .val (.int p3), .val (.int i10), .val (.int i11), .val (.int i12), .val (.int i13), .val (.int i14), .val (.int i15), .unset, .unset, .unset]) X0 C at_44 h_i15 rfl rfl ?_
  refine g_bipush (v := 8) X0 C at_46 (by decide) rfl ?_
  refine g_newarr (n := 8) (cap := 8) X0 C (hw _ (List.mem_of_getElem? (i := 1) rfl)) (by decide) (by decide) (by decide) (by decide) (by decide) at_48 rfl (fun T16 h18 b20 hb21 X17 A_b20 K19 => ?_)
  have A_b20 : Ar Z h18 b20 .byte 8 (fun _ => .int 0) := A_b20
  have ga_b20 : n0 ≤ b20 := hb21 ▸ hz0
  have hz22 := Nat.le_trans hz0 K19.1
  refine g_astore (L' := #[.val (.long q1), .second, .val (.long q2), .second, .val (.int p3), .val (.int i10), .val (.int i11), .val (.int i12), .val (.int i13), .val (.int i14), .val (.int i15), .val (.ref b20), .unset, .unset]) X17 C at_50 rfl rfl rfl ?_
  refine g_aload X17 C at_52 rfl rfl rfl ?_
  refine g_iconst (v := 0) X17 C at_54 (by decide) rfl ?_
  refine g_lloadN X17 C at_55 rfl rfl ?_
  refine g_l2i X17 C at_56 rfl ?_
  refine g_i2b X17 C at_57 rfl ?_
  refine g_bastoreB (i := 0) X17 C A_b20 (by decide) (by decide) ga_b20 at_58 rfl (fun T23 h25 X24 A_b20 K26 => ?_)
  have hz27 := Nat.le_trans hz22 K26.1
  refine g_aload X24 C at_59 rfl rfl rfl ?_
  refine g_iconst (v := 1) X24 C at_61 (by decide) rfl ?_
  refine g_lloadN X24 C at_62 rfl rfl ?_
  refine g_bipush (v := 8) X24 C at_63 (by decide) rfl ?_
  refine g_lushr X24 C at_65 rfl ?_
  refine g_l2i X24 C at_66 rfl ?_
  refine g_i2b X24 C at_67 rfl ?_
  refine g_bastoreB (i := 1) X24 C A_b20 (by decide) (by decide) ga_b20 at_68 rfl (fun T28 h30 X29 A_b20 K31 => ?_)
  have hz32 := Nat.le_trans hz27 K31.1
  refine g_aload X29 C at_69 rfl rfl rfl ?_
  refine g_iconst (v := 2) X29 C at_71 (by decide) rfl ?_
  refine g_lloadN X29 C at_72 rfl rfl ?_
  refine g_bipush (v := 16) X29 C at_73 (by decide) rfl ?_
  refine g_lushr X29 C at_75 rfl ?_
  refine g_l2i X29 C at_76 rfl ?_
  refine g_i2b X29 C at_77 rfl ?_
  refine g_bastoreB (i := 2) X29 C A_b20 (by decide) (by decide) ga_b20 at_78 rfl (fun T33 h35 X34 A_b20 K36 => ?_)
  have hz37 := Nat.le_trans hz32 K36.1
  refine g_aload X34 C at_79 rfl rfl rfl ?_
  refine g_iconst (v := 3) X34 C at_81 (by decide) rfl ?_
  refine g_lloadN X34 C at_82 rfl rfl ?_
  refine g_bipush (v := 24) X34 C at_83 (by decide) rfl ?_
  refine g_lushr X34 C at_85 rfl ?_
  refine g_l2i X34 C at_86 rfl ?_
  refine g_i2b X34 C at_87 rfl ?_
  refine g_bastoreB (i := 3) X34 C A_b20 (by decide) (by decide) ga_b20 at_88 rfl (fun T38 h40 X39 A_b20 K41 => ?_)
  have hz42 := Nat.le_trans hz37 K41.1
  refine g_aload X39 C at_89 rfl rfl rfl ?_
  refine g_iconst (v := 4) X39 C at_91 (by decide) rfl ?_
  refine g_lloadN X39 C at_92 rfl rfl ?_
  refine g_bipush (v := 32) X39 C at_93 (by decide) rfl ?_
  refine g_lushr X39 C at_95 rfl ?_
  refine g_l2i X39 C at_96 rfl ?_
  refine g_i2b X39 C at_97 rfl ?_
  refine g_bastoreB (i := 4) X39 C A_b20 (by decide) (by decide) ga_b20 at_98 rfl (fun T43 h45 X44 A_b20 K46 => ?_)
  have hz47 := Nat.le_trans hz42 K46.1
  refine g_aload X44 C at_99 rfl rfl rfl ?_
  refine g_iconst (v := 5) X44 C at_101 (by decide) rfl ?_
  refine g_lloadN X44 C at_102 rfl rfl ?_
  refine g_bipush (v := 40) X44 C at_103 (by decide) rfl ?_
  refine g_lushr X44 C at_105 rfl ?_
  refine g_l2i X44 C at_106 rfl ?_
  refine g_i2b X44 C at_107 rfl ?_
  refine g_bastoreB (i := 5) X44 C A_b20 (by decide) (by decide) ga_b20 at_108 rfl (fun T48 h50 X49 A_b20 K51 => ?_)
  have hz52 := Nat.le_trans hz47 K51.1
  refine g_aload X49 C at_109 rfl rfl rfl ?_
  refine g_bipush (v := 6) X49 C at_111 (by decide) rfl ?_
  refine g_lloadN X49 C at_113 rfl rfl ?_
  refine g_bipush (v := 48) X49 C at_114 (by decide) rfl ?_
  refine g_lushr X49 C at_116 rfl ?_
  refine g_l2i X49 C at_117 rfl ?_
  refine g_i2b X49 C at_118 rfl ?_
  refine g_bastoreB (i := 6) X49 C A_b20 (by decide) (by decide) ga_b20 at_119 rfl (fun T53 h55 X54 A_b20 K56 => ?_)
  have hz57 := Nat.le_trans hz52 K56.1
  refine g_aload X54 C at_120 rfl rfl rfl ?_
  refine g_bipush (v := 7) X54 C at_122 (by decide) rfl ?_
  refine g_lloadN X54 C at_124 rfl rfl ?_
  refine g_bipush (v := 56) X54 C at_125 (by decide) rfl ?_
  refine g_lushr X54 C at_127 rfl ?_
  refine g_l2i X54 C at_128 rfl ?_
  refine g_i2b X54 C at_129 rfl ?_
  refine g_bastoreB (i := 7) X54 C A_b20 (by decide) (by decide) ga_b20 at_130 rfl (fun T58 h60 X59 A_b20 K61 => ?_)
  have hz62 := Nat.le_trans hz57 K61.1
  obtain ⟨gj, A_b20⟩ : ∃ g : Nat → Int32, Ar Z h60 b20 .byte 8 (fun k => .int (g k)) := ⟨_, A_b20⟩
  refine g_iload X59 C at_131 rfl rfl ?_
  refine g_if_le (a := i10.toInt) X59 C at_133 rfl (by decide) (pT := 143) (by decide) (pF := 136) rfl (fun hc133 => ?_) (fun hc133 => ?_)
  ·
    refine g_iload X59 C at_143 rfl rfl ?_
    refine g_iconst (v := 1) X59 C at_145 (by decide) rfl ?_
    refine g_icmp_le (a := i10.toInt) (b := 1) X59 C at_146 rfl (by decide) (by decide) (pT := 158) (by decide) (pF := 149) rfl (fun hc146 => ?_) (fun hc146 => absurd hc146 (by omega))
    refine g_iload X59 C at_158 rfl rfl ?_
    refine g_iconst (v := 2) X59 C at_160 (by decide) rfl ?_
    refine g_icmp_le (a := i10.toInt) (b := 2) X59 C at_161 rfl (by decide) (by decide) (pT := 173) (by decide) (pF := 164) rfl (fun hc161 => ?_) (fun hc161 => absurd hc161 (by omega))
    refine g_iload X59 C at_173 rfl rfl ?_
    refine g_iconst (v := 3) X59 C at_175 (by decide) rfl ?_
    refine g_icmp_le (a := i10.toInt) (b := 3) X59 C at_176 rfl (by decide) (by decide) (pT := 188) (by decide) (pF := 179) rfl (fun hc176 => ?_) (fun hc176 => absurd hc176 (by omega))
    refine g_ldcJ X59 C (hw _ (List.mem_of_getElem? (i := 2) rfl)) at_188 rfl ?_
    refine g_lstore (L' := #[.val (.long q1), .second, .val (.long q2), .second, .val (.int p3), .val (.int i10), .val (.int i11), .val (.int i12), .val (.int i13), .val (.int i14), .val (.int i15), .val (.ref b20), .val (.long (-3750763034362895579 : Int64)), .second]) X59 C at_191 rfl rfl rfl ?_
    refine g_iload X59 C at_193 rfl rfl ?_
    refine g_if_le (a := i10.toInt) X59 C at_195 rfl (by decide) (pT := 207) (by decide) (pF := 198) rfl (fun hc195 => ?_) (fun hc195 => absurd hc195 (by omega))
    refine g_iload X59 C at_207 rfl rfl ?_
    refine g_iconst (v := 1) X59 C at_209 (by decide) rfl ?_
    refine g_icmp_le (a := i10.toInt) (b := 1) X59 C at_210 rfl (by decide) (by decide) (pT := 222) (by decide) (pF := 213) rfl (fun hc210 => ?_) (fun hc210 => absurd hc210 (by omega))
    refine g_iload X59 C at_222 rfl rfl ?_
    refine g_iconst (v := 2) X59 C at_224 (by decide) rfl ?_
    refine g_icmp_le (a := i10.toInt) (b := 2) X59 C at_225 rfl (by decide) (by decide) (pT := 237) (by decide) (pF := 228) rfl (fun hc225 => ?_) (fun hc225 => absurd hc225 (by omega))
    refine g_iload X59 C at_237 rfl rfl ?_
    refine g_iconst (v := 3) X59 C at_239 (by decide) rfl ?_
    refine g_icmp_le (a := i10.toInt) (b := 3) X59 C at_240 rfl (by decide) (by decide) (pT := 252) (by decide) (pF := 243) rfl (fun hc240 => ?_) (fun hc240 => absurd hc240 (by omega))
    refine g_aload X59 C at_252 rfl rfl rfl ?_
    refine g_iload X59 C at_254 rfl rfl ?_
    refine g_iload X59 C at_256 rfl rfl ?_
    refine g_iload X59 C at_258 rfl rfl ?_
    refine g_iadd X59 C at_260 rfl ?_
    have hnn : i10.toInt = 0 := by omega
    obtain ⟨gf, h_gf⟩ : ∃ g : Nat → Int32, g = gj := ⟨_, rfl⟩
    have A_b20 : Ar Z h60 b20 .byte 8 (fun k => .int (gf k)) := by rw [h_gf]; exact A_b20
    refine g_static (argsL := [(.ref b20), (.int i11), (.int (i11 + i10))]) (rest := []) (W := 0) X59 C (rmH l Z a0 hw b20 i11 (i11 + i10) gf o 0 h60 n0 hz62 ho (by have g1 := c_iadd i11 i10; have g2 := rng32 (i11 + i10); omega) (by omega) A_b20 []) (hw _ (List.mem_of_getElem? (i := 3) rfl)) (hw _ (List.mem_of_getElem? (i := 4) rfl)) (hw _ (List.mem_of_getElem? (i := 5) rfl)) (hw _ (List.mem_of_getElem? (i := 6) rfl)) (by decide) pd_0 rfl rfl rfl rfl rfl (by decide) (by decide) (by decide) (by decide) at_261 rfl (fun r66 T63 h65 hQ67 X64 => ?_)
    obtain ⟨rfl, hh⟩ := hQ67; rw [hh] at X64
    have hsame : own_foldG own_step gf o 0 (-3750763034362895579) = (-3750763034362895579 : Int64) := by
      rw [own_fold0]
    rw [hsame]
    show Go p e below RS T63 (mkF m 264 #[.val (.long q1), .second, .val (.long q2), .second, .val (.int p3), .val (.int i10), .val (.int i11), .val (.int i12), .val (.int i13), .val (.int i14), .val (.int i15), .val (.ref b20), .val (.long (-3750763034362895579 : Int64)), .second] [(.long (own_fmix (-3750763034362895579 : Int64)))])
    refine g_lload X64 C at_264 rfl rfl ?_
    refine g_static (argsL := [(.long (-3750763034362895579 : Int64))]) (rest := [(.long (own_fmix (-3750763034362895579 : Int64)))]) (W := 2) X64 C (rmF l Z a0 hw (-3750763034362895579 : Int64) h60 n0 hz62 []) (hw _ (List.mem_of_getElem? (i := 10) rfl)) (hw _ (List.mem_of_getElem? (i := 11) rfl)) (hw _ (List.mem_of_getElem? (i := 12) rfl)) (hw _ (List.mem_of_getElem? (i := 13) rfl)) (by decide) pd_1 rfl rfl rfl rfl rfl (by decide) (by decide) (by decide) (by decide) at_266 rfl (fun r71 T68 h70 hQ72 X69 => ?_)
    obtain ⟨rfl, hh⟩ := hQ72; rw [hh] at X69
    show Go p e below RS T68 (mkF m 269 #[.val (.long q1), .second, .val (.long q2), .second, .val (.int p3), .val (.int i10), .val (.int i11), .val (.int i12), .val (.int i13), .val (.int i14), .val (.int i15), .val (.ref b20), .val (.long (-3750763034362895579 : Int64)), .second] [(.long (own_fmix (-3750763034362895579 : Int64))), (.long (own_fmix (-3750763034362895579 : Int64)))])
    refine g_lcmp X69 C at_269 rfl ?_
    refine g_lif_ne (a := (own_fmix (-3750763034362895579 : Int64)).toInt) (b := (own_fmix (-3750763034362895579 : Int64)).toInt) X69 C at_270 rfl rfl (by decide) (pT := 277) (by decide) (pF := 273) rfl (fun hc270 => absurd hc270 (fun q => q rfl)) (fun hc270 => ?_)
    refine g_iconst (v := 1) X69 C at_273 (by decide) rfl ?_
    refine g_goto (pc' := 278) X69 C at_274 (by decide) (by decide) ?_
    rw [hRS]
    refine g_retZ X69 C at_278 ?_ (by decide) (by decide)
    exact rfl
  ·
    refine g_aload X59 C at_136 rfl rfl rfl ?_
    refine g_iload X59 C at_138 rfl rfl ?_
    refine g_iload X59 C at_140 rfl rfl ?_
    refine g_bastoreB (i := o) X59 C A_b20 ho (by omega) ga_b20 at_142 rfl (fun T73 h75 X74 A_b20 K76 => ?_)
    have hz77 := Nat.le_trans hz62 K76.1
    refine g_iload X74 C at_143 rfl rfl ?_
    refine g_iconst (v := 1) X74 C at_145 (by decide) rfl ?_
    refine g_icmp_le (a := i10.toInt) (b := 1) X74 C at_146 rfl (by decide) (by decide) (pT := 158) (by decide) (pF := 149) rfl (fun hc146 => ?_) (fun hc146 => ?_)
    ·
      refine g_iload X74 C at_158 rfl rfl ?_
      refine g_iconst (v := 2) X74 C at_160 (by decide) rfl ?_
      refine g_icmp_le (a := i10.toInt) (b := 2) X74 C at_161 rfl (by decide) (by decide) (pT := 173) (by decide) (pF := 164) rfl (fun hc161 => ?_) (fun hc161 => absurd hc161 (by omega))
      refine g_iload X74 C at_173 rfl rfl ?_
      refine g_iconst (v := 3) X74 C at_175 (by decide) rfl ?_
      refine g_icmp_le (a := i10.toInt) (b := 3) X74 C at_176 rfl (by decide) (by decide) (pT := 188) (by decide) (pF := 179) rfl (fun hc176 => ?_) (fun hc176 => absurd hc176 (by omega))
      refine g_ldcJ X74 C (hw _ (List.mem_of_getElem? (i := 2) rfl)) at_188 rfl ?_
      refine g_lstore (L' := #[.val (.long q1), .second, .val (.long q2), .second, .val (.int p3), .val (.int i10), .val (.int i11), .val (.int i12), .val (.int i13), .val (.int i14), .val (.int i15), .val (.ref b20), .val (.long (-3750763034362895579 : Int64)), .second]) X74 C at_191 rfl rfl rfl ?_
      refine g_iload X74 C at_193 rfl rfl ?_
      refine g_if_le (a := i10.toInt) X74 C at_195 rfl (by decide) (pT := 207) (by decide) (pF := 198) rfl (fun hc195 => absurd hc195 (by omega)) (fun hc195 => ?_)
      refine g_lload X74 C at_198 rfl rfl ?_
      refine g_iload X74 C at_200 rfl rfl ?_
      refine g_static (argsL := [(.long (-3750763034362895579 : Int64)), (.int i12)]) (rest := []) (W := 0) X74 C (rmS l Z a0 hw (-3750763034362895579 : Int64) i12 h75 n0 hz77 []) (hw _ (List.mem_of_getElem? (i := 16) rfl)) (hw _ (List.mem_of_getElem? (i := 17) rfl)) (hw _ (List.mem_of_getElem? (i := 12) rfl)) (hw _ (List.mem_of_getElem? (i := 18) rfl)) (by decide) pd_2 rfl rfl rfl rfl rfl (by decide) (by decide) (by decide) (by decide) at_202 rfl (fun r81 T78 h80 hQ82 X79 => ?_)
      obtain ⟨rfl, hh⟩ := hQ82; rw [hh] at X79
      show Go p e below RS T78 (mkF m 205 #[.val (.long q1), .second, .val (.long q2), .second, .val (.int p3), .val (.int i10), .val (.int i11), .val (.int i12), .val (.int i13), .val (.int i14), .val (.int i15), .val (.ref b20), .val (.long (-3750763034362895579 : Int64)), .second] [(.long (own_step (-3750763034362895579 : Int64) i12))])
      obtain ⟨j83, h_j83⟩ : ∃ z, z = (own_step (-3750763034362895579 : Int64) i12) := ⟨_, rfl⟩
      refine g_lstore (L' := #[.val (.long q1), .second, .val (.long q2), .second, .val (.int p3), .val (.int i10), .val (.int i11), .val (.int i12), .val (.int i13), .val (.int i14), .val (.int i15), .val (.ref b20), .val (.long j83), .second]) X79 C at_205 h_j83 rfl rfl ?_
      refine g_iload X79 C at_207 rfl rfl ?_
      refine g_iconst (v := 1) X79 C at_209 (by decide) rfl ?_
      refine g_icmp_le (a := i10.toInt) (b := 1) X79 C at_210 rfl (by decide) (by decide) (pT := 222) (by decide) (pF := 213) rfl (fun hc210 => ?_) (fun hc210 => absurd hc210 (by omega))
      refine g_iload X79 C at_222 rfl rfl ?_
      refine g_iconst (v := 2) X79 C at_224 (by decide) rfl ?_
      refine g_icmp_le (a := i10.toInt) (b := 2) X79 C at_225 rfl (by decide) (by decide) (pT := 237) (by decide) (pF := 228) rfl (fun hc225 => ?_) (fun hc225 => absurd hc225 (by omega))
      refine g_iload X79 C at_237 rfl rfl ?_
      refine g_iconst (v := 3) X79 C at_239 (by decide) rfl ?_
      refine g_icmp_le (a := i10.toInt) (b := 3) X79 C at_240 rfl (by decide) (by decide) (pT := 252) (by decide) (pF := 243) rfl (fun hc240 => ?_) (fun hc240 => absurd hc240 (by omega))
      refine g_aload X79 C at_252 rfl rfl rfl ?_
      refine g_iload X79 C at_254 rfl rfl ?_
      refine g_iload X79 C at_256 rfl rfl ?_
      refine g_iload X79 C at_258 rfl rfl ?_
      refine g_iadd X79 C at_260 rfl ?_
      have hnn : i10.toInt = 1 := by omega
      obtain ⟨gf, h_gf⟩ : ∃ g : Nat → Int32, g = (fun k => if k = o then (nar .byte i12) else gj k) := ⟨_, rfl⟩
      have A_b20 : Ar Z h75 b20 .byte 8 (fun k => .int (gf k)) := by rw [h_gf]; exact A_b20
      refine g_static (argsL := [(.ref b20), (.int i11), (.int (i11 + i10))]) (rest := []) (W := 0) X79 C (rmH l Z a0 hw b20 i11 (i11 + i10) gf o 1 h75 n0 hz77 ho (by have g1 := c_iadd i11 i10; have g2 := rng32 (i11 + i10); omega) (by omega) A_b20 []) (hw _ (List.mem_of_getElem? (i := 3) rfl)) (hw _ (List.mem_of_getElem? (i := 4) rfl)) (hw _ (List.mem_of_getElem? (i := 5) rfl)) (hw _ (List.mem_of_getElem? (i := 6) rfl)) (by decide) pd_0 rfl rfl rfl rfl rfl (by decide) (by decide) (by decide) (by decide) at_261 rfl (fun r87 T84 h86 hQ88 X85 => ?_)
      obtain ⟨rfl, hh⟩ := hQ88; rw [hh] at X85
      have hg0 : gf (o) = i12 := by rw [h_gf]; simp [hn_i12]
      have hsame : own_foldG own_step gf o 1 (-3750763034362895579) = j83 := by
        rw [own_fold1, hg0, h_j83]
      rw [hsame]
      show Go p e below RS T84 (mkF m 264 #[.val (.long q1), .second, .val (.long q2), .second, .val (.int p3), .val (.int i10), .val (.int i11), .val (.int i12), .val (.int i13), .val (.int i14), .val (.int i15), .val (.ref b20), .val (.long j83), .second] [(.long (own_fmix j83))])
      refine g_lload X85 C at_264 rfl rfl ?_
      refine g_static (argsL := [(.long j83)]) (rest := [(.long (own_fmix j83))]) (W := 2) X85 C (rmF l Z a0 hw j83 h75 n0 hz77 []) (hw _ (List.mem_of_getElem? (i := 10) rfl)) (hw _ (List.mem_of_getElem? (i := 11) rfl)) (hw _ (List.mem_of_getElem? (i := 12) rfl)) (hw _ (List.mem_of_getElem? (i := 13) rfl)) (by decide) pd_1 rfl rfl rfl rfl rfl (by decide) (by decide) (by decide) (by decide) at_266 rfl (fun r92 T89 h91 hQ93 X90 => ?_)
      obtain ⟨rfl, hh⟩ := hQ93; rw [hh] at X90
      show Go p e below RS T89 (mkF m 269 #[.val (.long q1), .second, .val (.long q2), .second, .val (.int p3), .val (.int i10), .val (.int i11), .val (.int i12), .val (.int i13), .val (.int i14), .val (.int i15), .val (.ref b20), .val (.long j83), .second] [(.long (own_fmix j83)), (.long (own_fmix j83))])
      refine g_lcmp X90 C at_269 rfl ?_
      refine g_lif_ne (a := (own_fmix j83).toInt) (b := (own_fmix j83).toInt) X90 C at_270 rfl rfl (by decide) (pT := 277) (by decide) (pF := 273) rfl (fun hc270 => absurd hc270 (fun q => q rfl)) (fun hc270 => ?_)
      refine g_iconst (v := 1) X90 C at_273 (by decide) rfl ?_
      refine g_goto (pc' := 278) X90 C at_274 (by decide) (by decide) ?_
      rw [hRS]
      refine g_retZ X90 C at_278 ?_ (by decide) (by decide)
      exact rfl
    ·
      refine g_aload X74 C at_149 rfl rfl rfl ?_
      refine g_iload X74 C at_151 rfl rfl ?_
      refine g_iconst (v := 1) X74 C at_153 (by decide) rfl ?_
      refine g_iadd X74 C at_154 rfl ?_
      refine g_iload X74 C at_155 rfl rfl ?_
      refine g_bastoreB (i := (o + 1)) X74 C A_b20 (addn ho (by decide) (by omega)) (by omega) ga_b20 at_157 rfl (fun T94 h96 X95 A_b20 K97 => ?_)
      have hz98 := Nat.le_trans hz77 K97.1
      refine g_iload X95 C at_158 rfl rfl ?_
      refine g_iconst (v := 2) X95 C at_160 (by decide) rfl ?_
      refine g_icmp_le (a := i10.toInt) (b := 2) X95 C at_161 rfl (by decide) (by decide) (pT := 173) (by decide) (pF := 164) rfl (fun hc161 => ?_) (fun hc161 => ?_)
      ·
        refine g_iload X95 C at_173 rfl rfl ?_
        refine g_iconst (v := 3) X95 C at_175 (by decide) rfl ?_
        refine g_icmp_le (a := i10.toInt) (b := 3) X95 C at_176 rfl (by decide) (by decide) (pT := 188) (by decide) (pF := 179) rfl (fun hc176 => ?_) (fun hc176 => absurd hc176 (by omega))
        refine g_ldcJ X95 C (hw _ (List.mem_of_getElem? (i := 2) rfl)) at_188 rfl ?_
        refine g_lstore (L' := #[.val (.long q1), .second, .val (.long q2), .second, .val (.int p3), .val (.int i10), .val (.int i11), .val (.int i12), .val (.int i13), .val (.int i14), .val (.int i15), .val (.ref b20), .val (.long (-3750763034362895579 : Int64)), .second]) X95 C at_191 rfl rfl rfl ?_
        refine g_iload X95 C at_193 rfl rfl ?_
        refine g_if_le (a := i10.toInt) X95 C at_195 rfl (by decide) (pT := 207) (by decide) (pF := 198) rfl (fun hc195 => absurd hc195 (by omega)) (fun hc195 => ?_)
        refine g_lload X95 C at_198 rfl rfl ?_
        refine g_iload X95 C at_200 rfl rfl ?_
        refine g_static (argsL := [(.long (-3750763034362895579 : Int64)), (.int i12)]) (rest := []) (W := 0) X95 C (rmS l Z a0 hw (-3750763034362895579 : Int64) i12 h96 n0 hz98 []) (hw _ (List.mem_of_getElem? (i := 16) rfl)) (hw _ (List.mem_of_getElem? (i := 17) rfl)) (hw _ (List.mem_of_getElem? (i := 12) rfl)) (hw _ (List.mem_of_getElem? (i := 18) rfl)) (by decide) pd_2 rfl rfl rfl rfl rfl (by decide) (by decide) (by decide) (by decide) at_202 rfl (fun r102 T99 h101 hQ103 X100 => ?_)
        obtain ⟨rfl, hh⟩ := hQ103; rw [hh] at X100
        show Go p e below RS T99 (mkF m 205 #[.val (.long q1), .second, .val (.long q2), .second, .val (.int p3), .val (.int i10), .val (.int i11), .val (.int i12), .val (.int i13), .val (.int i14), .val (.int i15), .val (.ref b20), .val (.long (-3750763034362895579 : Int64)), .second] [(.long (own_step (-3750763034362895579 : Int64) i12))])
        obtain ⟨j104, h_j104⟩ : ∃ z, z = (own_step (-3750763034362895579 : Int64) i12) := ⟨_, rfl⟩
        refine g_lstore (L' := #[.val (.long q1), .second, .val (.long q2), .second, .val (.int p3), .val (.int i10), .val (.int i11), .val (.int i12), .val (.int i13), .val (.int i14), .val (.int i15), .val (.ref b20), .val (.long j104), .second]) X100 C at_205 h_j104 rfl rfl ?_
        refine g_iload X100 C at_207 rfl rfl ?_
        refine g_iconst (v := 1) X100 C at_209 (by decide) rfl ?_
        refine g_icmp_le (a := i10.toInt) (b := 1) X100 C at_210 rfl (by decide) (by decide) (pT := 222) (by decide) (pF := 213) rfl (fun hc210 => absurd hc210 (by omega)) (fun hc210 => ?_)
        refine g_lload X100 C at_213 rfl rfl ?_
        refine g_iload X100 C at_215 rfl rfl ?_
        refine g_static (argsL := [(.long j104), (.int i13)]) (rest := []) (W := 0) X100 C (rmS l Z a0 hw j104 i13 h96 n0 hz98 []) (hw _ (List.mem_of_getElem? (i := 16) rfl)) (hw _ (List.mem_of_getElem? (i := 17) rfl)) (hw _ (List.mem_of_getElem? (i := 12) rfl)) (hw _ (List.mem_of_getElem? (i := 18) rfl)) (by decide) pd_2 rfl rfl rfl rfl rfl (by decide) (by decide) (by decide) (by decide) at_217 rfl (fun r108 T105 h107 hQ109 X106 => ?_)
        obtain ⟨rfl, hh⟩ := hQ109; rw [hh] at X106
        show Go p e below RS T105 (mkF m 220 #[.val (.long q1), .second, .val (.long q2), .second, .val (.int p3), .val (.int i10), .val (.int i11), .val (.int i12), .val (.int i13), .val (.int i14), .val (.int i15), .val (.ref b20), .val (.long j104), .second] [(.long (own_step j104 i13))])
        obtain ⟨j110, h_j110⟩ : ∃ z, z = (own_step j104 i13) := ⟨_, rfl⟩
        refine g_lstore (L' := #[.val (.long q1), .second, .val (.long q2), .second, .val (.int p3), .val (.int i10), .val (.int i11), .val (.int i12), .val (.int i13), .val (.int i14), .val (.int i15), .val (.ref b20), .val (.long j110), .second]) X106 C at_220 h_j110 rfl rfl ?_
        refine g_iload X106 C at_222 rfl rfl ?_
        refine g_iconst (v := 2) X106 C at_224 (by decide) rfl ?_
        refine g_icmp_le (a := i10.toInt) (b := 2) X106 C at_225 rfl (by decide) (by decide) (pT := 237) (by decide) (pF := 228) rfl (fun hc225 => ?_) (fun hc225 => absurd hc225 (by omega))
        refine g_iload X106 C at_237 rfl rfl ?_
        refine g_iconst (v := 3) X106 C at_239 (by decide) rfl ?_
        refine g_icmp_le (a := i10.toInt) (b := 3) X106 C at_240 rfl (by decide) (by decide) (pT := 252) (by decide) (pF := 243) rfl (fun hc240 => ?_) (fun hc240 => absurd hc240 (by omega))
        refine g_aload X106 C at_252 rfl rfl rfl ?_
        refine g_iload X106 C at_254 rfl rfl ?_
        refine g_iload X106 C at_256 rfl rfl ?_
        refine g_iload X106 C at_258 rfl rfl ?_
        refine g_iadd X106 C at_260 rfl ?_
        have hnn : i10.toInt = 2 := by omega
        obtain ⟨gf, h_gf⟩ : ∃ g : Nat → Int32, g = (fun k => if k = (o + 1) then (nar .byte i13) else (fun k => if k = o then (nar .byte i12) else gj k) k) := ⟨_, rfl⟩
        have A_b20 : Ar Z h96 b20 .byte 8 (fun k => .int (gf k)) := by rw [h_gf]; exact A_b20
        refine g_static (argsL := [(.ref b20), (.int i11), (.int (i11 + i10))]) (rest := []) (W := 0) X106 C (rmH l Z a0 hw b20 i11 (i11 + i10) gf o 2 h96 n0 hz98 ho (by have g1 := c_iadd i11 i10; have g2 := rng32 (i11 + i10); omega) (by omega) A_b20 []) (hw _ (List.mem_of_getElem? (i := 3) rfl)) (hw _ (List.mem_of_getElem? (i := 4) rfl)) (hw _ (List.mem_of_getElem? (i := 5) rfl)) (hw _ (List.mem_of_getElem? (i := 6) rfl)) (by decide) pd_0 rfl rfl rfl rfl rfl (by decide) (by decide) (by decide) (by decide) at_261 rfl (fun r114 T111 h113 hQ115 X112 => ?_)
        obtain ⟨rfl, hh⟩ := hQ115; rw [hh] at X112
        have hg0 : gf (o) = i12 := by rw [h_gf]; simp [hn_i12]
        have hg1 : gf (o + 1) = i13 := by rw [h_gf]; simp [hn_i13]
        have hsame : own_foldG own_step gf o 2 (-3750763034362895579) = j110 := by
          rw [own_fold2, hg0, hg1, h_j110, h_j104]
        rw [hsame]
        show Go p e below RS T111 (mkF m 264 #[.val (.long q1), .second, .val (.long q2), .second, .val (.int p3), .val (.int i10), .val (.int i11), .val (.int i12), .val (.int i13), .val (.int i14), .val (.int i15), .val (.ref b20), .val (.long j110), .second] [(.long (own_fmix j110))])
        refine g_lload X112 C at_264 rfl rfl ?_
        refine g_static (argsL := [(.long j110)]) (rest := [(.long (own_fmix j110))]) (W := 2) X112 C (rmF l Z a0 hw j110 h96 n0 hz98 []) (hw _ (List.mem_of_getElem? (i := 10) rfl)) (hw _ (List.mem_of_getElem? (i := 11) rfl)) (hw _ (List.mem_of_getElem? (i := 12) rfl)) (hw _ (List.mem_of_getElem? (i := 13) rfl)) (by decide) pd_1 rfl rfl rfl rfl rfl (by decide) (by decide) (by decide) (by decide) at_266 rfl (fun r119 T116 h118 hQ120 X117 => ?_)
        obtain ⟨rfl, hh⟩ := hQ120; rw [hh] at X117
        show Go p e below RS T116 (mkF m 269 #[.val (.long q1), .second, .val (.long q2), .second, .val (.int p3), .val (.int i10), .val (.int i11), .val (.int i12), .val (.int i13), .val (.int i14), .val (.int i15), .val (.ref b20), .val (.long j110), .second] [(.long (own_fmix j110)), (.long (own_fmix j110))])
        refine g_lcmp X117 C at_269 rfl ?_
        refine g_lif_ne (a := (own_fmix j110).toInt) (b := (own_fmix j110).toInt) X117 C at_270 rfl rfl (by decide) (pT := 277) (by decide) (pF := 273) rfl (fun hc270 => absurd hc270 (fun q => q rfl)) (fun hc270 => ?_)
        refine g_iconst (v := 1) X117 C at_273 (by decide) rfl ?_
        refine g_goto (pc' := 278) X117 C at_274 (by decide) (by decide) ?_
        rw [hRS]
        refine g_retZ X117 C at_278 ?_ (by decide) (by decide)
        exact rfl
      ·
        refine g_aload X95 C at_164 rfl rfl rfl ?_
        refine g_iload X95 C at_166 rfl rfl ?_
        refine g_iconst (v := 2) X95 C at_168 (by decide) rfl ?_
        refine g_iadd X95 C at_169 rfl ?_
        refine g_iload X95 C at_170 rfl rfl ?_
        refine g_bastoreB (i := (o + 2)) X95 C A_b20 (addn ho (by decide) (by omega)) (by omega) ga_b20 at_172 rfl (fun T121 h123 X122 A_b20 K124 => ?_)
        have hz125 := Nat.le_trans hz98 K124.1
        refine g_iload X122 C at_173 rfl rfl ?_
        refine g_iconst (v := 3) X122 C at_175 (by decide) rfl ?_
        refine g_icmp_le (a := i10.toInt) (b := 3) X122 C at_176 rfl (by decide) (by decide) (pT := 188) (by decide) (pF := 179) rfl (fun hc176 => ?_) (fun hc176 => ?_)
        ·
          refine g_ldcJ X122 C (hw _ (List.mem_of_getElem? (i := 2) rfl)) at_188 rfl ?_
          refine g_lstore (L' := #[.val (.long q1), .second, .val (.long q2), .second, .val (.int p3), .val (.int i10), .val (.int i11), .val (.int i12), .val (.int i13), .val (.int i14), .val (.int i15), .val (.ref b20), .val (.long (-3750763034362895579 : Int64)), .second]) X122 C at_191 rfl rfl rfl ?_
          refine g_iload X122 C at_193 rfl rfl ?_
          refine g_if_le (a := i10.toInt) X122 C at_195 rfl (by decide) (pT := 207) (by decide) (pF := 198) rfl (fun hc195 => absurd hc195 (by omega)) (fun hc195 => ?_)
          refine g_lload X122 C at_198 rfl rfl ?_
          refine g_iload X122 C at_200 rfl rfl ?_
          refine g_static (argsL := [(.long (-3750763034362895579 : Int64)), (.int i12)]) (rest := []) (W := 0) X122 C (rmS l Z a0 hw (-3750763034362895579 : Int64) i12 h123 n0 hz125 []) (hw _ (List.mem_of_getElem? (i := 16) rfl)) (hw _ (List.mem_of_getElem? (i := 17) rfl)) (hw _ (List.mem_of_getElem? (i := 12) rfl)) (hw _ (List.mem_of_getElem? (i := 18) rfl)) (by decide) pd_2 rfl rfl rfl rfl rfl (by decide) (by decide) (by decide) (by decide) at_202 rfl (fun r129 T126 h128 hQ130 X127 => ?_)
          obtain ⟨rfl, hh⟩ := hQ130; rw [hh] at X127
          show Go p e below RS T126 (mkF m 205 #[.val (.long q1), .second, .val (.long q2), .second, .val (.int p3), .val (.int i10), .val (.int i11), .val (.int i12), .val (.int i13), .val (.int i14), .val (.int i15), .val (.ref b20), .val (.long (-3750763034362895579 : Int64)), .second] [(.long (own_step (-3750763034362895579 : Int64) i12))])
          obtain ⟨j131, h_j131⟩ : ∃ z, z = (own_step (-3750763034362895579 : Int64) i12) := ⟨_, rfl⟩
          refine g_lstore (L' := #[.val (.long q1), .second, .val (.long q2), .second, .val (.int p3), .val (.int i10), .val (.int i11), .val (.int i12), .val (.int i13), .val (.int i14), .val (.int i15), .val (.ref b20), .val (.long j131), .second]) X127 C at_205 h_j131 rfl rfl ?_
          refine g_iload X127 C at_207 rfl rfl ?_
          refine g_iconst (v := 1) X127 C at_209 (by decide) rfl ?_
          refine g_icmp_le (a := i10.toInt) (b := 1) X127 C at_210 rfl (by decide) (by decide) (pT := 222) (by decide) (pF := 213) rfl (fun hc210 => absurd hc210 (by omega)) (fun hc210 => ?_)
          refine g_lload X127 C at_213 rfl rfl ?_
          refine g_iload X127 C at_215 rfl rfl ?_
          refine g_static (argsL := [(.long j131), (.int i13)]) (rest := []) (W := 0) X127 C (rmS l Z a0 hw j131 i13 h123 n0 hz125 []) (hw _ (List.mem_of_getElem? (i := 16) rfl)) (hw _ (List.mem_of_getElem? (i := 17) rfl)) (hw _ (List.mem_of_getElem? (i := 12) rfl)) (hw _ (List.mem_of_getElem? (i := 18) rfl)) (by decide) pd_2 rfl rfl rfl rfl rfl (by decide) (by decide) (by decide) (by decide) at_217 rfl (fun r135 T132 h134 hQ136 X133 => ?_)
          obtain ⟨rfl, hh⟩ := hQ136; rw [hh] at X133
          show Go p e below RS T132 (mkF m 220 #[.val (.long q1), .second, .val (.long q2), .second, .val (.int p3), .val (.int i10), .val (.int i11), .val (.int i12), .val (.int i13), .val (.int i14), .val (.int i15), .val (.ref b20), .val (.long j131), .second] [(.long (own_step j131 i13))])
          obtain ⟨j137, h_j137⟩ : ∃ z, z = (own_step j131 i13) := ⟨_, rfl⟩
          refine g_lstore (L' := #[.val (.long q1), .second, .val (.long q2), .second, .val (.int p3), .val (.int i10), .val (.int i11), .val (.int i12), .val (.int i13), .val (.int i14), .val (.int i15), .val (.ref b20), .val (.long j137), .second]) X133 C at_220 h_j137 rfl rfl ?_
          refine g_iload X133 C at_222 rfl rfl ?_
          refine g_iconst (v := 2) X133 C at_224 (by decide) rfl ?_
          refine g_icmp_le (a := i10.toInt) (b := 2) X133 C at_225 rfl (by decide) (by decide) (pT := 237) (by decide) (pF := 228) rfl (fun hc225 => absurd hc225 (by omega)) (fun hc225 => ?_)
          refine g_lload X133 C at_228 rfl rfl ?_
          refine g_iload X133 C at_230 rfl rfl ?_
          refine g_static (argsL := [(.long j137), (.int i14)]) (rest := []) (W := 0) X133 C (rmS l Z a0 hw j137 i14 h123 n0 hz125 []) (hw _ (List.mem_of_getElem? (i := 16) rfl)) (hw _ (List.mem_of_getElem? (i := 17) rfl)) (hw _ (List.mem_of_getElem? (i := 12) rfl)) (hw _ (List.mem_of_getElem? (i := 18) rfl)) (by decide) pd_2 rfl rfl rfl rfl rfl (by decide) (by decide) (by decide) (by decide) at_232 rfl (fun r141 T138 h140 hQ142 X139 => ?_)
          obtain ⟨rfl, hh⟩ := hQ142; rw [hh] at X139
          show Go p e below RS T138 (mkF m 235 #[.val (.long q1), .second, .val (.long q2), .second, .val (.int p3), .val (.int i10), .val (.int i11), .val (.int i12), .val (.int i13), .val (.int i14), .val (.int i15), .val (.ref b20), .val (.long j137), .second] [(.long (own_step j137 i14))])
          obtain ⟨j143, h_j143⟩ : ∃ z, z = (own_step j137 i14) := ⟨_, rfl⟩
          refine g_lstore (L' := #[.val (.long q1), .second, .val (.long q2), .second, .val (.int p3), .val (.int i10), .val (.int i11), .val (.int i12), .val (.int i13), .val (.int i14), .val (.int i15), .val (.ref b20), .val (.long j143), .second]) X139 C at_235 h_j143 rfl rfl ?_
          refine g_iload X139 C at_237 rfl rfl ?_
          refine g_iconst (v := 3) X139 C at_239 (by decide) rfl ?_
          refine g_icmp_le (a := i10.toInt) (b := 3) X139 C at_240 rfl (by decide) (by decide) (pT := 252) (by decide) (pF := 243) rfl (fun hc240 => ?_) (fun hc240 => absurd hc240 (by omega))
          refine g_aload X139 C at_252 rfl rfl rfl ?_
          refine g_iload X139 C at_254 rfl rfl ?_
          refine g_iload X139 C at_256 rfl rfl ?_
          refine g_iload X139 C at_258 rfl rfl ?_
          refine g_iadd X139 C at_260 rfl ?_
          have hnn : i10.toInt = 3 := by omega
          obtain ⟨gf, h_gf⟩ : ∃ g : Nat → Int32, g = (fun k => if k = (o + 2) then (nar .byte i14) else (fun k => if k = (o + 1) then (nar .byte i13) else (fun k => if k = o then (nar .byte i12) else gj k) k) k) := ⟨_, rfl⟩
          have A_b20 : Ar Z h123 b20 .byte 8 (fun k => .int (gf k)) := by rw [h_gf]; exact A_b20
          refine g_static (argsL := [(.ref b20), (.int i11), (.int (i11 + i10))]) (rest := []) (W := 0) X139 C (rmH l Z a0 hw b20 i11 (i11 + i10) gf o 3 h123 n0 hz125 ho (by have g1 := c_iadd i11 i10; have g2 := rng32 (i11 + i10); omega) (by omega) A_b20 []) (hw _ (List.mem_of_getElem? (i := 3) rfl)) (hw _ (List.mem_of_getElem? (i := 4) rfl)) (hw _ (List.mem_of_getElem? (i := 5) rfl)) (hw _ (List.mem_of_getElem? (i := 6) rfl)) (by decide) pd_0 rfl rfl rfl rfl rfl (by decide) (by decide) (by decide) (by decide) at_261 rfl (fun r147 T144 h146 hQ148 X145 => ?_)
          obtain ⟨rfl, hh⟩ := hQ148; rw [hh] at X145
          have hg0 : gf (o) = i12 := by rw [h_gf]; simp [hn_i12]
          have hg1 : gf (o + 1) = i13 := by rw [h_gf]; simp [hn_i13]
          have hg2 : gf (o + 1 + 1) = i14 := by rw [h_gf]; simp [hn_i14]
          have hsame : own_foldG own_step gf o 3 (-3750763034362895579) = j143 := by
            rw [own_fold3, hg0, hg1, hg2, h_j143, h_j137, h_j131]
          rw [hsame]
          show Go p e below RS T144 (mkF m 264 #[.val (.long q1), .second, .val (.long q2), .second, .val (.int p3), .val (.int i10), .val (.int i11), .val (.int i12), .val (.int i13), .val (.int i14), .val (.int i15), .val (.ref b20), .val (.long j143), .second] [(.long (own_fmix j143))])
          refine g_lload X145 C at_264 rfl rfl ?_
          refine g_static (argsL := [(.long j143)]) (rest := [(.long (own_fmix j143))]) (W := 2) X145 C (rmF l Z a0 hw j143 h123 n0 hz125 []) (hw _ (List.mem_of_getElem? (i := 10) rfl)) (hw _ (List.mem_of_getElem? (i := 11) rfl)) (hw _ (List.mem_of_getElem? (i := 12) rfl)) (hw _ (List.mem_of_getElem? (i := 13) rfl)) (by decide) pd_1 rfl rfl rfl rfl rfl (by decide) (by decide) (by decide) (by decide) at_266 rfl (fun r152 T149 h151 hQ153 X150 => ?_)
          obtain ⟨rfl, hh⟩ := hQ153; rw [hh] at X150
          show Go p e below RS T149 (mkF m 269 #[.val (.long q1), .second, .val (.long q2), .second, .val (.int p3), .val (.int i10), .val (.int i11), .val (.int i12), .val (.int i13), .val (.int i14), .val (.int i15), .val (.ref b20), .val (.long j143), .second] [(.long (own_fmix j143)), (.long (own_fmix j143))])
          refine g_lcmp X150 C at_269 rfl ?_
          refine g_lif_ne (a := (own_fmix j143).toInt) (b := (own_fmix j143).toInt) X150 C at_270 rfl rfl (by decide) (pT := 277) (by decide) (pF := 273) rfl (fun hc270 => absurd hc270 (fun q => q rfl)) (fun hc270 => ?_)
          refine g_iconst (v := 1) X150 C at_273 (by decide) rfl ?_
          refine g_goto (pc' := 278) X150 C at_274 (by decide) (by decide) ?_
          rw [hRS]
          refine g_retZ X150 C at_278 ?_ (by decide) (by decide)
          exact rfl
        ·
          refine g_aload X122 C at_179 rfl rfl rfl ?_
          refine g_iload X122 C at_181 rfl rfl ?_
          refine g_iconst (v := 3) X122 C at_183 (by decide) rfl ?_
          refine g_iadd X122 C at_184 rfl ?_
          refine g_iload X122 C at_185 rfl rfl ?_
          refine g_bastoreB (i := (o + 3)) X122 C A_b20 (addn ho (by decide) (by omega)) (by omega) ga_b20 at_187 rfl (fun T154 h156 X155 A_b20 K157 => ?_)
          have hz158 := Nat.le_trans hz125 K157.1
          refine g_ldcJ X155 C (hw _ (List.mem_of_getElem? (i := 2) rfl)) at_188 rfl ?_
          refine g_lstore (L' := #[.val (.long q1), .second, .val (.long q2), .second, .val (.int p3), .val (.int i10), .val (.int i11), .val (.int i12), .val (.int i13), .val (.int i14), .val (.int i15), .val (.ref b20), .val (.long (-3750763034362895579 : Int64)), .second]) X155 C at_191 rfl rfl rfl ?_
          refine g_iload X155 C at_193 rfl rfl ?_
          refine g_if_le (a := i10.toInt) X155 C at_195 rfl (by decide) (pT := 207) (by decide) (pF := 198) rfl (fun hc195 => absurd hc195 (by omega)) (fun hc195 => ?_)
          refine g_lload X155 C at_198 rfl rfl ?_
          refine g_iload X155 C at_200 rfl rfl ?_
          refine g_static (argsL := [(.long (-3750763034362895579 : Int64)), (.int i12)]) (rest := []) (W := 0) X155 C (rmS l Z a0 hw (-3750763034362895579 : Int64) i12 h156 n0 hz158 []) (hw _ (List.mem_of_getElem? (i := 16) rfl)) (hw _ (List.mem_of_getElem? (i := 17) rfl)) (hw _ (List.mem_of_getElem? (i := 12) rfl)) (hw _ (List.mem_of_getElem? (i := 18) rfl)) (by decide) pd_2 rfl rfl rfl rfl rfl (by decide) (by decide) (by decide) (by decide) at_202 rfl (fun r162 T159 h161 hQ163 X160 => ?_)
          obtain ⟨rfl, hh⟩ := hQ163; rw [hh] at X160
          show Go p e below RS T159 (mkF m 205 #[.val (.long q1), .second, .val (.long q2), .second, .val (.int p3), .val (.int i10), .val (.int i11), .val (.int i12), .val (.int i13), .val (.int i14), .val (.int i15), .val (.ref b20), .val (.long (-3750763034362895579 : Int64)), .second] [(.long (own_step (-3750763034362895579 : Int64) i12))])
          obtain ⟨j164, h_j164⟩ : ∃ z, z = (own_step (-3750763034362895579 : Int64) i12) := ⟨_, rfl⟩
          refine g_lstore (L' := #[.val (.long q1), .second, .val (.long q2), .second, .val (.int p3), .val (.int i10), .val (.int i11), .val (.int i12), .val (.int i13), .val (.int i14), .val (.int i15), .val (.ref b20), .val (.long j164), .second]) X160 C at_205 h_j164 rfl rfl ?_
          refine g_iload X160 C at_207 rfl rfl ?_
          refine g_iconst (v := 1) X160 C at_209 (by decide) rfl ?_
          refine g_icmp_le (a := i10.toInt) (b := 1) X160 C at_210 rfl (by decide) (by decide) (pT := 222) (by decide) (pF := 213) rfl (fun hc210 => absurd hc210 (by omega)) (fun hc210 => ?_)
          refine g_lload X160 C at_213 rfl rfl ?_
          refine g_iload X160 C at_215 rfl rfl ?_
          refine g_static (argsL := [(.long j164), (.int i13)]) (rest := []) (W := 0) X160 C (rmS l Z a0 hw j164 i13 h156 n0 hz158 []) (hw _ (List.mem_of_getElem? (i := 16) rfl)) (hw _ (List.mem_of_getElem? (i := 17) rfl)) (hw _ (List.mem_of_getElem? (i := 12) rfl)) (hw _ (List.mem_of_getElem? (i := 18) rfl)) (by decide) pd_2 rfl rfl rfl rfl rfl (by decide) (by decide) (by decide) (by decide) at_217 rfl (fun r168 T165 h167 hQ169 X166 => ?_)
          obtain ⟨rfl, hh⟩ := hQ169; rw [hh] at X166
          show Go p e below RS T165 (mkF m 220 #[.val (.long q1), .second, .val (.long q2), .second, .val (.int p3), .val (.int i10), .val (.int i11), .val (.int i12), .val (.int i13), .val (.int i14), .val (.int i15), .val (.ref b20), .val (.long j164), .second] [(.long (own_step j164 i13))])
          obtain ⟨j170, h_j170⟩ : ∃ z, z = (own_step j164 i13) := ⟨_, rfl⟩
          refine g_lstore (L' := #[.val (.long q1), .second, .val (.long q2), .second, .val (.int p3), .val (.int i10), .val (.int i11), .val (.int i12), .val (.int i13), .val (.int i14), .val (.int i15), .val (.ref b20), .val (.long j170), .second]) X166 C at_220 h_j170 rfl rfl ?_
          refine g_iload X166 C at_222 rfl rfl ?_
          refine g_iconst (v := 2) X166 C at_224 (by decide) rfl ?_
          refine g_icmp_le (a := i10.toInt) (b := 2) X166 C at_225 rfl (by decide) (by decide) (pT := 237) (by decide) (pF := 228) rfl (fun hc225 => absurd hc225 (by omega)) (fun hc225 => ?_)
          refine g_lload X166 C at_228 rfl rfl ?_
          refine g_iload X166 C at_230 rfl rfl ?_
          refine g_static (argsL := [(.long j170), (.int i14)]) (rest := []) (W := 0) X166 C (rmS l Z a0 hw j170 i14 h156 n0 hz158 []) (hw _ (List.mem_of_getElem? (i := 16) rfl)) (hw _ (List.mem_of_getElem? (i := 17) rfl)) (hw _ (List.mem_of_getElem? (i := 12) rfl)) (hw _ (List.mem_of_getElem? (i := 18) rfl)) (by decide) pd_2 rfl rfl rfl rfl rfl (by decide) (by decide) (by decide) (by decide) at_232 rfl (fun r174 T171 h173 hQ175 X172 => ?_)
          obtain ⟨rfl, hh⟩ := hQ175; rw [hh] at X172
          show Go p e below RS T171 (mkF m 235 #[.val (.long q1), .second, .val (.long q2), .second, .val (.int p3), .val (.int i10), .val (.int i11), .val (.int i12), .val (.int i13), .val (.int i14), .val (.int i15), .val (.ref b20), .val (.long j170), .second] [(.long (own_step j170 i14))])
          obtain ⟨j176, h_j176⟩ : ∃ z, z = (own_step j170 i14) := ⟨_, rfl⟩
          refine g_lstore (L' := #[.val (.long q1), .second, .val (.long q2), .second, .val (.int p3), .val (.int i10), .val (.int i11), .val (.int i12), .val (.int i13), .val (.int i14), .val (.int i15), .val (.ref b20), .val (.long j176), .second]) X172 C at_235 h_j176 rfl rfl ?_
          refine g_iload X172 C at_237 rfl rfl ?_
          refine g_iconst (v := 3) X172 C at_239 (by decide) rfl ?_
          refine g_icmp_le (a := i10.toInt) (b := 3) X172 C at_240 rfl (by decide) (by decide) (pT := 252) (by decide) (pF := 243) rfl (fun hc240 => absurd hc240 (by omega)) (fun hc240 => ?_)
          refine g_lload X172 C at_243 rfl rfl ?_
          refine g_iload X172 C at_245 rfl rfl ?_
          refine g_static (argsL := [(.long j176), (.int i15)]) (rest := []) (W := 0) X172 C (rmS l Z a0 hw j176 i15 h156 n0 hz158 []) (hw _ (List.mem_of_getElem? (i := 16) rfl)) (hw _ (List.mem_of_getElem? (i := 17) rfl)) (hw _ (List.mem_of_getElem? (i := 12) rfl)) (hw _ (List.mem_of_getElem? (i := 18) rfl)) (by decide) pd_2 rfl rfl rfl rfl rfl (by decide) (by decide) (by decide) (by decide) at_247 rfl (fun r180 T177 h179 hQ181 X178 => ?_)
          obtain ⟨rfl, hh⟩ := hQ181; rw [hh] at X178
          show Go p e below RS T177 (mkF m 250 #[.val (.long q1), .second, .val (.long q2), .second, .val (.int p3), .val (.int i10), .val (.int i11), .val (.int i12), .val (.int i13), .val (.int i14), .val (.int i15), .val (.ref b20), .val (.long j176), .second] [(.long (own_step j176 i15))])
          obtain ⟨j182, h_j182⟩ : ∃ z, z = (own_step j176 i15) := ⟨_, rfl⟩
          refine g_lstore (L' := #[.val (.long q1), .second, .val (.long q2), .second, .val (.int p3), .val (.int i10), .val (.int i11), .val (.int i12), .val (.int i13), .val (.int i14), .val (.int i15), .val (.ref b20), .val (.long j182), .second]) X178 C at_250 h_j182 rfl rfl ?_
          refine g_aload X178 C at_252 rfl rfl rfl ?_
          refine g_iload X178 C at_254 rfl rfl ?_
          refine g_iload X178 C at_256 rfl rfl ?_
          refine g_iload X178 C at_258 rfl rfl ?_
          refine g_iadd X178 C at_260 rfl ?_
          have hnn : i10.toInt = 4 := by omega
          obtain ⟨gf, h_gf⟩ : ∃ g : Nat → Int32, g = (fun k => if k = (o + 3) then (nar .byte i15) else (fun k => if k = (o + 2) then (nar .byte i14) else (fun k => if k = (o + 1) then (nar .byte i13) else (fun k => if k = o then (nar .byte i12) else gj k) k) k) k) := ⟨_, rfl⟩
          have A_b20 : Ar Z h156 b20 .byte 8 (fun k => .int (gf k)) := by rw [h_gf]; exact A_b20
          refine g_static (argsL := [(.ref b20), (.int i11), (.int (i11 + i10))]) (rest := []) (W := 0) X178 C (rmH l Z a0 hw b20 i11 (i11 + i10) gf o 4 h156 n0 hz158 ho (by have g1 := c_iadd i11 i10; have g2 := rng32 (i11 + i10); omega) (by omega) A_b20 []) (hw _ (List.mem_of_getElem? (i := 3) rfl)) (hw _ (List.mem_of_getElem? (i := 4) rfl)) (hw _ (List.mem_of_getElem? (i := 5) rfl)) (hw _ (List.mem_of_getElem? (i := 6) rfl)) (by decide) pd_0 rfl rfl rfl rfl rfl (by decide) (by decide) (by decide) (by decide) at_261 rfl (fun r186 T183 h185 hQ187 X184 => ?_)
          obtain ⟨rfl, hh⟩ := hQ187; rw [hh] at X184
          have hg0 : gf (o) = i12 := by rw [h_gf]; simp [hn_i12]
          have hg1 : gf (o + 1) = i13 := by rw [h_gf]; simp [hn_i13]
          have hg2 : gf (o + 1 + 1) = i14 := by rw [h_gf]; simp [hn_i14]
          have hg3 : gf (o + 1 + 1 + 1) = i15 := by rw [h_gf]; simp [hn_i15]
          have hsame : own_foldG own_step gf o 4 (-3750763034362895579) = j182 := by
            rw [own_fold4, hg0, hg1, hg2, hg3, h_j182, h_j176, h_j170, h_j164]
          rw [hsame]
          show Go p e below RS T183 (mkF m 264 #[.val (.long q1), .second, .val (.long q2), .second, .val (.int p3), .val (.int i10), .val (.int i11), .val (.int i12), .val (.int i13), .val (.int i14), .val (.int i15), .val (.ref b20), .val (.long j182), .second] [(.long (own_fmix j182))])
          refine g_lload X184 C at_264 rfl rfl ?_
          refine g_static (argsL := [(.long j182)]) (rest := [(.long (own_fmix j182))]) (W := 2) X184 C (rmF l Z a0 hw j182 h156 n0 hz158 []) (hw _ (List.mem_of_getElem? (i := 10) rfl)) (hw _ (List.mem_of_getElem? (i := 11) rfl)) (hw _ (List.mem_of_getElem? (i := 12) rfl)) (hw _ (List.mem_of_getElem? (i := 13) rfl)) (by decide) pd_1 rfl rfl rfl rfl rfl (by decide) (by decide) (by decide) (by decide) at_266 rfl (fun r191 T188 h190 hQ192 X189 => ?_)
          obtain ⟨rfl, hh⟩ := hQ192; rw [hh] at X189
          show Go p e below RS T188 (mkF m 269 #[.val (.long q1), .second, .val (.long q2), .second, .val (.int p3), .val (.int i10), .val (.int i11), .val (.int i12), .val (.int i13), .val (.int i14), .val (.int i15), .val (.ref b20), .val (.long j182), .second] [(.long (own_fmix j182)), (.long (own_fmix j182))])
          refine g_lcmp X189 C at_269 rfl ?_
          refine g_lif_ne (a := (own_fmix j182).toInt) (b := (own_fmix j182).toInt) X189 C at_270 rfl rfl (by decide) (pT := 277) (by decide) (pF := 273) rfl (fun hc270 => absurd hc270 (fun q => q rfl)) (fun hc270 => ?_)
          refine g_iconst (v := 1) X189 C at_273 (by decide) rfl ?_
          refine g_goto (pc' := 278) X189 C at_274 (by decide) (by decide) ?_
          rw [hRS]
          refine g_retZ X189 C at_278 ?_ (by decide) (by decide)
          exact rfl
set_option maxRecDepth 65536 in
set_option maxHeartbeats 40000000 in
theorem comes_1 {Post : Tables → Env → Array Value → State → Outcome → State → Prop} (hpost : ∀ tb e args s v u, (limb_1_1.after args s (.returned v) u = true ∧ limb_1_2.after args s (.returned v) u = true ∧ True) → FrameEnd s (.returned v) u (Jvm.fieldLocs frame_1_writes args s ++ Jvm.arrayLocs frame_1_arrays args s ++ Jvm.staticLocs frame_1_statics s) 16 128 → Post tb e args s (.returned v) u) :
    ArmFor flags0 classFile x code maxLocals ret World_1 tables_1 room_1 Calls_1 rest_1 Pre_1 Post := by
  intro l hfl _ _ p e ha hc hk s m args below hf hA hF happ hP
  obtain ⟨hcalls, hrest, hpre⟩ := hP
  obtain ⟨-, -, -, hnamed, -, -, -, hat⟩ := (Spec.applies_iff hf).mp happ
  obtain ⟨hg, hn⟩ := and_e (Cond.before_iff.mp (show (Jvm.Cond.and given_1 narrow_1).before args s = true from hpre))
  obtain ⟨h1, h2⟩ := and_e hg
  obtain ⟨w0, w1, w2, rfl⟩ : ∃ w0 w1 w2 : Value, args = #[w0, w1, w2] := by
    have hs : args.size = 3 := by simpa [Cond.value, given_1] using h1
    obtain ⟨L⟩ := args
    match L, hs with
    | [w0, w1, w2], _ => exact ⟨w0, w1, w2, rfl⟩
  have hw := fun d (hd : d ∈ tables_1) => atoms_spec (ws := Jvm.Cond.code x code maxLocals ret :: tables_1) hat d (List.mem_cons_of_mem _ hd)
  obtain ⟨g0, r0⟩ := and_e h2
  obtain ⟨k0, e0⟩ := isL_v g0
  obtain rfl : w0 = (.long k0) := Option.some.inj e0
  obtain ⟨g1, r1⟩ := and_e r0
  obtain ⟨k1, e1⟩ := isL_v g1
  obtain rfl : w1 = (.long k1) := Option.some.inj e1
  obtain ⟨k2, e2⟩ := is_v r1
  obtain rfl : w2 = (.int k2) := Option.some.inj e2
  obtain ⟨n, o, h1, h2, h3, _, L, rfl, ⟨rfl, N⟩, hq⟩ := rm0 l s _ hw k0 k1 k2 s.heap s.heap.size (Nat.le_refl _) tables_1 p e ha hc hk s m _ below hf ((Spec.applies_iff_loose hf).mp happ).1 ⟨rfl, State.Warmed39.refl s, rfl⟩ trivial
  refine ⟨n, _, h1, h2, h3, hpost _ _ _ _ _ _ ⟨Cond.after_iff.mpr rfl, Cond.after_iff.mpr (eq_i res_at (Term.int_eval (1)) rfl), trivial⟩ ⟨hq.1, hq.2.1, (hq.2.2.sift fun y hy => Or.inr (N y hy)).mono (by decide) (by decide)⟩⟩
theorem main_1_1 : Claimed_1_1 := comes_1 fun _ _ _ _ _ _ h hF => ⟨h.1, hF⟩
theorem main_1_2 : Claimed_1_2 := comes_1 fun _ _ _ _ _ _ h hF => ⟨h.2.1, hF⟩
end Jvm.Pilot.@@N@@
namespace Jvm.Pilot.@@N@@
open Jvm Jvm.ClassFile Sem Op Lib Jvm.Free Jvm.Stand Jvm.Pilot.@@N@@.Jvm.D
/-! MADE BY PROGRAM (witnessworld.py) out of the Statement's table words and the real class files: 9 classes; the members and pool entries that the words name. The judged class is class 1, her method 3. -/
namespace start1
open Jvm.ClassFile
def u (s : String) : CpInfo := .utf8 (stringToUtf16 s)
/-- a pool by its gaps: so many unusable entries, then the entry; so many at the end -/
def gap : Nat → List CpInfo → List CpInfo
  | 0, r => r
  | n + 1, r => .unusable :: gap n r
def poolList (es : List (Nat × CpInfo)) (last : Nat) : List CpInfo := es.foldr (fun e r => gap e.1 (e.2 :: r)) (gap last [])
def pool (es : List (Nat × CpInfo)) (last : Nat) : Array CpInfo := ⟨poolList es last⟩
def fileOf (pool : Array CpInfo) (this : Nat) (attrs : Array Attribute := #[]) (ms : Array MethodInfo := #[]) (fl : Nat := 33) (sup : Nat := 0) (ifs : Array Nat := #[]) (fds : Array FieldInfo := #[]) : ClassFile where
  minorVersion := 0
  majorVersion := 65
  constantPool := pool
  accessFlags := fl
  thisClass := this
  superClass := sup
  interfaces := ifs
  fields := fds
  methods := ms
  attributes := attrs
def plain (name : String) (sup : Option ClassId) : Class where
  name := name
  kind := .ordinary
  loader := none
  accessFlags := 33
  super := sup
  interfaces := #[]
  cf := none
  fields := #[]
  methods := #[]
  instanceTypes := #[]
  staticTypes := #[]
  resolved := #[]
  callSites := []
  init := .initialized
  statics := none
  mirror := none

def pool0 : Array CpInfo := pool [(5, u "<init>"), (0, u "()V"), (1, .class_ 10), (1, u "java/lang/Object")] 113

def k0m0 : Method := { name := "<init>", desc := "()V", sig := { parameters := [], returnType := none }, accessFlags := 1, code := none }
/-- java/lang/Object -/
def k0 : Class := { plain "java/lang/Object" none with
  accessFlags := 33
  interfaces := #[]
  cf := some (fileOf pool0 8 #[] #[{ accessFlags := 1, nameIndex := 5, descriptorIndex := 6, attributes := #[] }] 33 0 #[] #[])
  fields := #[]
  methods := #[k0m0]
  instanceTypes := #[]
  staticTypes := #[]
  resolved := Array.replicate 124 none
  statics := none }

def pool1 : Array CpInfo := pool [(2, .class_ 4), (1, u "java/lang/Object"), (0, u "<init>"), (0, u "()V"), (0, .class_ 8), (0, u "org/foreslot/service/HistoryHashPinLaw"), (0, .long 1099511628211), (1, .long 18397679294719823053), (1, .long 14181476777654086739), (1, .integer 2147483647), (0, .long 14695981039346656037), (1, .methodref 7 19), (0, .nameAndType 20 21), (0, u "step"), (0, u "(JB)J"), (0, .methodref 23 24), (0, .class_ 25), (0, .nameAndType 26 27), (0, u "org/foreslot/service/History"), (0, u "hash"), (0, u "([BII)J"), (0, .methodref 7 29), (0, .nameAndType 30 31), (0, u "fmix"), (0, u "(J)J"), (0, u "FNV_BASIS"), (0, u "J"), (1, u "FNV_PRIME"), (2, u "law"), (0, u "(JJI)Z")] 5

def k1m0 : Method := { name := "<init>", desc := "()V", sig := { parameters := [], returnType := none }, accessFlags := 1, code := none }
def k1c1 : Code := { maxStack := 4, maxLocals := 3, code := method_2_code, exceptionTable := #[], attributes := #[] }
def k1m1 : Method := { name := "step", desc := "(JB)J", sig := { parameters := [.long, .byte], returnType := some .long }, accessFlags := 10, code := some k1c1 }
def k1c2 : Code := { maxStack := 5, maxLocals := 4, code := method_3_code, exceptionTable := #[], attributes := #[] }
def k1m2 : Method := { name := "fmix", desc := "(J)J", sig := { parameters := [.long], returnType := some .long }, accessFlags := 10, code := some k1c2 }
def k1c3 : Code := { maxStack := 5, maxLocals := 14, code := code, exceptionTable := #[], attributes := #[] }
def k1m3 : Method := { name := "law", desc := "(JJI)Z", sig := { parameters := [.long, .long, .int], returnType := some .boolean }, accessFlags := 9, code := some k1c3 }
/-- org/foreslot/service/HistoryHashPinLaw -/
def k1 : Class := { plain "org/foreslot/service/HistoryHashPinLaw" (some 0) with
  accessFlags := 49
  interfaces := #[]
  cf := some (fileOf pool1 7 #[] #[{ accessFlags := 1, nameIndex := 5, descriptorIndex := 6, attributes := #[] }, { accessFlags := 10, nameIndex := 20, descriptorIndex := 21, attributes := #[] }, { accessFlags := 10, nameIndex := 30, descriptorIndex := 31, attributes := #[] }, { accessFlags := 9, nameIndex := 38, descriptorIndex := 39, attributes := #[] }] 49 2 #[] #[{ accessFlags := 26, nameIndex := 32, descriptorIndex := 33, attributes := #[] }, { accessFlags := 26, nameIndex := 35, descriptorIndex := 33, attributes := #[] }])
  fields := #[{ name := "FNV_BASIS", type := .long, accessFlags := 26, slot := 0, constantValue := 0 }, { name := "FNV_PRIME", type := .long, accessFlags := 26, slot := 1, constantValue := 0 }]
  methods := #[k1m0, k1m1, k1m2, k1m3]
  instanceTypes := #[]
  staticTypes := #[.long, .long]
  resolved := Array.replicate 45 none
  statics := none }

def pool2 : Array CpInfo := pool [(2, .class_ 4), (1, u "java/lang/Object"), (0, u "<init>"), (0, u "()V"), (3, .class_ 12), (1, u "org/foreslot/service/History"), (0, u "slots"), (0, u "[[B"), (5, u "crowded"), (0, u "Ljava/util/Map;"), (0, .class_ 23), (0, u "org/foreslot/service/History$Record"), (78, .class_ 103), (0, u "org/foreslot/service/History$Reading"), (19, u "taken"), (0, u "I"), (23, u "hash"), (0, u "([BII)J"), (40, .long 14695981039346656037), (1, .long 1099511628211), (1, .long 18397679294719823053), (1, .long 14181476777654086739), (1, u "PROBES"), (2, u "MAX_SLOTS"), (15, .class_ 218), (0, u "org/foreslot/service/History$Finished")] 18

def k2m0 : Method := { name := "<init>", desc := "()V", sig := { parameters := [], returnType := none }, accessFlags := 0, code := none }
def k2c1 : Code := { maxStack := 5, maxLocals := 6, code := prog_113_method_14_code, exceptionTable := #[], attributes := #[] }
def k2m1 : Method := { name := "hash", desc := "([BII)J", sig := { parameters := [(.array .byte), .int, .int], returnType := some .long }, accessFlags := 8, code := some k2c1 }
/-- org/foreslot/service/History -/
def k2 : Class := { plain "org/foreslot/service/History" (some 0) with
  accessFlags := 48
  interfaces := #[]
  cf := some (fileOf pool2 10 #[.nestMembers #[102, 22, 217]] #[{ accessFlags := 0, nameIndex := 5, descriptorIndex := 6, attributes := #[] }, { accessFlags := 8, nameIndex := 148, descriptorIndex := 149, attributes := #[] }] 48 2 #[] #[{ accessFlags := 26, nameIndex := 198, descriptorIndex := 124, attributes := #[] }, { accessFlags := 26, nameIndex := 201, descriptorIndex := 124, attributes := #[] }, { accessFlags := 2, nameIndex := 13, descriptorIndex := 14, attributes := #[] }, { accessFlags := 2, nameIndex := 123, descriptorIndex := 124, attributes := #[] }, { accessFlags := 18, nameIndex := 20, descriptorIndex := 21, attributes := #[] }])
  fields := #[{ name := "PROBES", type := .int, accessFlags := 26, slot := 0, constantValue := 0 }, { name := "MAX_SLOTS", type := .int, accessFlags := 26, slot := 1, constantValue := 0 }, { name := "slots", type := (.array (.array .byte)), accessFlags := 2, slot := 0, constantValue := 0 }, { name := "taken", type := .int, accessFlags := 2, slot := 1, constantValue := 0 }, { name := "crowded", type := (.object "java/util/Map"), accessFlags := 18, slot := 2, constantValue := 0 }]
  methods := #[k2m0, k2m1]
  instanceTypes := #[(.array (.array .byte)), .int, (.object "java/util/Map")]
  staticTypes := #[.int, .int]
  resolved := Array.replicate 237 none
  statics := none }

def pool3 : Array CpInfo := pool [(1, u "java/lang/Cloneable"), (0, .class_ 1), (0, u "java/lang/Object"), (0, .class_ 3)] 3

/-- java/lang/Cloneable -/
def k3 : Class := { plain "java/lang/Cloneable" (some 0) with
  accessFlags := 1537
  interfaces := #[]
  cf := some (fileOf pool3 2 #[] #[] 1537 4 #[] #[])
  fields := #[]
  methods := #[]
  instanceTypes := #[]
  staticTypes := #[]
  resolved := Array.replicate 8 none
  statics := none }

def pool4 : Array CpInfo := pool [(1, u "java/io/Serializable"), (0, .class_ 1), (0, u "java/lang/Object"), (0, .class_ 3)] 3

/-- java/io/Serializable -/
def k4 : Class := { plain "java/io/Serializable" (some 0) with
  accessFlags := 1537
  interfaces := #[]
  cf := some (fileOf pool4 2 #[] #[] 1537 4 #[] #[])
  fields := #[]
  methods := #[]
  instanceTypes := #[]
  staticTypes := #[]
  resolved := Array.replicate 8 none
  statics := none }

/-- the primitive byte -/
def k5 : Class := { plain "byte" none with kind := .primitive 'B', accessFlags := 0x411 }
/-- [B -/
def k6 : Class := { plain "[B" (some 0) with kind := .array 5 .byte, interfaces := #[3, 4], accessFlags := 1041 }

/-- the primitive int -/
def k7 : Class := { plain "int" none with kind := .primitive 'I', accessFlags := 0x411 }
/-- [I -/
def k8 : Class := { plain "[I" (some 0) with kind := .array 7 .int, interfaces := #[3, 4], accessFlags := 1041 }

def heap : Heap := #[]
def classes : Array Class := #[k0, k1, k2, k3, k4, k5, k6, k7, k8]
def interned : List (Array UInt16 × Addr) := []
def slotsUsed : Nat := 0
def theMethod : MethodId := ⟨1, 3⟩
def args0 : Array Value := #[.long 5, .long 7, .int 9]
def aboutOver (below : List Frame) : State where
  vm := { classes := classes, interned := interned.toArray }
  heap := heap
  slotsUsed := slotsUsed
  threads := #[{ frames := .invoking theMethod args0 :: below }]
def below0 : List Frame := [.native { method := ⟨0, 0⟩, args := #[] }]
def about1 : State := aboutOver below0
def p0 : Program := .bare "" "" ""
def e0 : Env := launch0.env 0 0 0
theorem w_frames : about1.frames = Frame.invoking theMethod args0 :: below0 := rfl
set_option maxRecDepth 65536 in
theorem w_args : argsFit about1.vm theMethod args0 = true := by decide +kernel
set_option maxRecDepth 65536 in
theorem w_heap : heapFits about1 = true := by decide +kernel
set_option maxRecDepth 65536 in
theorem w_runnable : about1.curStatus? = some .runnable := by decide +kernel
set_option maxRecDepth 65536 in
theorem w_alone : about1.alone = true := by decide +kernel
set_option maxRecDepth 65536 in
theorem w_named : about1.methodNamed? x = some theMethod := by decide +kernel
set_option maxRecDepth 65536 in
theorem w_hears : about1.hears theMethod below0 = true := by decide +kernel
set_option maxRecDepth 65536 in
theorem w_ripe : about1.ripe theMethod args0 below0 = true := by decide +kernel
theorem w_running : about1.status = .running := rfl
set_option maxRecDepth 65536 in
theorem w_room : about1.hasRoom e0.platform room_1 = true :=
  launch0.hasRoom_least _ room_1 (by decide +kernel) (by decide +kernel) (by decide +kernel) (by decide +kernel) (by decide +kernel) (by decide +kernel)
theorem allAtoms_all (ts : List Jvm.Cond) (a : Array Jvm.Value) (st : Jvm.State) : (allAtoms ts).before a st = ts.all (fun c => c.before a st) := by
  induction ts with
  | nil => rfl
  | cons c t ih =>
    show (Jvm.Cond.and c (allAtoms t)).before a st = _
    rw [Jvm.Cond.before_and, ih, List.all_cons]
def words1 : List Jvm.Cond := Jvm.Cond.code x code maxLocals ret :: tables_1
/-- a 'code' word, met by the world's own term for the bytes: nothing is compared byte by byte -/
theorem code_word {y : MethodName} {bytes : ByteArray} {mx : Nat} {rt : Option FieldType} {a : Array Value} {s : State} {m : MethodId} {meth : Method} {c : Code} (h1 : s.methodNamed? y = some m) (h2 : s.vm.method? m = some meth) (h3 : meth.code = some c) (h4 : c.code = bytes)
    (h5 : (c.maxLocals == mx && c.exceptionTable.isEmpty && decide (c.maxStack ≤ mostOperands) && decide (meth.sig.returnType = rt) && !meth.locks && decide (parseMethodDescriptor y.desc = some meth.sig)) = true) : (Jvm.Cond.code y bytes mx rt).before a s = true := by
  simp only [Bool.and_eq_true, beq_iff_eq, Bool.not_eq_true', decide_eq_true_eq] at h5
  obtain ⟨⟨⟨⟨⟨g1, g2⟩, g3⟩, g4⟩, g5⟩, g6⟩ := h5
  simp [Cond.before, Cond.holds, Cond.value, h1, h2, h3, h4, g1, g2, g3, g4, g5, g6]
def isCode : Jvm.Cond → Bool
  | .code _ _ _ _ => true
  | _ => false
theorem all_split {L : List Jvm.Cond} {P : Jvm.Cond → Bool} (h1 : L.all (fun c => isCode c || P c) = true) (h2 : ∀ c ∈ L.filter isCode, P c = true) : L.all P = true := by
  refine List.all_eq_true.mpr fun c hc => ?_
  have h := List.all_eq_true.mp h1 c hc
  rcases Bool.eq_false_or_eq_true (isCode c) with hi | hi
  · exact h2 c (List.mem_filter.mpr ⟨hc, hi⟩)
  · simpa [hi] using h
set_option maxRecDepth 65536 in
theorem w_c0 : (Jvm.Cond.code x code maxLocals ret).before args0 about1 = true := code_word (m := ⟨1, 3⟩) (meth := k1m3) (c := k1c3) (by decide +kernel) rfl rfl rfl (by decide +kernel)
set_option maxRecDepth 65536 in
theorem w_c1 : (Jvm.Cond.code ({ cls := "org/foreslot/service/History", name := "hash", desc := "([BII)J" } : Jvm.MethodName) prog_113_method_14_code (6 : Nat) (Option.some Jvm.ClassFile.FieldType.long)).before args0 about1 = true := code_word (m := ⟨2, 1⟩) (meth := k2m1) (c := k2c1) (by decide +kernel) rfl rfl rfl (by decide +kernel)
set_option maxRecDepth 65536 in
theorem w_c2 : (Jvm.Cond.code ({ cls := "org/foreslot/service/HistoryHashPinLaw", name := "fmix", desc := "(J)J" } : Jvm.MethodName) method_3_code (4 : Nat) (Option.some Jvm.ClassFile.FieldType.long)).before args0 about1 = true := code_word (m := ⟨1, 2⟩) (meth := k1m2) (c := k1c2) (by decide +kernel) rfl rfl rfl (by decide +kernel)
set_option maxRecDepth 65536 in
theorem w_c3 : (Jvm.Cond.code ({ cls := "org/foreslot/service/HistoryHashPinLaw", name := "step", desc := "(JB)J" } : Jvm.MethodName) method_2_code (3 : Nat) (Option.some Jvm.ClassFile.FieldType.long)).before args0 about1 = true := code_word (m := ⟨1, 1⟩) (meth := k1m1) (c := k1c1) (by decide +kernel) rfl rfl rfl (by decide +kernel)
def codes1 : List Jvm.Cond := [Jvm.Cond.code x code maxLocals ret, Jvm.Cond.code ({ cls := "org/foreslot/service/History", name := "hash", desc := "([BII)J" } : Jvm.MethodName) prog_113_method_14_code (6 : Nat) (Option.some Jvm.ClassFile.FieldType.long), Jvm.Cond.code ({ cls := "org/foreslot/service/HistoryHashPinLaw", name := "fmix", desc := "(J)J" } : Jvm.MethodName) method_3_code (4 : Nat) (Option.some Jvm.ClassFile.FieldType.long), Jvm.Cond.code ({ cls := "org/foreslot/service/HistoryHashPinLaw", name := "step", desc := "(JB)J" } : Jvm.MethodName) method_2_code (3 : Nat) (Option.some Jvm.ClassFile.FieldType.long)]
set_option maxRecDepth 65536 in
theorem codes_eq : words1.filter isCode = codes1 := rfl
theorem w_codes : ∀ c ∈ words1.filter isCode, c.before args0 about1 = true := by
  rw [codes_eq]
  intro c hc
  simp only [codes1, List.mem_cons, List.not_mem_nil, or_false] at hc
  rcases hc with rfl | rfl | rfl | rfl
  · exact w_c0
  · exact w_c1
  · exact w_c2
  · exact w_c3
set_option maxRecDepth 65536 in
theorem w_t1 : words1.all (fun c => isCode c || c.before args0 about1) = true := by decide +kernel
theorem w_tables : (allAtoms (Jvm.Cond.code x code maxLocals ret :: tables_1)).before args0 about1 = true := by
  rw [allAtoms_all]
  show words1.all (fun c => c.before args0 about1) = true
  refine all_split ?_ w_codes
  rw [w_t1]
set_option maxRecDepth 65536 in
theorem w_case : (Jvm.Cond.and given_1 narrow_1).before args0 about1 = true := by decide +kernel
theorem w_applies : (headSpec (Jvm.Cond.code x code maxLocals ret :: tables_1) room_1).applies x e0.platform about1 = true :=
  (Spec.applies_iff w_frames).mpr ⟨w_running, w_runnable, w_alone, w_named, w_hears, w_ripe, w_room, w_tables⟩
theorem atStart : AtStart classFile x code maxLocals ret World_1 tables_1 room_1 Calls_1 rest_1 Pre_1 launch0 p0 e0 about1 theMethod args0 below0 :=
  ⟨lists_1, trivial, launch0.admits_env _ _ _, launch0.least_env, fairChoices_fair.cas, fairChoices_fair.clock, w_frames, w_args, w_heap, w_applies, trivial, trivial, w_case⟩
end start1
theorem witness_1 : WitnessClaimed_1 := ⟨start1.p0, start1.e0, start1.about1, start1.theMethod, start1.args0, start1.below0, start1.atStart⟩
end Jvm.Pilot.@@N@@
