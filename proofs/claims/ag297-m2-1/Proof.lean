import JvmDerived
import JvmDerived.Pilot.@@N@@Statement
import JvmDerived.Pilot.@@N@@Code
set_option linter.unusedVariables false
set_option linter.unusedSimpArgs false
namespace Jvm.Own
open Sem ClassFile Op Lib Jvm.Stand Jvm.Free Jvm.LawKit Jvm.RoadKit
section Lay
variable {p : Program} {l : Launch} {e : Env} {R : Room} {s : State} {m : MethodId} {args : Array Value} {below : List Frame} {meth : Method} {c : Code} {T T' : State} {cells slots n0 : Nat} {Z : State} {a0 : Array Value} {h h' : Heap} {Rest : State → Outcome → Prop} {pc pc' : Nat} {L L' : Array Slot} {S : List Value} {f f' : JFrame} {bytes : ByteArray} {maxL : Nat} {ret : Option FieldType} {own nme : String}
/-- the run stands here: a Stand whose written places are all new -/
def St (p : Program) (l : Launch) (e : Env) (R : Room) (s : State) (m : MethodId) (args : Array Value) (below : List Frame) (meth : Method) (c : Code) (n0 : Nat) (T : State) (h : Heap) (cells slots : Nat) : Prop := ∃ locs, Stand p l e R s m args below meth c T locs cells slots ∧ Fr n0 locs ∧ T.heap = h
def Cx (p : Program) (s : State) (m : MethodId) (meth : Method) (c : Code) (Z : State) (bytes : ByteArray) (maxL : Nat) (ret : Option FieldType) (own nme : String) : Prop := p.tables.exec = Jvm.exec ∧ c.code = bytes ∧ c.maxLocals = maxL ∧ meth.sig.returnType = ret ∧ meth.locks = false ∧ s.vm.findClass own = some m.cls ∧ meth.name = nme ∧ Z.Warmed39 s.vm
def Go (p : Program) (e : Env) (below : List Frame) (Rest : State → Outcome → Prop) (T : State) (f : JFrame) : Prop := ∃ t o, Steps p.tables e below (T.setTop f) t ∧ Rest t o
theorem go_by (st : ∀ t, Steps p.tables e below (T'.setTop f') t → Steps p.tables e below (T.setTop f) t) (k : Go p e below Rest T' f') : Go p e below Rest T f := by
  obtain ⟨t, o, h1, h2⟩ := k; exact ⟨t, o, st t h1, h2⟩
theorem go_tr (st : Steps p.tables e below (T.setTop f) (T'.setTop f')) (k : Go p e below Rest T' f') : Go p e below Rest T f := by
  obtain ⟨t, o, h1, h2⟩ := k; exact ⟨t, o, st.trans h1, h2⟩
theorem go_cast (q : f = f') (k : Go p e below Rest T f') : Go p e below Rest T f := q ▸ k
abbrev Rs (s : State) (below : List Frame) (n0 : Nat) (Q : Option Value → Heap → Prop) (k n : Nat) : State → Outcome → Prop := fun t o => t.status = .running ∧ Ended t below o ∧ ∃ v L, o = .returned v ∧ (Q v t.heap ∧ Fr n0 L) ∧ FrameEnd s o t L k n
abbrev Ctr (l : Launch) (y : MethodName) (bytes : ByteArray) (maxL : Nat) (ret : Option FieldType) (rm : Room) (Z : State) (n0 : Nat) (as : Array Value) (h : Heap) (Q : Option Value → Heap → Prop) (ws : List Jvm.Cond) : Prop :=
  MetFree l y (head1 (Jvm.Cond.code y bytes maxL ret :: ws) rm) (fun a U => a = as ∧ Z.Warmed39 U.vm ∧ U.heap = h) (fun _ _ _ _ _ => True) (fun _ U o U' => ∃ v L, o = .returned v ∧ (Q v U'.heap ∧ Fr n0 L) ∧ FrameEnd U o U' L rm.cells rm.slots)
theorem ctr_of {y : MethodName} {rm : Room} {as : Array Value} {Q : Option Value → Heap → Prop} {ws : List Jvm.Cond} (hpn : plainFor y = true)
    (body : ∀ p e s m below meth c s₁, St p l e rm s m as below meth c n0 s₁ h 0 0 → Cx p s m meth c Z bytes maxL ret y.cls y.name → Go p e below (Rs s below n0 Q rm.cells rm.slots) s₁ (entryFrame m as maxL)) :
    Ctr l y bytes maxL ret rm Z n0 as h Q ws := by
  refine MetFree.of_bodySF hpn hisR ?_
  intro p e s m args below meth c s₁ Bd hml0 hP hK
  obtain ⟨rfl, hZ, hh⟩ := hP
  have hown := findClass_of_methodNamed Bd.named
  have hnm := (name_of_methodNamed Bd.named Bd.method).1
  have X0 : Stand p l e rm s m args below meth c s₁ [] 0 0 := Stand.of_body Bd
  have e0 : s₁.heap = h := by rw [← hh, Bd.state]; rfl
  obtain ⟨t, o, h1, h2, h3, h4⟩ := body p e s m below meth c s₁ ⟨[], X0, Fr.nil n0, e0⟩ ⟨Bd.exec, Bd.bytes, hml0, Bd.returns, Bd.notSynchronized, hown, hnm, hZ⟩
  exact ⟨t, o, h1, h2, h3, h4⟩
theorem g_iload (X : St p l e R s m args below meth c n0 T h cells slots) (C : Cx p s m meth c Z bytes maxL ret own nme) {k : Nat} {v : Int32} (hd : decode bytes pc = .ok (.iload k, 2)) (hl : L[k]? = some (.val (.int v))) (hp : pc + 2 = pc') (r : Go p e below Rest T (mkF m pc' L (.int v :: S))) : Go p e below Rest T (mkF m pc L S) := by
  obtain ⟨_, X, -, -⟩ := X; obtain ⟨hx, hby, -⟩ := C; subst hp
  exact go_by (fun t k => XS.iload X.here hx rfl (hb hby hd) hl k) r
theorem g_iloadN (X : St p l e R s m args below meth c n0 T h cells slots) (C : Cx p s m meth c Z bytes maxL ret own nme) {k : Fin 4} {v : Int32} (hd : decode bytes pc = .ok (.iload_n k, 1)) (hl : L[k.val]? = some (.val (.int v))) (hp : pc + 1 = pc') (r : Go p e below Rest T (mkF m pc' L (.int v :: S))) : Go p e below Rest T (mkF m pc L S) := by
  obtain ⟨_, X, -, -⟩ := X; obtain ⟨hx, hby, -⟩ := C; subst hp
  exact go_by (fun t k => XS.iloadN X.here hx rfl (hb hby hd) hl k) r
theorem g_istore (X : St p l e R s m args below meth c n0 T h cells slots) (C : Cx p s m meth c Z bytes maxL ret own nme) {k : Nat} {v v' : Int32} (hd : decode bytes pc = .ok (.istore k, 2)) (hv : v' = v) (hl : storeLocals L k (.int v') = some L') (hp : pc + 2 = pc') (r : Go p e below Rest T (mkF m pc' L' S)) : Go p e below Rest T (mkF m pc L (.int v :: S)) := by
  obtain ⟨_, X, -, -⟩ := X; obtain ⟨hx, hby, -⟩ := C; subst hp
  exact go_by (fun t k => XS.istore X.here hx rfl (hb hby hd) rfl (hv ▸ hl) k) r
theorem g_istoreN (X : St p l e R s m args below meth c n0 T h cells slots) (C : Cx p s m meth c Z bytes maxL ret own nme) {k : Fin 4} {v v' : Int32} (hd : decode bytes pc = .ok (.istore_n k, 1)) (hv : v' = v) (hl : storeLocals L k.val (.int v') = some L') (hp : pc + 1 = pc') (r : Go p e below Rest T (mkF m pc' L' S)) : Go p e below Rest T (mkF m pc L (.int v :: S)) := by
  obtain ⟨_, X, -, -⟩ := X; obtain ⟨hx, hby, -⟩ := C; subst hp
  exact go_by (fun t k => XS.istoreN X.here hx rfl (hb hby hd) rfl (hv ▸ hl) k) r
theorem g_lload (X : St p l e R s m args below meth c n0 T h cells slots) (C : Cx p s m meth c Z bytes maxL ret own nme) {k : Nat} {v : Int64} (hd : decode bytes pc = .ok (.lload k, 2)) (hl : L[k]? = some (.val (.long v))) (hp : pc + 2 = pc') (r : Go p e below Rest T (mkF m pc' L (.long v :: S))) : Go p e below Rest T (mkF m pc L S) := by
  obtain ⟨_, X, -, -⟩ := X; obtain ⟨hx, hby, -⟩ := C; subst hp
  exact go_by (fun t k => XS.lload X.here hx rfl (hb hby hd) hl k) r
theorem g_lloadN (X : St p l e R s m args below meth c n0 T h cells slots) (C : Cx p s m meth c Z bytes maxL ret own nme) {k : Fin 4} {v : Int64} (hd : decode bytes pc = .ok (.lload_n k, 1)) (hl : L[k.val]? = some (.val (.long v))) (hp : pc + 1 = pc') (r : Go p e below Rest T (mkF m pc' L (.long v :: S))) : Go p e below Rest T (mkF m pc L S) := by
  obtain ⟨_, X, -, -⟩ := X; obtain ⟨hx, hby, -⟩ := C; subst hp
  exact go_by (fun t k => XS.lloadN X.here hx rfl (hb hby hd) hl k) r
theorem g_lstore (X : St p l e R s m args below meth c n0 T h cells slots) (C : Cx p s m meth c Z bytes maxL ret own nme) {k : Nat} {v v' : Int64} (hd : decode bytes pc = .ok (.lstore k, 2)) (hv : v' = v) (hl : storeLocals L k (.long v') = some L') (hp : pc + 2 = pc') (r : Go p e below Rest T (mkF m pc' L' S)) : Go p e below Rest T (mkF m pc L (.long v :: S)) := by
  obtain ⟨_, X, -, -⟩ := X; obtain ⟨hx, hby, -⟩ := C; subst hp
  exact go_by (fun t k => XS.lstore X.here hx rfl (hb hby hd) rfl (hv ▸ hl) k) r
theorem g_lstoreN (X : St p l e R s m args below meth c n0 T h cells slots) (C : Cx p s m meth c Z bytes maxL ret own nme) {k : Fin 4} {v v' : Int64} (hd : decode bytes pc = .ok (.lstore_n k, 1)) (hv : v' = v) (hl : storeLocals L k.val (.long v') = some L') (hp : pc + 1 = pc') (r : Go p e below Rest T (mkF m pc' L' S)) : Go p e below Rest T (mkF m pc L (.long v :: S)) := by
  obtain ⟨_, X, -, -⟩ := X; obtain ⟨hx, hby, -⟩ := C; subst hp
  exact go_by (fun t k => XS.lstoreN X.here hx rfl (hb hby hd) rfl (hv ▸ hl) k) r
theorem g_aload (X : St p l e R s m args below meth c n0 T h cells slots) (C : Cx p s m meth c Z bytes maxL ret own nme) {k : Nat} {v : Value} (hd : decode bytes pc = .ok (.aload k, 2)) (hl : L[k]? = some (.val v)) (hv : v.isRef = true) (hp : pc + 2 = pc') (r : Go p e below Rest T (mkF m pc' L (v :: S))) : Go p e below Rest T (mkF m pc L S) := by
  obtain ⟨_, X, -, -⟩ := X; obtain ⟨hx, hby, -⟩ := C; subst hp
  exact go_by (fun t k => XS.aload X.here hx rfl (hb hby hd) hl hv k) r
theorem g_aloadN (X : St p l e R s m args below meth c n0 T h cells slots) (C : Cx p s m meth c Z bytes maxL ret own nme) {k : Fin 4} {v : Value} (hd : decode bytes pc = .ok (.aload_n k, 1)) (hl : L[k.val]? = some (.val v)) (hv : v.isRef = true) (hp : pc + 1 = pc') (r : Go p e below Rest T (mkF m pc' L (v :: S))) : Go p e below Rest T (mkF m pc L S) := by
  obtain ⟨_, X, -, -⟩ := X; obtain ⟨hx, hby, -⟩ := C; subst hp
  exact go_by (fun t k => XS.aloadN X.here hx rfl (hb hby hd) hl hv k) r
theorem g_astore (X : St p l e R s m args below meth c n0 T h cells slots) (C : Cx p s m meth c Z bytes maxL ret own nme) {k : Nat} {v : Value} (hd : decode bytes pc = .ok (.astore k, 2)) (hv : v.isRef = true) (hl : storeLocals L k v = some L') (hp : pc + 2 = pc') (r : Go p e below Rest T (mkF m pc' L' S)) : Go p e below Rest T (mkF m pc L (v :: S)) := by
  obtain ⟨_, X, -, -⟩ := X; obtain ⟨hx, hby, -⟩ := C; subst hp
  exact go_by (fun t k => XS.astore X.here hx rfl (hb hby hd) rfl hv hl k) r
theorem g_astoreN (X : St p l e R s m args below meth c n0 T h cells slots) (C : Cx p s m meth c Z bytes maxL ret own nme) {k : Fin 4} {v : Value} (hd : decode bytes pc = .ok (.astore_n k, 1)) (hv : v.isRef = true) (hl : storeLocals L k.val v = some L') (hp : pc + 1 = pc') (r : Go p e below Rest T (mkF m pc' L' S)) : Go p e below Rest T (mkF m pc L (v :: S)) := by
  obtain ⟨_, X, -, -⟩ := X; obtain ⟨hx, hby, -⟩ := C; subst hp
  exact go_by (fun t k => XS.astoreN X.here hx rfl (hb hby hd) rfl hv hl k) r
theorem g_iconst (X : St p l e R s m args below meth c n0 T h cells slots) (C : Cx p s m meth c Z bytes maxL ret own nme) {i : Int} {v : Int32} (hd : decode bytes pc = .ok (.iconst i, 1)) (hv : Int32.ofInt i = v) (hp : pc + 1 = pc') (r : Go p e below Rest T (mkF m pc' L (.int v :: S))) : Go p e below Rest T (mkF m pc L S) := by
  obtain ⟨_, X, -, -⟩ := X; obtain ⟨hx, hby, -⟩ := C; subst hp hv
  exact go_by (fun t k => XS.iconst X.here hx rfl (hb hby hd) k) r
theorem g_bipush (X : St p l e R s m args below meth c n0 T h cells slots) (C : Cx p s m meth c Z bytes maxL ret own nme) {i : Int} {v : Int32} (hd : decode bytes pc = .ok (.bipush i, 2)) (hv : (Int8.ofInt i).toInt32 = v) (hp : pc + 2 = pc') (r : Go p e below Rest T (mkF m pc' L (.int v :: S))) : Go p e below Rest T (mkF m pc L S) := by
  obtain ⟨_, X, -, -⟩ := X; obtain ⟨hx, hby, -⟩ := C; subst hp hv
  exact go_by (fun t k => XS.bipush X.here hx rfl (hb hby hd) k) r
theorem g_sipush (X : St p l e R s m args below meth c n0 T h cells slots) (C : Cx p s m meth c Z bytes maxL ret own nme) {i : Int} {v : Int32} (hd : decode bytes pc = .ok (.sipush i, 3)) (hv : (Int16.ofInt i).toInt32 = v) (hp : pc + 3 = pc') (r : Go p e below Rest T (mkF m pc' L (.int v :: S))) : Go p e below Rest T (mkF m pc L S) := by
  obtain ⟨_, X, -, -⟩ := X; obtain ⟨hx, hby, -⟩ := C; subst hp hv
  exact go_by (fun t k => XS.sipush X.here hx rfl (hb hby hd) k) r
theorem g_lconst (X : St p l e R s m args below meth c n0 T h cells slots) (C : Cx p s m meth c Z bytes maxL ret own nme) {i : Fin 2} {v : Int64} (hd : decode bytes pc = .ok (.lconst i, 1)) (hv : Int64.ofNat i = v) (hp : pc + 1 = pc') (r : Go p e below Rest T (mkF m pc' L (.long v :: S))) : Go p e below Rest T (mkF m pc L S) := by
  obtain ⟨_, X, -, -⟩ := X; obtain ⟨hx, hby, -⟩ := C; subst hp hv
  exact go_by (fun t k => XS.lconst X.here hx rfl (hb hby hd) k) r
theorem g_aconst (X : St p l e R s m args below meth c n0 T h cells slots) (C : Cx p s m meth c Z bytes maxL ret own nme)  (hd : decode bytes pc = .ok (.aconst_null, 1))  (hp : pc + 1 = pc') (r : Go p e below Rest T (mkF m pc' L (.null :: S))) : Go p e below Rest T (mkF m pc L S) := by
  obtain ⟨_, X, -, -⟩ := X; obtain ⟨hx, hby, -⟩ := C; subst hp
  exact go_by (fun t k => XS.aconstNull X.here hx rfl (hb hby hd)  k) r
theorem g_iadd (X : St p l e R s m args below meth c n0 T h cells slots) (C : Cx p s m meth c Z bytes maxL ret own nme) {x y : Int32} (hd : decode bytes pc = .ok (.iadd, 1))  (hp : pc + 1 = pc') (r : Go p e below Rest T (mkF m pc' L (.int (x + y) :: S))) : Go p e below Rest T (mkF m pc L (.int y :: .int x :: S)) := by
  obtain ⟨_, X, -, -⟩ := X; obtain ⟨hx, hby, -⟩ := C; subst hp
  exact go_by (fun t k => XS.iadd X.here hx rfl (hb hby hd) rfl k) r
theorem g_ladd (X : St p l e R s m args below meth c n0 T h cells slots) (C : Cx p s m meth c Z bytes maxL ret own nme) {x y : Int64} (hd : decode bytes pc = .ok (.ladd, 1))  (hp : pc + 1 = pc') (r : Go p e below Rest T (mkF m pc' L (.long (x + y) :: S))) : Go p e below Rest T (mkF m pc L (.long y :: .long x :: S)) := by
  obtain ⟨_, X, -, -⟩ := X; obtain ⟨hx, hby, -⟩ := C; subst hp
  exact go_by (fun t k => XS.ladd X.here hx rfl (hb hby hd) rfl k) r
theorem g_isub (X : St p l e R s m args below meth c n0 T h cells slots) (C : Cx p s m meth c Z bytes maxL ret own nme) {x y : Int32} (hd : decode bytes pc = .ok (.isub, 1))  (hp : pc + 1 = pc') (r : Go p e below Rest T (mkF m pc' L (.int (x - y) :: S))) : Go p e below Rest T (mkF m pc L (.int y :: .int x :: S)) := by
  obtain ⟨_, X, -, -⟩ := X; obtain ⟨hx, hby, -⟩ := C; subst hp
  exact go_by (fun t k => XS.isub X.here hx rfl (hb hby hd) rfl k) r
theorem g_lsub (X : St p l e R s m args below meth c n0 T h cells slots) (C : Cx p s m meth c Z bytes maxL ret own nme) {x y : Int64} (hd : decode bytes pc = .ok (.lsub, 1))  (hp : pc + 1 = pc') (r : Go p e below Rest T (mkF m pc' L (.long (x - y) :: S))) : Go p e below Rest T (mkF m pc L (.long y :: .long x :: S)) := by
  obtain ⟨_, X, -, -⟩ := X; obtain ⟨hx, hby, -⟩ := C; subst hp
  exact go_by (fun t k => XS.lsub X.here hx rfl (hb hby hd) rfl k) r
theorem g_imul (X : St p l e R s m args below meth c n0 T h cells slots) (C : Cx p s m meth c Z bytes maxL ret own nme) {x y : Int32} (hd : decode bytes pc = .ok (.imul, 1))  (hp : pc + 1 = pc') (r : Go p e below Rest T (mkF m pc' L (.int (x * y) :: S))) : Go p e below Rest T (mkF m pc L (.int y :: .int x :: S)) := by
  obtain ⟨_, X, -, -⟩ := X; obtain ⟨hx, hby, -⟩ := C; subst hp
  exact go_by (fun t k => XS.imul X.here hx rfl (hb hby hd) rfl k) r
theorem g_lmul (X : St p l e R s m args below meth c n0 T h cells slots) (C : Cx p s m meth c Z bytes maxL ret own nme) {x y : Int64} (hd : decode bytes pc = .ok (.lmul, 1))  (hp : pc + 1 = pc') (r : Go p e below Rest T (mkF m pc' L (.long (x * y) :: S))) : Go p e below Rest T (mkF m pc L (.long y :: .long x :: S)) := by
  obtain ⟨_, X, -, -⟩ := X; obtain ⟨hx, hby, -⟩ := C; subst hp
  exact go_by (fun t k => XS.lmul X.here hx rfl (hb hby hd) rfl k) r
theorem g_iand (X : St p l e R s m args below meth c n0 T h cells slots) (C : Cx p s m meth c Z bytes maxL ret own nme) {x y : Int32} (hd : decode bytes pc = .ok (.iand, 1))  (hp : pc + 1 = pc') (r : Go p e below Rest T (mkF m pc' L (.int (x &&& y) :: S))) : Go p e below Rest T (mkF m pc L (.int y :: .int x :: S)) := by
  obtain ⟨_, X, -, -⟩ := X; obtain ⟨hx, hby, -⟩ := C; subst hp
  exact go_by (fun t k => XS.iand X.here hx rfl (hb hby hd) rfl k) r
theorem g_land (X : St p l e R s m args below meth c n0 T h cells slots) (C : Cx p s m meth c Z bytes maxL ret own nme) {x y : Int64} (hd : decode bytes pc = .ok (.land, 1))  (hp : pc + 1 = pc') (r : Go p e below Rest T (mkF m pc' L (.long (x &&& y) :: S))) : Go p e below Rest T (mkF m pc L (.long y :: .long x :: S)) := by
  obtain ⟨_, X, -, -⟩ := X; obtain ⟨hx, hby, -⟩ := C; subst hp
  exact go_by (fun t k => XS.land X.here hx rfl (hb hby hd) rfl k) r
theorem g_ior (X : St p l e R s m args below meth c n0 T h cells slots) (C : Cx p s m meth c Z bytes maxL ret own nme) {x y : Int32} (hd : decode bytes pc = .ok (.ior, 1))  (hp : pc + 1 = pc') (r : Go p e below Rest T (mkF m pc' L (.int (x ||| y) :: S))) : Go p e below Rest T (mkF m pc L (.int y :: .int x :: S)) := by
  obtain ⟨_, X, -, -⟩ := X; obtain ⟨hx, hby, -⟩ := C; subst hp
  exact go_by (fun t k => XS.ior X.here hx rfl (hb hby hd) rfl k) r
theorem g_lor (X : St p l e R s m args below meth c n0 T h cells slots) (C : Cx p s m meth c Z bytes maxL ret own nme) {x y : Int64} (hd : decode bytes pc = .ok (.lor, 1))  (hp : pc + 1 = pc') (r : Go p e below Rest T (mkF m pc' L (.long (x ||| y) :: S))) : Go p e below Rest T (mkF m pc L (.long y :: .long x :: S)) := by
  obtain ⟨_, X, -, -⟩ := X; obtain ⟨hx, hby, -⟩ := C; subst hp
  exact go_by (fun t k => XS.lor X.here hx rfl (hb hby hd) rfl k) r
theorem g_ixor (X : St p l e R s m args below meth c n0 T h cells slots) (C : Cx p s m meth c Z bytes maxL ret own nme) {x y : Int32} (hd : decode bytes pc = .ok (.ixor, 1))  (hp : pc + 1 = pc') (r : Go p e below Rest T (mkF m pc' L (.int (x ^^^ y) :: S))) : Go p e below Rest T (mkF m pc L (.int y :: .int x :: S)) := by
  obtain ⟨_, X, -, -⟩ := X; obtain ⟨hx, hby, -⟩ := C; subst hp
  exact go_by (fun t k => XS.ixor X.here hx rfl (hb hby hd) rfl k) r
theorem g_lxor (X : St p l e R s m args below meth c n0 T h cells slots) (C : Cx p s m meth c Z bytes maxL ret own nme) {x y : Int64} (hd : decode bytes pc = .ok (.lxor, 1))  (hp : pc + 1 = pc') (r : Go p e below Rest T (mkF m pc' L (.long (x ^^^ y) :: S))) : Go p e below Rest T (mkF m pc L (.long y :: .long x :: S)) := by
  obtain ⟨_, X, -, -⟩ := X; obtain ⟨hx, hby, -⟩ := C; subst hp
  exact go_by (fun t k => XS.lxor X.here hx rfl (hb hby hd) rfl k) r
theorem g_ishl (X : St p l e R s m args below meth c n0 T h cells slots) (C : Cx p s m meth c Z bytes maxL ret own nme) {x : Int32} {y : Int32} (hd : decode bytes pc = .ok (.ishl, 1))  (hp : pc + 1 = pc') (r : Go p e below Rest T (mkF m pc' L (.int (x <<< (y &&& 31)) :: S))) : Go p e below Rest T (mkF m pc L (.int y :: .int x :: S)) := by
  obtain ⟨_, X, -, -⟩ := X; obtain ⟨hx, hby, -⟩ := C; subst hp
  exact go_by (fun t k => XS.ishl X.here hx rfl (hb hby hd) rfl k) r
theorem g_ishr (X : St p l e R s m args below meth c n0 T h cells slots) (C : Cx p s m meth c Z bytes maxL ret own nme) {x : Int32} {y : Int32} (hd : decode bytes pc = .ok (.ishr, 1))  (hp : pc + 1 = pc') (r : Go p e below Rest T (mkF m pc' L (.int (x >>> (y &&& 31)) :: S))) : Go p e below Rest T (mkF m pc L (.int y :: .int x :: S)) := by
  obtain ⟨_, X, -, -⟩ := X; obtain ⟨hx, hby, -⟩ := C; subst hp
  exact go_by (fun t k => XS.ishr X.here hx rfl (hb hby hd) rfl k) r
theorem g_iushr (X : St p l e R s m args below meth c n0 T h cells slots) (C : Cx p s m meth c Z bytes maxL ret own nme) {x : Int32} {y : Int32} (hd : decode bytes pc = .ok (.iushr, 1))  (hp : pc + 1 = pc') (r : Go p e below Rest T (mkF m pc' L (.int ((x.toUInt32 >>> (y &&& 31).toUInt32).toInt32) :: S))) : Go p e below Rest T (mkF m pc L (.int y :: .int x :: S)) := by
  obtain ⟨_, X, -, -⟩ := X; obtain ⟨hx, hby, -⟩ := C; subst hp
  exact go_by (fun t k => XS.iushr X.here hx rfl (hb hby hd) rfl k) r
theorem g_lshl (X : St p l e R s m args below meth c n0 T h cells slots) (C : Cx p s m meth c Z bytes maxL ret own nme) {x : Int64} {y : Int32} (hd : decode bytes pc = .ok (.lshl, 1))  (hp : pc + 1 = pc') (r : Go p e below Rest T (mkF m pc' L (.long (x <<< (y &&& 0x3f).toInt64) :: S))) : Go p e below Rest T (mkF m pc L (.int y :: .long x :: S)) := by
  obtain ⟨_, X, -, -⟩ := X; obtain ⟨hx, hby, -⟩ := C; subst hp
  exact go_by (fun t k => XS.lshl X.here hx rfl (hb hby hd) rfl k) r
theorem g_lshr (X : St p l e R s m args below meth c n0 T h cells slots) (C : Cx p s m meth c Z bytes maxL ret own nme) {x : Int64} {y : Int32} (hd : decode bytes pc = .ok (.lshr, 1))  (hp : pc + 1 = pc') (r : Go p e below Rest T (mkF m pc' L (.long (x >>> (y &&& 0x3f).toInt64) :: S))) : Go p e below Rest T (mkF m pc L (.int y :: .long x :: S)) := by
  obtain ⟨_, X, -, -⟩ := X; obtain ⟨hx, hby, -⟩ := C; subst hp
  exact go_by (fun t k => XS.lshr X.here hx rfl (hb hby hd) rfl k) r
theorem g_lushr (X : St p l e R s m args below meth c n0 T h cells slots) (C : Cx p s m meth c Z bytes maxL ret own nme) {x : Int64} {y : Int32} (hd : decode bytes pc = .ok (.lushr, 1))  (hp : pc + 1 = pc') (r : Go p e below Rest T (mkF m pc' L (.long ((x.toUInt64 >>> (y &&& 0x3f).toInt64.toUInt64).toInt64) :: S))) : Go p e below Rest T (mkF m pc L (.int y :: .long x :: S)) := by
  obtain ⟨_, X, -, -⟩ := X; obtain ⟨hx, hby, -⟩ := C; subst hp
  exact go_by (fun t k => XS.lushr X.here hx rfl (hb hby hd) rfl k) r
theorem g_idiv (X : St p l e R s m args below meth c n0 T h cells slots) (C : Cx p s m meth c Z bytes maxL ret own nme) {x y : Int32} (hd : decode bytes pc = .ok (.idiv, 1)) (hy : y ≠ 0) (hp : pc + 1 = pc') (r : Go p e below Rest T (mkF m pc' L (.int (x / y) :: S))) : Go p e below Rest T (mkF m pc L (.int y :: .int x :: S)) := by
  obtain ⟨_, X, -, -⟩ := X; obtain ⟨hx, hby, -⟩ := C; subst hp
  exact go_by (fun t k => XS.idiv X.here hx rfl (hb hby hd) rfl hy k) r
theorem g_ldiv (X : St p l e R s m args below meth c n0 T h cells slots) (C : Cx p s m meth c Z bytes maxL ret own nme) {x y : Int64} (hd : decode bytes pc = .ok (.ldiv, 1)) (hy : y ≠ 0) (hp : pc + 1 = pc') (r : Go p e below Rest T (mkF m pc' L (.long (x / y) :: S))) : Go p e below Rest T (mkF m pc L (.long y :: .long x :: S)) := by
  obtain ⟨_, X, -, -⟩ := X; obtain ⟨hx, hby, -⟩ := C; subst hp
  exact go_by (fun t k => XS.ldiv X.here hx rfl (hb hby hd) rfl hy k) r
theorem g_ineg (X : St p l e R s m args below meth c n0 T h cells slots) (C : Cx p s m meth c Z bytes maxL ret own nme) {x : Int32} (hd : decode bytes pc = .ok (.ineg, 1))  (hp : pc + 1 = pc') (r : Go p e below Rest T (mkF m pc' L (.int ((-x)) :: S))) : Go p e below Rest T (mkF m pc L (.int x :: S)) := by
  obtain ⟨_, X, -, -⟩ := X; obtain ⟨hx, hby, -⟩ := C; subst hp
  exact go_by (fun t k => XS.ineg X.here hx rfl (hb hby hd) rfl k) r
theorem g_lneg (X : St p l e R s m args below meth c n0 T h cells slots) (C : Cx p s m meth c Z bytes maxL ret own nme) {x : Int64} (hd : decode bytes pc = .ok (.lneg, 1))  (hp : pc + 1 = pc') (r : Go p e below Rest T (mkF m pc' L (.long ((-x)) :: S))) : Go p e below Rest T (mkF m pc L (.long x :: S)) := by
  obtain ⟨_, X, -, -⟩ := X; obtain ⟨hx, hby, -⟩ := C; subst hp
  exact go_by (fun t k => XS.lneg X.here hx rfl (hb hby hd) rfl k) r
theorem g_i2l (X : St p l e R s m args below meth c n0 T h cells slots) (C : Cx p s m meth c Z bytes maxL ret own nme) {x : Int32} (hd : decode bytes pc = .ok (.i2l, 1))  (hp : pc + 1 = pc') (r : Go p e below Rest T (mkF m pc' L (.long (x.toInt64) :: S))) : Go p e below Rest T (mkF m pc L (.int x :: S)) := by
  obtain ⟨_, X, -, -⟩ := X; obtain ⟨hx, hby, -⟩ := C; subst hp
  exact go_by (fun t k => XS.i2l X.here hx rfl (hb hby hd) rfl k) r
theorem g_l2i (X : St p l e R s m args below meth c n0 T h cells slots) (C : Cx p s m meth c Z bytes maxL ret own nme) {x : Int64} (hd : decode bytes pc = .ok (.l2i, 1))  (hp : pc + 1 = pc') (r : Go p e below Rest T (mkF m pc' L (.int (x.toInt32) :: S))) : Go p e below Rest T (mkF m pc L (.long x :: S)) := by
  obtain ⟨_, X, -, -⟩ := X; obtain ⟨hx, hby, -⟩ := C; subst hp
  exact go_by (fun t k => XS.l2i X.here hx rfl (hb hby hd) rfl k) r
theorem g_i2b (X : St p l e R s m args below meth c n0 T h cells slots) (C : Cx p s m meth c Z bytes maxL ret own nme) {x : Int32} (hd : decode bytes pc = .ok (.i2b, 1))  (hp : pc + 1 = pc') (r : Go p e below Rest T (mkF m pc' L (.int (x.toInt8.toInt32) :: S))) : Go p e below Rest T (mkF m pc L (.int x :: S)) := by
  obtain ⟨_, X, -, -⟩ := X; obtain ⟨hx, hby, -⟩ := C; subst hp
  exact go_by (fun t k => XS.i2b X.here hx rfl (hb hby hd) rfl k) r
theorem g_i2s (X : St p l e R s m args below meth c n0 T h cells slots) (C : Cx p s m meth c Z bytes maxL ret own nme) {x : Int32} (hd : decode bytes pc = .ok (.i2s, 1))  (hp : pc + 1 = pc') (r : Go p e below Rest T (mkF m pc' L (.int (x.toInt16.toInt32) :: S))) : Go p e below Rest T (mkF m pc L (.int x :: S)) := by
  obtain ⟨_, X, -, -⟩ := X; obtain ⟨hx, hby, -⟩ := C; subst hp
  exact go_by (fun t k => XS.i2s X.here hx rfl (hb hby hd) rfl k) r
theorem g_i2c (X : St p l e R s m args below meth c n0 T h cells slots) (C : Cx p s m meth c Z bytes maxL ret own nme) {x : Int32} (hd : decode bytes pc = .ok (.i2c, 1))  (hp : pc + 1 = pc') (r : Go p e below Rest T (mkF m pc' L (.int (x.toUInt32.toUInt16.toUInt32.toInt32) :: S))) : Go p e below Rest T (mkF m pc L (.int x :: S)) := by
  obtain ⟨_, X, -, -⟩ := X; obtain ⟨hx, hby, -⟩ := C; subst hp
  exact go_by (fun t k => XS.i2c X.here hx rfl (hb hby hd) rfl k) r
theorem g_lcmp (X : St p l e R s m args below meth c n0 T h cells slots) (C : Cx p s m meth c Z bytes maxL ret own nme) {x y : Int64} (hd : decode bytes pc = .ok (.lcmp, 1))  (hp : pc + 1 = pc') (r : Go p e below Rest T (mkF m pc' L (.int (lcmpW x y) :: S))) : Go p e below Rest T (mkF m pc L (.long y :: .long x :: S)) := by
  obtain ⟨_, X, -, -⟩ := X; obtain ⟨hx, hby, -⟩ := C; subst hp
  exact go_by (fun t k => XS.lcmp X.here hx rfl (hb hby hd) rfl k) r
theorem g_dup (X : St p l e R s m args below meth c n0 T h cells slots) (C : Cx p s m meth c Z bytes maxL ret own nme) {x : Value} (hd : decode bytes pc = .ok (.dup, 1)) (hc : x.category = 1) (hp : pc + 1 = pc') (r : Go p e below Rest T (mkF m pc' L (x :: x :: S))) : Go p e below Rest T (mkF m pc L (x :: S)) := by
  obtain ⟨_, X, -, -⟩ := X; obtain ⟨hx, hby, -⟩ := C; subst hp
  exact go_by (fun t k => XS.dup X.here hx rfl (hb hby hd) rfl hc k) r
theorem g_pop (X : St p l e R s m args below meth c n0 T h cells slots) (C : Cx p s m meth c Z bytes maxL ret own nme) {x : Value} (hd : decode bytes pc = .ok (.pop, 1)) (hc : x.category = 1) (hp : pc + 1 = pc') (r : Go p e below Rest T (mkF m pc' L S)) : Go p e below Rest T (mkF m pc L (x :: S)) := by
  obtain ⟨_, X, -, -⟩ := X; obtain ⟨hx, hby, -⟩ := C; subst hp
  exact go_by (fun t k => XS.pop X.here hx rfl (hb hby hd) rfl hc k) r
theorem g_dupx1 (X : St p l e R s m args below meth c n0 T h cells slots) (C : Cx p s m meth c Z bytes maxL ret own nme) {x y : Value} (hd : decode bytes pc = .ok (.dup_x1, 1)) (hc : x.category = 1) (hc' : y.category = 1) (hp : pc + 1 = pc') (r : Go p e below Rest T (mkF m pc' L (x :: y :: x :: S))) : Go p e below Rest T (mkF m pc L (x :: y :: S)) := by
  obtain ⟨_, X, -, -⟩ := X; obtain ⟨hx, hby, -⟩ := C; subst hp
  exact go_by (fun t k => XS.dupX1 X.here hx rfl (hb hby hd) rfl hc hc' k) r
theorem g_dup2 (X : St p l e R s m args below meth c n0 T h cells slots) (C : Cx p s m meth c Z bytes maxL ret own nme) {x y : Value} (hd : decode bytes pc = .ok (.dup2, 1)) (hc : x.category = 1) (hc' : y.category = 1) (hp : pc + 1 = pc') (r : Go p e below Rest T (mkF m pc' L (x :: y :: x :: y :: S))) : Go p e below Rest T (mkF m pc L (x :: y :: S)) := by
  obtain ⟨_, X, -, -⟩ := X; obtain ⟨hx, hby, -⟩ := C; subst hp
  exact go_by (fun t k => XT.dup2 X.here hx rfl (hb hby hd) rfl hc hc' k) r
theorem g_dup2L (X : St p l e R s m args below meth c n0 T h cells slots) (C : Cx p s m meth c Z bytes maxL ret own nme) {x : Int64} (hd : decode bytes pc = .ok (.dup2, 1))  (hp : pc + 1 = pc') (r : Go p e below Rest T (mkF m pc' L (.long x :: .long x :: S))) : Go p e below Rest T (mkF m pc L (.long x :: S)) := by
  obtain ⟨_, X, -, -⟩ := X; obtain ⟨hx, hby, -⟩ := C; subst hp
  exact go_by (fun t k => XT.dup2L X.here hx rfl (hb hby hd) rfl k) r
theorem g_iinc (X : St p l e R s m args below meth c n0 T h cells slots) (C : Cx p s m meth c Z bytes maxL ret own nme) {k : Nat} {i : Int} {v v' : Int32} (hd : decode bytes pc = .ok (.iinc k i, 3)) (hl : L[k]? = some (.val (.int v))) (hv : v' = v + Int32.ofInt i) (hs : storeLocals L k (.int v') = some L') (hp : pc + 3 = pc') (r : Go p e below Rest T (mkF m pc' L' S)) : Go p e below Rest T (mkF m pc L S) := by
  obtain ⟨_, X, -, -⟩ := X; obtain ⟨hx, hby, -⟩ := C; subst hp
  exact go_by (fun t k => XS.iinc X.here hx rfl (hb hby hd) hl (hv ▸ hs) k) r
theorem g_goto (X : St p l e R s m args below meth c n0 T h cells slots) (C : Cx p s m meth c Z bytes maxL ret own nme) {o : Int} (hd : decode bytes pc = .ok (.goto o, 3)) (h0 : 0 ≤ (pc : Int) + o) (hp : ((pc : Int) + o).toNat = pc') (r : Go p e below Rest T (mkF m pc' L S)) : Go p e below Rest T (mkF m pc L S) := by
  obtain ⟨_, X, -, -⟩ := X; obtain ⟨hx, hby, -⟩ := C
  exact go_by (fun t k => XS.goto X.here hx rfl (pc0 := pc) rfl (hb hby hd) h0 hp k) r
theorem g_icmp (X : St p l e R s m args below meth c n0 T h cells slots) (C : Cx p s m meth c Z bytes maxL ret own nme) {cd : ClassFile.Cond} {o : Int} {x y : Int32} {pT pF : Nat} (hd : decode bytes pc = .ok (.if_icmp cd o, 3)) (h0 : 0 ≤ (pc : Int) + o) (hT : ((pc : Int) + o).toNat = pT) (hF : pc + 3 = pF) (r1 : if_icmp.holds cd x y = true → Go p e below Rest T (mkF m pT L S)) (r2 : if_icmp.holds cd x y = false → Go p e below Rest T (mkF m pF L S)) : Go p e below Rest T (mkF m pc L (.int y :: .int x :: S)) := by
  obtain ⟨_, X, -, -⟩ := X; obtain ⟨hx, hby, -⟩ := C
  rcases Bool.eq_false_or_eq_true (if_icmp.holds cd x y) with q | q
  · exact go_by (fun t k => XS.icmpYes X.here hx rfl (pc0 := pc) rfl (hb hby hd) rfl q h0 hT k) (r1 q)
  · subst hF; exact go_by (fun t k => XS.icmpNo X.here hx rfl (hb hby hd) rfl q k) (r2 q)
theorem g_if (X : St p l e R s m args below meth c n0 T h cells slots) (C : Cx p s m meth c Z bytes maxL ret own nme) {cd : ClassFile.Cond} {o : Int} {x : Int32} {pT pF : Nat} (hd : decode bytes pc = .ok (.ifCond cd o, 3)) (h0 : 0 ≤ (pc : Int) + o) (hT : ((pc : Int) + o).toNat = pT) (hF : pc + 3 = pF) (r1 : if_icmp.holds cd x 0 = true → Go p e below Rest T (mkF m pT L S)) (r2 : if_icmp.holds cd x 0 = false → Go p e below Rest T (mkF m pF L S)) : Go p e below Rest T (mkF m pc L (.int x :: S)) := by
  obtain ⟨_, X, -, -⟩ := X; obtain ⟨hx, hby, -⟩ := C
  rcases Bool.eq_false_or_eq_true (if_icmp.holds cd x 0) with q | q
  · exact go_by (fun t k => XS.ifYes X.here hx rfl (pc0 := pc) rfl (hb hby hd) rfl ((if0 _ _).trans q) h0 hT k) (r1 q)
  · subst hF; exact go_by (fun t k => XS.ifNo X.here hx rfl (hb hby hd) rfl ((if0 _ _).trans q) k) (r2 q)
theorem hold_lt {x y : Int32} {a b : Int} (ha : x.toInt = a) (hb' : y.toInt = b) : (if_icmp.holds .lt x y = true → a < b) ∧ (if_icmp.holds .lt x y = false → b ≤ a) := by
  subst ha hb'
  constructor <;> intro q <;> simp [if_icmp.holds, Int32.lt_iff_toInt_lt, Int32.le_iff_toInt_le, ← Int32.toInt_inj] at q <;> omega
theorem g_icmp_lt (X : St p l e R s m args below meth c n0 T h cells slots) (C : Cx p s m meth c Z bytes maxL ret own nme) {o : Int} {x y : Int32} {a b : Int} {pT pF : Nat} (hd : decode bytes pc = .ok (.if_icmp .lt o, 3)) (ha : x.toInt = a) (hb' : y.toInt = b) (h0 : 0 ≤ (pc : Int) + o) (hT : ((pc : Int) + o).toNat = pT) (hF : pc + 3 = pF) (r1 : a < b → Go p e below Rest T (mkF m pT L S)) (r2 : b ≤ a → Go p e below Rest T (mkF m pF L S)) : Go p e below Rest T (mkF m pc L (.int y :: .int x :: S)) :=
  g_icmp X C hd h0 hT hF (fun q => r1 ((hold_lt ha hb').1 q)) (fun q => r2 ((hold_lt ha hb').2 q))
theorem g_if_lt (X : St p l e R s m args below meth c n0 T h cells slots) (C : Cx p s m meth c Z bytes maxL ret own nme) {o : Int} {x : Int32} {a : Int} {pT pF : Nat} (hd : decode bytes pc = .ok (.ifCond .lt o, 3)) (ha : x.toInt = a) (h0 : 0 ≤ (pc : Int) + o) (hT : ((pc : Int) + o).toNat = pT) (hF : pc + 3 = pF) (r1 : a < 0 → Go p e below Rest T (mkF m pT L S)) (r2 : 0 ≤ a → Go p e below Rest T (mkF m pF L S)) : Go p e below Rest T (mkF m pc L (.int x :: S)) :=
  g_if X C hd h0 hT hF (fun q => r1 ((hold_lt ha (by decide)).1 q)) (fun q => r2 ((hold_lt ha (by decide)).2 q))
theorem hlc_lt {x y : Int64} {a b : Int} (ha : x.toInt = a) (hb' : y.toInt = b) : (if_icmp.holds .lt (lcmpW x y) 0 = true → a < b) ∧ (if_icmp.holds .lt (lcmpW x y) 0 = false → b ≤ a) := by
  have h1 := c_lcmp x y; subst ha hb'
  have h3 := hold_lt (x := lcmpW x y) (y := 0) rfl (b := 0) (by decide)
  refine ⟨fun q => ?_, fun q => ?_⟩
  · have := h3.1 q; omega
  · have := h3.2 q; omega
theorem g_lif_lt (X : St p l e R s m args below meth c n0 T h cells slots) (C : Cx p s m meth c Z bytes maxL ret own nme) {o : Int} {x y : Int64} {a b : Int} {pT pF : Nat} (hd : decode bytes pc = .ok (.ifCond .lt o, 3)) (ha : x.toInt = a) (hb' : y.toInt = b) (h0 : 0 ≤ (pc : Int) + o) (hT : ((pc : Int) + o).toNat = pT) (hF : pc + 3 = pF) (r1 : a < b → Go p e below Rest T (mkF m pT L S)) (r2 : b ≤ a → Go p e below Rest T (mkF m pF L S)) : Go p e below Rest T (mkF m pc L (.int (lcmpW x y) :: S)) :=
  g_if X C hd h0 hT hF (fun q => r1 ((hlc_lt ha hb').1 q)) (fun q => r2 ((hlc_lt ha hb').2 q))
theorem hold_ge {x y : Int32} {a b : Int} (ha : x.toInt = a) (hb' : y.toInt = b) : (if_icmp.holds .ge x y = true → b ≤ a) ∧ (if_icmp.holds .ge x y = false → a < b) := by
  subst ha hb'
  constructor <;> intro q <;> simp [if_icmp.holds, Int32.lt_iff_toInt_lt, Int32.le_iff_toInt_le, ← Int32.toInt_inj] at q <;> omega
theorem g_icmp_ge (X : St p l e R s m args below meth c n0 T h cells slots) (C : Cx p s m meth c Z bytes maxL ret own nme) {o : Int} {x y : Int32} {a b : Int} {pT pF : Nat} (hd : decode bytes pc = .ok (.if_icmp .ge o, 3)) (ha : x.toInt = a) (hb' : y.toInt = b) (h0 : 0 ≤ (pc : Int) + o) (hT : ((pc : Int) + o).toNat = pT) (hF : pc + 3 = pF) (r1 : b ≤ a → Go p e below Rest T (mkF m pT L S)) (r2 : a < b → Go p e below Rest T (mkF m pF L S)) : Go p e below Rest T (mkF m pc L (.int y :: .int x :: S)) :=
  g_icmp X C hd h0 hT hF (fun q => r1 ((hold_ge ha hb').1 q)) (fun q => r2 ((hold_ge ha hb').2 q))
theorem g_if_ge (X : St p l e R s m args below meth c n0 T h cells slots) (C : Cx p s m meth c Z bytes maxL ret own nme) {o : Int} {x : Int32} {a : Int} {pT pF : Nat} (hd : decode bytes pc = .ok (.ifCond .ge o, 3)) (ha : x.toInt = a) (h0 : 0 ≤ (pc : Int) + o) (hT : ((pc : Int) + o).toNat = pT) (hF : pc + 3 = pF) (r1 : 0 ≤ a → Go p e below Rest T (mkF m pT L S)) (r2 : a < 0 → Go p e below Rest T (mkF m pF L S)) : Go p e below Rest T (mkF m pc L (.int x :: S)) :=
  g_if X C hd h0 hT hF (fun q => r1 ((hold_ge ha (by decide)).1 q)) (fun q => r2 ((hold_ge ha (by decide)).2 q))
theorem hlc_ge {x y : Int64} {a b : Int} (ha : x.toInt = a) (hb' : y.toInt = b) : (if_icmp.holds .ge (lcmpW x y) 0 = true → b ≤ a) ∧ (if_icmp.holds .ge (lcmpW x y) 0 = false → a < b) := by
  have h1 := c_lcmp x y; subst ha hb'
  have h3 := hold_ge (x := lcmpW x y) (y := 0) rfl (b := 0) (by decide)
  refine ⟨fun q => ?_, fun q => ?_⟩
  · have := h3.1 q; omega
  · have := h3.2 q; omega
theorem g_lif_ge (X : St p l e R s m args below meth c n0 T h cells slots) (C : Cx p s m meth c Z bytes maxL ret own nme) {o : Int} {x y : Int64} {a b : Int} {pT pF : Nat} (hd : decode bytes pc = .ok (.ifCond .ge o, 3)) (ha : x.toInt = a) (hb' : y.toInt = b) (h0 : 0 ≤ (pc : Int) + o) (hT : ((pc : Int) + o).toNat = pT) (hF : pc + 3 = pF) (r1 : b ≤ a → Go p e below Rest T (mkF m pT L S)) (r2 : a < b → Go p e below Rest T (mkF m pF L S)) : Go p e below Rest T (mkF m pc L (.int (lcmpW x y) :: S)) :=
  g_if X C hd h0 hT hF (fun q => r1 ((hlc_ge ha hb').1 q)) (fun q => r2 ((hlc_ge ha hb').2 q))
theorem hold_gt {x y : Int32} {a b : Int} (ha : x.toInt = a) (hb' : y.toInt = b) : (if_icmp.holds .gt x y = true → b < a) ∧ (if_icmp.holds .gt x y = false → a ≤ b) := by
  subst ha hb'
  constructor <;> intro q <;> simp [if_icmp.holds, Int32.lt_iff_toInt_lt, Int32.le_iff_toInt_le, ← Int32.toInt_inj] at q <;> omega
theorem g_icmp_gt (X : St p l e R s m args below meth c n0 T h cells slots) (C : Cx p s m meth c Z bytes maxL ret own nme) {o : Int} {x y : Int32} {a b : Int} {pT pF : Nat} (hd : decode bytes pc = .ok (.if_icmp .gt o, 3)) (ha : x.toInt = a) (hb' : y.toInt = b) (h0 : 0 ≤ (pc : Int) + o) (hT : ((pc : Int) + o).toNat = pT) (hF : pc + 3 = pF) (r1 : b < a → Go p e below Rest T (mkF m pT L S)) (r2 : a ≤ b → Go p e below Rest T (mkF m pF L S)) : Go p e below Rest T (mkF m pc L (.int y :: .int x :: S)) :=
  g_icmp X C hd h0 hT hF (fun q => r1 ((hold_gt ha hb').1 q)) (fun q => r2 ((hold_gt ha hb').2 q))
theorem g_if_gt (X : St p l e R s m args below meth c n0 T h cells slots) (C : Cx p s m meth c Z bytes maxL ret own nme) {o : Int} {x : Int32} {a : Int} {pT pF : Nat} (hd : decode bytes pc = .ok (.ifCond .gt o, 3)) (ha : x.toInt = a) (h0 : 0 ≤ (pc : Int) + o) (hT : ((pc : Int) + o).toNat = pT) (hF : pc + 3 = pF) (r1 : 0 < a → Go p e below Rest T (mkF m pT L S)) (r2 : a ≤ 0 → Go p e below Rest T (mkF m pF L S)) : Go p e below Rest T (mkF m pc L (.int x :: S)) :=
  g_if X C hd h0 hT hF (fun q => r1 ((hold_gt ha (by decide)).1 q)) (fun q => r2 ((hold_gt ha (by decide)).2 q))
theorem hlc_gt {x y : Int64} {a b : Int} (ha : x.toInt = a) (hb' : y.toInt = b) : (if_icmp.holds .gt (lcmpW x y) 0 = true → b < a) ∧ (if_icmp.holds .gt (lcmpW x y) 0 = false → a ≤ b) := by
  have h1 := c_lcmp x y; subst ha hb'
  have h3 := hold_gt (x := lcmpW x y) (y := 0) rfl (b := 0) (by decide)
  refine ⟨fun q => ?_, fun q => ?_⟩
  · have := h3.1 q; omega
  · have := h3.2 q; omega
theorem g_lif_gt (X : St p l e R s m args below meth c n0 T h cells slots) (C : Cx p s m meth c Z bytes maxL ret own nme) {o : Int} {x y : Int64} {a b : Int} {pT pF : Nat} (hd : decode bytes pc = .ok (.ifCond .gt o, 3)) (ha : x.toInt = a) (hb' : y.toInt = b) (h0 : 0 ≤ (pc : Int) + o) (hT : ((pc : Int) + o).toNat = pT) (hF : pc + 3 = pF) (r1 : b < a → Go p e below Rest T (mkF m pT L S)) (r2 : a ≤ b → Go p e below Rest T (mkF m pF L S)) : Go p e below Rest T (mkF m pc L (.int (lcmpW x y) :: S)) :=
  g_if X C hd h0 hT hF (fun q => r1 ((hlc_gt ha hb').1 q)) (fun q => r2 ((hlc_gt ha hb').2 q))
theorem hold_le {x y : Int32} {a b : Int} (ha : x.toInt = a) (hb' : y.toInt = b) : (if_icmp.holds .le x y = true → a ≤ b) ∧ (if_icmp.holds .le x y = false → b < a) := by
  subst ha hb'
  constructor <;> intro q <;> simp [if_icmp.holds, Int32.lt_iff_toInt_lt, Int32.le_iff_toInt_le, ← Int32.toInt_inj] at q <;> omega
theorem g_icmp_le (X : St p l e R s m args below meth c n0 T h cells slots) (C : Cx p s m meth c Z bytes maxL ret own nme) {o : Int} {x y : Int32} {a b : Int} {pT pF : Nat} (hd : decode bytes pc = .ok (.if_icmp .le o, 3)) (ha : x.toInt = a) (hb' : y.toInt = b) (h0 : 0 ≤ (pc : Int) + o) (hT : ((pc : Int) + o).toNat = pT) (hF : pc + 3 = pF) (r1 : a ≤ b → Go p e below Rest T (mkF m pT L S)) (r2 : b < a → Go p e below Rest T (mkF m pF L S)) : Go p e below Rest T (mkF m pc L (.int y :: .int x :: S)) :=
  g_icmp X C hd h0 hT hF (fun q => r1 ((hold_le ha hb').1 q)) (fun q => r2 ((hold_le ha hb').2 q))
theorem g_if_le (X : St p l e R s m args below meth c n0 T h cells slots) (C : Cx p s m meth c Z bytes maxL ret own nme) {o : Int} {x : Int32} {a : Int} {pT pF : Nat} (hd : decode bytes pc = .ok (.ifCond .le o, 3)) (ha : x.toInt = a) (h0 : 0 ≤ (pc : Int) + o) (hT : ((pc : Int) + o).toNat = pT) (hF : pc + 3 = pF) (r1 : a ≤ 0 → Go p e below Rest T (mkF m pT L S)) (r2 : 0 < a → Go p e below Rest T (mkF m pF L S)) : Go p e below Rest T (mkF m pc L (.int x :: S)) :=
  g_if X C hd h0 hT hF (fun q => r1 ((hold_le ha (by decide)).1 q)) (fun q => r2 ((hold_le ha (by decide)).2 q))
theorem hlc_le {x y : Int64} {a b : Int} (ha : x.toInt = a) (hb' : y.toInt = b) : (if_icmp.holds .le (lcmpW x y) 0 = true → a ≤ b) ∧ (if_icmp.holds .le (lcmpW x y) 0 = false → b < a) := by
  have h1 := c_lcmp x y; subst ha hb'
  have h3 := hold_le (x := lcmpW x y) (y := 0) rfl (b := 0) (by decide)
  refine ⟨fun q => ?_, fun q => ?_⟩
  · have := h3.1 q; omega
  · have := h3.2 q; omega
theorem g_lif_le (X : St p l e R s m args below meth c n0 T h cells slots) (C : Cx p s m meth c Z bytes maxL ret own nme) {o : Int} {x y : Int64} {a b : Int} {pT pF : Nat} (hd : decode bytes pc = .ok (.ifCond .le o, 3)) (ha : x.toInt = a) (hb' : y.toInt = b) (h0 : 0 ≤ (pc : Int) + o) (hT : ((pc : Int) + o).toNat = pT) (hF : pc + 3 = pF) (r1 : a ≤ b → Go p e below Rest T (mkF m pT L S)) (r2 : b < a → Go p e below Rest T (mkF m pF L S)) : Go p e below Rest T (mkF m pc L (.int (lcmpW x y) :: S)) :=
  g_if X C hd h0 hT hF (fun q => r1 ((hlc_le ha hb').1 q)) (fun q => r2 ((hlc_le ha hb').2 q))
theorem hold_eq {x y : Int32} {a b : Int} (ha : x.toInt = a) (hb' : y.toInt = b) : (if_icmp.holds .eq x y = true → a = b) ∧ (if_icmp.holds .eq x y = false → a ≠ b) := by
  subst ha hb'
  constructor <;> intro q <;> simp [if_icmp.holds, Int32.lt_iff_toInt_lt, Int32.le_iff_toInt_le, ← Int32.toInt_inj] at q <;> omega
theorem g_icmp_eq (X : St p l e R s m args below meth c n0 T h cells slots) (C : Cx p s m meth c Z bytes maxL ret own nme) {o : Int} {x y : Int32} {a b : Int} {pT pF : Nat} (hd : decode bytes pc = .ok (.if_icmp .eq o, 3)) (ha : x.toInt = a) (hb' : y.toInt = b) (h0 : 0 ≤ (pc : Int) + o) (hT : ((pc : Int) + o).toNat = pT) (hF : pc + 3 = pF) (r1 : a = b → Go p e below Rest T (mkF m pT L S)) (r2 : a ≠ b → Go p e below Rest T (mkF m pF L S)) : Go p e below Rest T (mkF m pc L (.int y :: .int x :: S)) :=
  g_icmp X C hd h0 hT hF (fun q => r1 ((hold_eq ha hb').1 q)) (fun q => r2 ((hold_eq ha hb').2 q))
theorem g_if_eq (X : St p l e R s m args below meth c n0 T h cells slots) (C : Cx p s m meth c Z bytes maxL ret own nme) {o : Int} {x : Int32} {a : Int} {pT pF : Nat} (hd : decode bytes pc = .ok (.ifCond .eq o, 3)) (ha : x.toInt = a) (h0 : 0 ≤ (pc : Int) + o) (hT : ((pc : Int) + o).toNat = pT) (hF : pc + 3 = pF) (r1 : a = 0 → Go p e below Rest T (mkF m pT L S)) (r2 : a ≠ 0 → Go p e below Rest T (mkF m pF L S)) : Go p e below Rest T (mkF m pc L (.int x :: S)) :=
  g_if X C hd h0 hT hF (fun q => r1 ((hold_eq ha (by decide)).1 q)) (fun q => r2 ((hold_eq ha (by decide)).2 q))
theorem hlc_eq {x y : Int64} {a b : Int} (ha : x.toInt = a) (hb' : y.toInt = b) : (if_icmp.holds .eq (lcmpW x y) 0 = true → a = b) ∧ (if_icmp.holds .eq (lcmpW x y) 0 = false → a ≠ b) := by
  have h1 := c_lcmp x y; subst ha hb'
  have h3 := hold_eq (x := lcmpW x y) (y := 0) rfl (b := 0) (by decide)
  refine ⟨fun q => ?_, fun q => ?_⟩
  · have := h3.1 q; omega
  · have := h3.2 q; omega
theorem g_lif_eq (X : St p l e R s m args below meth c n0 T h cells slots) (C : Cx p s m meth c Z bytes maxL ret own nme) {o : Int} {x y : Int64} {a b : Int} {pT pF : Nat} (hd : decode bytes pc = .ok (.ifCond .eq o, 3)) (ha : x.toInt = a) (hb' : y.toInt = b) (h0 : 0 ≤ (pc : Int) + o) (hT : ((pc : Int) + o).toNat = pT) (hF : pc + 3 = pF) (r1 : a = b → Go p e below Rest T (mkF m pT L S)) (r2 : a ≠ b → Go p e below Rest T (mkF m pF L S)) : Go p e below Rest T (mkF m pc L (.int (lcmpW x y) :: S)) :=
  g_if X C hd h0 hT hF (fun q => r1 ((hlc_eq ha hb').1 q)) (fun q => r2 ((hlc_eq ha hb').2 q))
theorem hold_ne {x y : Int32} {a b : Int} (ha : x.toInt = a) (hb' : y.toInt = b) : (if_icmp.holds .ne x y = true → a ≠ b) ∧ (if_icmp.holds .ne x y = false → a = b) := by
  subst ha hb'
  constructor <;> intro q <;> simp [if_icmp.holds, Int32.lt_iff_toInt_lt, Int32.le_iff_toInt_le, ← Int32.toInt_inj] at q <;> omega
theorem g_icmp_ne (X : St p l e R s m args below meth c n0 T h cells slots) (C : Cx p s m meth c Z bytes maxL ret own nme) {o : Int} {x y : Int32} {a b : Int} {pT pF : Nat} (hd : decode bytes pc = .ok (.if_icmp .ne o, 3)) (ha : x.toInt = a) (hb' : y.toInt = b) (h0 : 0 ≤ (pc : Int) + o) (hT : ((pc : Int) + o).toNat = pT) (hF : pc + 3 = pF) (r1 : a ≠ b → Go p e below Rest T (mkF m pT L S)) (r2 : a = b → Go p e below Rest T (mkF m pF L S)) : Go p e below Rest T (mkF m pc L (.int y :: .int x :: S)) :=
  g_icmp X C hd h0 hT hF (fun q => r1 ((hold_ne ha hb').1 q)) (fun q => r2 ((hold_ne ha hb').2 q))
theorem g_if_ne (X : St p l e R s m args below meth c n0 T h cells slots) (C : Cx p s m meth c Z bytes maxL ret own nme) {o : Int} {x : Int32} {a : Int} {pT pF : Nat} (hd : decode bytes pc = .ok (.ifCond .ne o, 3)) (ha : x.toInt = a) (h0 : 0 ≤ (pc : Int) + o) (hT : ((pc : Int) + o).toNat = pT) (hF : pc + 3 = pF) (r1 : a ≠ 0 → Go p e below Rest T (mkF m pT L S)) (r2 : a = 0 → Go p e below Rest T (mkF m pF L S)) : Go p e below Rest T (mkF m pc L (.int x :: S)) :=
  g_if X C hd h0 hT hF (fun q => r1 ((hold_ne ha (by decide)).1 q)) (fun q => r2 ((hold_ne ha (by decide)).2 q))
theorem hlc_ne {x y : Int64} {a b : Int} (ha : x.toInt = a) (hb' : y.toInt = b) : (if_icmp.holds .ne (lcmpW x y) 0 = true → a ≠ b) ∧ (if_icmp.holds .ne (lcmpW x y) 0 = false → a = b) := by
  have h1 := c_lcmp x y; subst ha hb'
  have h3 := hold_ne (x := lcmpW x y) (y := 0) rfl (b := 0) (by decide)
  refine ⟨fun q => ?_, fun q => ?_⟩
  · have := h3.1 q; omega
  · have := h3.2 q; omega
theorem g_lif_ne (X : St p l e R s m args below meth c n0 T h cells slots) (C : Cx p s m meth c Z bytes maxL ret own nme) {o : Int} {x y : Int64} {a b : Int} {pT pF : Nat} (hd : decode bytes pc = .ok (.ifCond .ne o, 3)) (ha : x.toInt = a) (hb' : y.toInt = b) (h0 : 0 ≤ (pc : Int) + o) (hT : ((pc : Int) + o).toNat = pT) (hF : pc + 3 = pF) (r1 : a ≠ b → Go p e below Rest T (mkF m pT L S)) (r2 : a = b → Go p e below Rest T (mkF m pF L S)) : Go p e below Rest T (mkF m pc L (.int (lcmpW x y) :: S)) :=
  g_if X C hd h0 hT hF (fun q => r1 ((hlc_ne ha hb').1 q)) (fun q => r2 ((hlc_ne ha hb').2 q))
theorem g_nullY (X : St p l e R s m args below meth c n0 T h cells slots) (C : Cx p s m meth c Z bytes maxL ret own nme) {o : Int} {pT : Nat} (hd : decode bytes pc = .ok (.ifnull o, 3)) (h0 : 0 ≤ (pc : Int) + o) (hT : ((pc : Int) + o).toNat = pT) (r : Go p e below Rest T (mkF m pT L S)) : Go p e below Rest T (mkF m pc L (.null :: S)) := by
  obtain ⟨_, X, -, -⟩ := X; obtain ⟨hx, hby, -⟩ := C
  exact go_by (fun t k => XS.ifnullYes X.here hx rfl (pc0 := pc) rfl (hb hby hd) rfl h0 hT k) r
theorem g_nullN (X : St p l e R s m args below meth c n0 T h cells slots) (C : Cx p s m meth c Z bytes maxL ret own nme) {o : Int} {b : Addr} {pF : Nat} (hd : decode bytes pc = .ok (.ifnull o, 3)) (hF : pc + 3 = pF) (r : Go p e below Rest T (mkF m pF L S)) : Go p e below Rest T (mkF m pc L (.ref b :: S)) := by
  obtain ⟨_, X, -, -⟩ := X; obtain ⟨hx, hby, -⟩ := C; subst hF
  exact go_by (fun t k => XS.ifnullNo X.here hx rfl (hb hby hd) rfl k) r
theorem g_nonnullY (X : St p l e R s m args below meth c n0 T h cells slots) (C : Cx p s m meth c Z bytes maxL ret own nme) {o : Int} {b : Addr} {pT : Nat} (hd : decode bytes pc = .ok (.ifnonnull o, 3)) (h0 : 0 ≤ (pc : Int) + o) (hT : ((pc : Int) + o).toNat = pT) (r : Go p e below Rest T (mkF m pT L S)) : Go p e below Rest T (mkF m pc L (.ref b :: S)) := by
  obtain ⟨_, X, -, -⟩ := X; obtain ⟨hx, hby, -⟩ := C
  exact go_by (fun t k => XS.ifnonnullYes X.here hx rfl (pc0 := pc) rfl (hb hby hd) rfl h0 hT k) r
theorem g_nonnullN (X : St p l e R s m args below meth c n0 T h cells slots) (C : Cx p s m meth c Z bytes maxL ret own nme) {o : Int} {pF : Nat} (hd : decode bytes pc = .ok (.ifnonnull o, 3)) (hF : pc + 3 = pF) (r : Go p e below Rest T (mkF m pF L S)) : Go p e below Rest T (mkF m pc L (.null :: S)) := by
  obtain ⟨_, X, -, -⟩ := X; obtain ⟨hx, hby, -⟩ := C; subst hF
  exact go_by (fun t k => XS.ifnonnullNo X.here hx rfl (hb hby hd) rfl k) r
theorem g_irem (X : St p l e R s m args below meth c n0 T h cells slots) (C : Cx p s m meth c Z bytes maxL ret own nme) {x y : Int32} (hd : decode bytes pc = .ok (.irem, 1)) (hy : y ≠ 0) (hp : pc + 1 = pc') (r : Go p e below Rest T (mkF m pc' L (.int (x % y) :: S))) : Go p e below Rest T (mkF m pc L (.int y :: .int x :: S)) := by
  obtain ⟨_, X, -, -⟩ := X; obtain ⟨hx, hby, -⟩ := C; subst hp
  exact go_by (fun t k => iremM X hx rfl (hb hby hd) rfl hy k) r
theorem g_lrem (X : St p l e R s m args below meth c n0 T h cells slots) (C : Cx p s m meth c Z bytes maxL ret own nme) {x y : Int64} (hd : decode bytes pc = .ok (.lrem, 1)) (hy : y ≠ 0) (hp : pc + 1 = pc') (r : Go p e below Rest T (mkF m pc' L (.long (x % y) :: S))) : Go p e below Rest T (mkF m pc L (.long y :: .long x :: S)) := by
  obtain ⟨_, X, -, -⟩ := X; obtain ⟨hx, hby, -⟩ := C; subst hp
  rw [← lrem_mod] at r
  exact go_by (fun t k => XS.lrem X.here hx rfl (hb hby hd) rfl hy k) r
theorem g_ldcI (X : St p l e R s m args below meth c n0 T h cells slots) (C : Cx p s m meth c Z bytes maxL ret own nme) {index : Nat} {v : Int32} (w : (Jvm.Cond.constant own index v).before a0 Z = true) (hd : decode bytes pc = .ok (.ldc index, 2)) (hp : pc + 2 = pc') (r : Go p e below Rest T (mkF m pc' L (.int v :: S))) : Go p e below Rest T (mkF m pc L S) := by
  obtain ⟨_, X, -, -⟩ := X; obtain ⟨hx, hby, -, -, -, hown, -, hZ⟩ := C; subst hp
  exact go_by (X.ldcInt hx hown (mvT hZ w) (g := mkF m pc L S) rfl (hb hby hd)) r
theorem g_ldcJ (X : St p l e R s m args below meth c n0 T h cells slots) (C : Cx p s m meth c Z bytes maxL ret own nme) {index : Nat} {v : Int64} (w : (Jvm.Cond.constantLong own index v).before a0 Z = true) (hd : decode bytes pc = .ok (.ldc2_w index, 3)) (hp : pc + 3 = pc') (r : Go p e below Rest T (mkF m pc' L (.long v :: S))) : Go p e below Rest T (mkF m pc L S) := by
  obtain ⟨_, X, -, -⟩ := X; obtain ⟨hx, hby, -, -, -, hown, -, hZ⟩ := C; subst hp
  exact go_by (X.ldc2Long hx hown (mvT hZ w) (g := mkF m pc L S) rfl (hb hby hd)) r
/-- an array: its kind, its length, what each place holds -/
def Ar (Z : State) (h : Heap) (a : Addr) (ty : FieldType) (n : Nat) (fn : Nat → Value) : Prop := ∃ cl : Cell, Arr Z h a cl ty ∧ cl.slots.size = n ∧ ∀ j, j < n → cl.slots[j]? = some (fn j)
theorem Ar.lt {a : Addr} {ty : FieldType} {n : Nat} {fn : Nat → Value} (A : Ar Z h a ty n fn) : a < h.size := by obtain ⟨_, A, -⟩ := A; exact A.lt
theorem Ar.keep {a : Addr} {ty : FieldType} {n : Nat} {fn : Nat → Value} {ws : List Addr} (A : Ar Z h a ty n fn) (K : Keep h h' ws) (q : a ∉ ws) : Ar Z h' a ty n fn := by
  obtain ⟨cl, A, r⟩ := A; exact ⟨cl, ⟨K.2.1 a cl A.1 q, A.2⟩, r⟩
theorem Ar.congr {a : Addr} {ty : FieldType} {n : Nat} {fn gn : Nat → Value} (A : Ar Z h a ty n fn) (q : ∀ j, j < n → fn j = gn j) : Ar Z h a ty n gn := by
  obtain ⟨cl, A, r1, r2⟩ := A; exact ⟨cl, A, r1, fun j hj => by rw [r2 j hj, q j hj]⟩
theorem Ar.set {a : Addr} {ty : FieldType} {n i : Nat} {fn : Nat → Value} {v : Value} (A : Ar Z h a ty n fn) (hi : i < n) (W : Wr h h' a i v) : Ar Z h' a ty n (fun k => if k = i then v else fn k) := by
  obtain ⟨cl, A, r1, r2⟩ := A
  refine ⟨_, A.same W, by rw [sz_set]; exact r1, fun j hj => ?_⟩
  by_cases q : j = i
  · subst q; simp [Cell.setSlot, Array.getElem?_setIfInBounds, r1, hi]
  · have := r2 j hj; simp [Cell.setSlot, Array.getElem?_setIfInBounds, q, Ne.symm q, this]
theorem keepE (E : Ext h h') : Keep h h' [] := (Keep.refl _ _).ext E
theorem keepE' {ws : List Addr} (E : Ext h h') : Keep h h' ws := (Keep.refl _ _).ext E
theorem nneg {z : Int32} {n : Nat} (hz : z.toInt = n) : ¬ z < 0 := by
  rw [Int32.lt_iff_toInt_lt, hz]; have : (0 : Int32).toInt = 0 := by decide
  omega
theorem addn {x y : Int32} {i k : Nat} (hx : x.toInt = i) (hy : y.toInt = k) (hb : i + k < 2147483648) : (x + y).toInt = (i + k : Nat) := by
  have g1 := c_iadd x y; have g2 := rng32 (x + y); omega
theorem clamp_of {j : Int32} {i : Nat} (hi : j.toInt = i) : j.toNatClampNeg = i := by
  rw [Int32.toNatClampNeg, hi]; simp
theorem inb {j : Int32} {i n : Nat} {cl : Cell} (hi : j.toInt = i) (hlt : i < n) (hs : cl.slots.size = n) : ¬ (j < 0 ∨ cl.slots.size ≤ j.toNatClampNeg) := by
  rw [clamp_of hi, hs]
  rintro (q | q)
  · rw [Int32.lt_iff_toInt_lt, hi] at q; have : (0 : Int32).toInt = 0 := by decide
    omega
  · omega
def Ob (Z : State) (h : Heap) (a : Addr) (K : String) (NS : List (String × String)) (vs : List Value) : Prop := Exa Z h a K ∧ ∀ (i : Nat) (n d : String) (v : Value), NS[i]? = some (n, d) → vs[i]? = some v → Fld Z h a K n d v
def CF (Z : State) (a0 : Array Value) (K : String) (NS : List (String × String)) (k : Nat) : Prop := (NS.map (·.1)).Nodup ∧ (∀ x ∈ NS, Laid Z a0 K K x.1 x.2 ∧ (parseFieldDescriptor x.2).isSome = true) ∧ (Jvm.Cond.instantiable K k).before a0 Z = true
theorem Ob.lt {a : Addr} {K : String} {NS : List (String × String)} {vs : List Value} (O : Ob Z h a K NS vs) : a < h.size := O.1.lt
theorem Ob.keep {a : Addr} {K : String} {NS : List (String × String)} {vs : List Value} {ws : List Addr} (O : Ob Z h a K NS vs) (K' : Keep h h' ws) (q : a ∉ ws) : Ob Z h' a K NS vs := ⟨O.1.keep K', fun i n d v h1 h2 => (O.2 i n d v h1 h2).keep K' q⟩
theorem Ob.put {a : Addr} {K : String} {NS : List (String × String)} {vs vs' : List Value} {k i : Nat} {n d : String} {v old : Value} (O : Ob Z h a K NS vs) (F : CF Z a0 K NS k) (hN : NS[i]? = some (n, d)) (ho : vs[i]? = some old) (hvs : vs.set i v = vs') (W : Wr h h' a (Jvm.RoadKit.slotOf Z K n d) v) : Ob Z h' a K NS vs' := by
  subst hvs
  refine ⟨O.1.wr W, fun j n' d' w h1 h2 => ?_⟩
  by_cases q : j = i
  · subst q
    rw [hN] at h1; obtain ⟨rfl, rfl⟩ := Prod.mk.inj (Option.some.inj h1)
    rw [List.getElem?_set_self (by exact (List.getElem?_eq_some_iff.mp ho).1)] at h2
    obtain rfl := Option.some.inj h2
    exact (O.2 _ _ _ _ hN ho).same W
  · rw [List.getElem?_set_ne (Ne.symm q)] at h2
    have hne : n' ≠ n := by
      intro e
      have h3 : (NS.map (·.1))[j]? = some n' := by rw [List.getElem?_map, h1]; rfl
      have h4 : (NS.map (·.1))[i]? = some n := by rw [List.getElem?_map, hN]; rfl
      obtain ⟨l1, e1⟩ := List.getElem?_eq_some_iff.mp h3
      obtain ⟨l2, e2⟩ := List.getElem?_eq_some_iff.mp h4
      rcases Nat.lt_or_gt_of_ne q with u | u
      · exact (List.pairwise_iff_getElem.mp F.1) j i l1 l2 u (by rw [e1, e2, e])
      · exact (List.pairwise_iff_getElem.mp F.1) i j l2 l1 u (by rw [e1, e2, e])
    obtain ⟨p1, p2⟩ := F.2.1 _ (List.mem_of_getElem? h1)
    obtain ⟨p3, p4⟩ := F.2.1 _ (List.mem_of_getElem? hN)
    obtain ⟨t1, q1⟩ := Option.isSome_iff_exists.mp p2
    obtain ⟨t2, q2⟩ := Option.isSome_iff_exists.mp p4
    exact (O.2 _ _ _ _ h1 h2).other W (Or.inr (slot_ne p1 p3 hne q1 q2))
theorem g_getO (X : St p l e R s m args below meth c n0 T h cells slots) (C : Cx p s m meth c Z bytes maxL ret own nme) {a : Addr} {K n d host : String} {NS : List (String × String)} {vs : List Value} {i index : Nat} {v : Value} (O : Ob Z h a K NS vs) (hN : NS[i]? = some (n, d)) (hv : vs[i]? = some v) (w : (Jvm.Cond.fieldLink own index K n d).before a0 Z = true ∨ (Jvm.Cond.fieldLinkNest own index K n d host).before a0 Z = true) (hd : decode bytes pc = .ok (.getfield index, 3)) (hp : pc + 3 = pc') (r : ∀ T', St p l e R s m args below meth c n0 T' h cells slots → Go p e below Rest T' (mkF m pc' L (v :: S))) : Go p e below Rest T (mkF m pc L (.ref a :: S)) := by
  obtain ⟨locs, X, N, eT⟩ := X; obtain ⟨hx, hby, -, -, -, hown, -, hZ⟩ := C; subst hp
  obtain ⟨T', X', e', st⟩ := getF X hx hZ hown w Via.refl eT (O.2 _ _ _ _ hN hv) (g := mkF m pc L (.ref a :: S)) rfl rfl (hb hby hd)
  exact go_by st (r T' ⟨locs, X', N, e'⟩)
theorem g_putO (X : St p l e R s m args below meth c n0 T h cells slots) (C : Cx p s m meth c Z bytes maxL ret own nme) {a : Addr} {K n d host : String} {NS : List (String × String)} {vs vs' : List Value} {i k index : Nat} {v old : Value} {ty : FieldType} (O : Ob Z h a K NS vs) (F : CF Z a0 K NS k) (hN : NS[i]? = some (n, d)) (ho : vs[i]? = some old) (hvs : vs.set i v = vs') (ga : n0 ≤ a) (w : (Jvm.Cond.fieldLink own index K n d).before a0 Z = true ∨ (Jvm.Cond.fieldLinkNest own index K n d host).before a0 Z = true) (Ly : (Jvm.Cond.lays K K n d).before a0 Z = true ∨ ((Jvm.Cond.laysFinal K K n d).before a0 Z = true ∧ own = K ∧ nme = "<init>")) (hty : parseFieldDescriptor d = some ty) (hn : narrow ty v = v) (hf : fits ty v = true) (hd : decode bytes pc = .ok (.putfield index, 3)) (hp : pc + 3 = pc') (r : ∀ T' h', St p l e R s m args below meth c n0 T' h' cells slots → Ob Z h' a K NS vs' → Keep h h' [a] → Go p e below Rest T' (mkF m pc' L S)) : Go p e below Rest T (mkF m pc L (v :: .ref a :: S)) := by
  obtain ⟨locs, X, N, eT⟩ := X; obtain ⟨hx, hby, -, -, -, hown, hnm, hZ⟩ := C; subst hp
  obtain ⟨T', h', X', e', W, st⟩ := putF X hx hZ hown w Via.refl eT (O.2 _ _ _ _ hN ho) O.1 (Ly.imp id fun q => ⟨q.1, q.2.1, by rw [hnm]; exact q.2.2⟩) F.2.2 hty hn hf (g := mkF m pc L (v :: .ref a :: S)) rfl rfl (hb hby hd)
  exact go_by st (r T' h' ⟨_, X', Fr.snoc X' N ga, e'⟩ (O.put F hN ho hvs W) (Keep.of_wr W))
theorem g_putN (X : St p l e R s m args below meth c n0 T h cells slots) (C : Cx p s m meth c Z bytes maxL ret own nme) {a : Addr} {K n d : String} {NS : List (String × String)} {vs vs' : List Value} {i k index : Nat} {v v' old : Value} {ty : FieldType} (O : Ob Z h a K NS vs) (F : CF Z a0 K NS k) (hN : NS[i]? = some (n, d)) (ho : vs[i]? = some old) (hvs : vs.set i v' = vs') (ga : n0 ≤ a) (w : (Jvm.Cond.fieldLink own index K n d).before a0 Z = true) (Ly : (Jvm.Cond.lays K K n d).before a0 Z = true ∨ ((Jvm.Cond.laysFinal K K n d).before a0 Z = true ∧ own = K ∧ nme = "<init>")) (hty : parseFieldDescriptor d = some ty) (hn : narrow ty v = v') (hf : fits ty v' = true) (hd : decode bytes pc = .ok (.putfield index, 3)) (hp : pc + 3 = pc') (r : ∀ T' h', St p l e R s m args below meth c n0 T' h' cells slots → Ob Z h' a K NS vs' → Keep h h' [a] → Go p e below Rest T' (mkF m pc' L S)) : Go p e below Rest T (mkF m pc L (v :: .ref a :: S)) := by
  obtain ⟨locs, X, N, eT⟩ := X; obtain ⟨hx, hby, -, -, -, hown, hnm, hZ⟩ := C; subst hp
  obtain ⟨T', h', X', e', W, st⟩ := putFN X hx hZ hown w Via.refl eT (O.2 _ _ _ _ hN ho) O.1 (Ly.imp id fun q => ⟨q.1, q.2.1, by rw [hnm]; exact q.2.2⟩) F.2.2 hty hn hf (g := mkF m pc L (v :: .ref a :: S)) rfl rfl (hb hby hd)
  exact go_by st (r T' h' ⟨_, X', Fr.snoc X' N ga, e'⟩ (O.put F hN ho hvs W) (Keep.of_wr W))
def dflt (d : String) : Value := match parseFieldDescriptor d with | some ty => defaultValue ty | none => .null
theorem g_newO (X : St p l e R s m args below meth c n0 T h cells slots) (C : Cx p s m meth c Z bytes maxL ret own nme) {K : String} {NS : List (String × String)} {vs : List Value} {index k : Nat} (w : (Jvm.Cond.classLink own index K).before a0 Z = true) (F : CF Z a0 K NS k) (wz : (Jvm.Cond.initialized K).before a0 Z = true) (hvs : NS.map (fun x => dflt x.2) = vs) (hc : cells + 1 ≤ R.cells) (hl : slots + k ≤ R.slots) (hd : decode bytes pc = .ok (.new index, 3)) (hp : pc + 3 = pc') (r : ∀ T' h' b, b = h.size → St p l e R s m args below meth c n0 T' h' (cells + 1) (slots + k) → Ob Z h' b K NS vs → Keep h h' [] → Go p e below Rest T' (mkF m pc' L (.ref b :: S))) : Go p e below Rest T (mkF m pc L S) := by
  obtain ⟨locs, X, N, eT⟩ := X; obtain ⟨hx, hby, -, -, -, hown, hnm, hZ⟩ := C; subst hp hvs
  obtain ⟨T', h', X', e', E, A, D, -, st⟩ := newO X hx hZ hown w F.2.2 wz eT (g := mkF m pc L S) rfl (hb hby hd) hc hl
  refine go_by st (r T' h' _ rfl ⟨_, X', N, e'⟩ ⟨A, fun i n d v h1 h2 => ?_⟩ (keepE E))
  obtain ⟨p1, p2⟩ := F.2.1 _ (List.mem_of_getElem? h1)
  obtain ⟨t1, q1⟩ := Option.isSome_iff_exists.mp p2
  rw [List.getElem?_map, h1] at h2
  obtain rfl := Option.some.inj h2
  have := D p1 q1
  simp only [dflt, q1]
  exact this
theorem g_newarr (X : St p l e R s m args below meth c n0 T h cells slots) (C : Cx p s m meth c Z bytes maxL ret own nme) {aty : ArrayType} {z : Int32} {n cap : Nat} (w : (Jvm.Cond.arrayClass (newarray.typeOf aty)).before a0 Z = true) (hz : z.toInt = n) (hcap : n ≤ cap) (hcb : cap * 8 ≤ 536870912) (hc : cells + 1 ≤ R.cells) (hl : slots + cap ≤ R.slots) (hd : decode bytes pc = .ok (.newarray aty, 2)) (hp : pc + 2 = pc') (r : ∀ T' h' b, b = h.size → St p l e R s m args below meth c n0 T' h' (cells + 1) (slots + cap) → Ar Z h' b (newarray.typeOf aty) n (fun _ => defaultValue (newarray.typeOf aty)) → Keep h h' [] → Go p e below Rest T' (mkF m pc' L (.ref b :: S))) : Go p e below Rest T (mkF m pc L (.int z :: S)) := by
  obtain ⟨locs, X, N, eT⟩ := X; obtain ⟨hx, hby, -, -, -, hown, hnm, hZ⟩ := C; subst hp
  have hneg : ¬ z < 0 := nneg hz
  obtain ⟨T', h', cA, X', e', E, A, st⟩ := newP X hx hZ w eT (g := mkF m pc L (.int z :: S)) rfl (hb hby hd) rfl hneg (cap := cap) (by rw [clamp_of hz]; exact hcap) hcb hc hl
  refine go_by st (r T' h' _ rfl ⟨_, X', N, e'⟩ ⟨_, A, by rw [sz_new, clamp_of hz], fun j hj => ?_⟩ (keepE E))
  simp [newA, clamp_of hz, hj]
def ArR (Z : State) (h : Heap) (a : Addr) (K : String) (n : Nat) (fn : Nat → Value) : Prop := ∃ cl : Cell, Arr Z h a cl (.object K) ∧ Ovr Z cl.cls K ∧ cl.slots.size = n ∧ ∀ j, j < n → cl.slots[j]? = some (fn j)
theorem ArR.lt {a : Addr} {K : String} {n : Nat} {fn : Nat → Value} (A : ArR Z h a K n fn) : a < h.size := by obtain ⟨_, A, -⟩ := A; exact A.lt
theorem ArR.keep {a : Addr} {K : String} {n : Nat} {fn : Nat → Value} {ws : List Addr} (A : ArR Z h a K n fn) (K' : Keep h h' ws) (q : a ∉ ws) : ArR Z h' a K n fn := by
  obtain ⟨cl, A, r⟩ := A; exact ⟨cl, ⟨K'.2.1 a cl A.1 q, A.2⟩, r⟩
theorem g_newR (X : St p l e R s m args below meth c n0 T h cells slots) (C : Cx p s m meth c Z bytes maxL ret own nme) {K : String} {index : Nat} {z : Int32} {n cap : Nat} (w1 : (Jvm.Cond.classLink own index K).before a0 Z = true) (w2 : (Jvm.Cond.arrayOver (.object K)).before a0 Z = true) (hz : z.toInt = n) (hcap : n ≤ cap) (hcb : cap * 8 ≤ 536870912) (hc : cells + 1 ≤ R.cells) (hl : slots + cap ≤ R.slots) (hd : decode bytes pc = .ok (.anewarray index, 3)) (hp : pc + 3 = pc') (r : ∀ T' h' b, b = h.size → St p l e R s m args below meth c n0 T' h' (cells + 1) (slots + cap) → ArR Z h' b K n (fun _ => .null) → Keep h h' [] → Go p e below Rest T' (mkF m pc' L (.ref b :: S))) : Go p e below Rest T (mkF m pc L (.int z :: S)) := by
  obtain ⟨locs, X, N, eT⟩ := X; obtain ⟨hx, hby, -, -, -, hown, hnm, hZ⟩ := C; subst hp
  have hneg : ¬ z < 0 := nneg hz
  obtain ⟨T', h', cA, X', e', E, A, Ov, st⟩ := newR X hx hZ hown w1 w2 eT (g := mkF m pc L (.int z :: S)) rfl (hb hby hd) rfl hneg (cap := cap) (by rw [clamp_of hz]; exact hcap) hcb hc hl
  refine go_by st (r T' h' _ rfl ⟨_, X', N, e'⟩ ⟨_, A, Ov, by rw [sz_new, clamp_of hz], fun j hj => ?_⟩ (keepE E))
  simp [newA, clamp_of hz, hj, defaultValue]
theorem g_arrlen (X : St p l e R s m args below meth c n0 T h cells slots) (C : Cx p s m meth c Z bytes maxL ret own nme) {a : Addr} {ty : FieldType} {n : Nat} {fn : Nat → Value} {z : Int32} (A : Ar Z h a ty n fn) (hz : n.toInt32 = z) (hd : decode bytes pc = .ok (.arraylength, 1)) (hp : pc + 1 = pc') (r : Go p e below Rest T (mkF m pc' L (.int z :: S))) : Go p e below Rest T (mkF m pc L (.ref a :: S)) := by
  obtain ⟨locs, X, N, eT⟩ := X; obtain ⟨hx, hby, -, -, -, hown, hnm, hZ⟩ := C; subst hp hz
  obtain ⟨cl, A, r1, r2⟩ := A; subst r1
  exact go_by (fun t k => X.arraylength hx (by rw [eT]; exact A.1) (State.isArrayOf_alike hZ.alike A.2.1) (g := mkF m pc L (.ref a :: S)) rfl rfl (hb hby hd) t k) r
theorem g_iaload (X : St p l e R s m args below meth c n0 T h cells slots) (C : Cx p s m meth c Z bytes maxL ret own nme) {a : Addr} {n i : Nat} {fn : Nat → Value} {j : Int32} {v : Value} (A : Ar Z h a .int n fn) (hi : j.toInt = i) (hlt : i < n) (hv : fn i = v) (hd : decode bytes pc = .ok (.iaload, 1)) (hp : pc + 1 = pc') (r : Go p e below Rest T (mkF m pc' L (v :: S))) : Go p e below Rest T (mkF m pc L (.int j :: .ref a :: S)) := by
  obtain ⟨locs, X, N, eT⟩ := X; obtain ⟨hx, hby, -, -, -, hown, hnm, hZ⟩ := C; subst hp hv
  obtain ⟨cl, A, r1, r2⟩ := A
  exact go_by (fun t k => X.iaload hx (j := j) (by rw [eT]; exact A.1) (State.isArrayOf_alike hZ.alike A.2.1) A.2.2 (inb hi hlt r1) (by rw [clamp_of hi]; exact r2 i hlt) (g := mkF m pc L (.int j :: .ref a :: S)) rfl rfl (hb hby hd) t k) r
theorem g_laload (X : St p l e R s m args below meth c n0 T h cells slots) (C : Cx p s m meth c Z bytes maxL ret own nme) {a : Addr} {n i : Nat} {fn : Nat → Value} {j : Int32} {v : Value} (A : Ar Z h a .long n fn) (hi : j.toInt = i) (hlt : i < n) (hv : fn i = v) (hd : decode bytes pc = .ok (.laload, 1)) (hp : pc + 1 = pc') (r : Go p e below Rest T (mkF m pc' L (v :: S))) : Go p e below Rest T (mkF m pc L (.int j :: .ref a :: S)) := by
  obtain ⟨locs, X, N, eT⟩ := X; obtain ⟨hx, hby, -, -, -, hown, hnm, hZ⟩ := C; subst hp hv
  obtain ⟨cl, A, r1, r2⟩ := A
  exact go_by (fun t k => X.laload hx (j := j) (by rw [eT]; exact A.1) (State.isArrayOf_alike hZ.alike A.2.1) A.2.2 (inb hi hlt r1) (by rw [clamp_of hi]; exact r2 i hlt) (g := mkF m pc L (.int j :: .ref a :: S)) rfl rfl (hb hby hd) t k) r
theorem g_baloadB (X : St p l e R s m args below meth c n0 T h cells slots) (C : Cx p s m meth c Z bytes maxL ret own nme) {a : Addr} {n i : Nat} {fn : Nat → Value} {j : Int32} {v : Value} (A : Ar Z h a .byte n fn) (hi : j.toInt = i) (hlt : i < n) (hv : fn i = v) (hd : decode bytes pc = .ok (.baload, 1)) (hp : pc + 1 = pc') (r : Go p e below Rest T (mkF m pc' L (v :: S))) : Go p e below Rest T (mkF m pc L (.int j :: .ref a :: S)) := by
  obtain ⟨locs, X, N, eT⟩ := X; obtain ⟨hx, hby, -, -, -, hown, hnm, hZ⟩ := C; subst hp hv
  obtain ⟨cl, A, r1, r2⟩ := A
  exact go_by (fun t k => X.baloadBytes hx (j := j) (by rw [eT]; exact A.1) (State.isArrayOf_alike hZ.alike A.2.1) A.2.2 (inb hi hlt r1) (by rw [clamp_of hi]; exact r2 i hlt) (g := mkF m pc L (.int j :: .ref a :: S)) rfl rfl (hb hby hd) t k) r
theorem g_baloadZ (X : St p l e R s m args below meth c n0 T h cells slots) (C : Cx p s m meth c Z bytes maxL ret own nme) {a : Addr} {n i : Nat} {fn : Nat → Value} {j : Int32} {v : Value} (A : Ar Z h a .boolean n fn) (hi : j.toInt = i) (hlt : i < n) (hv : fn i = v) (hd : decode bytes pc = .ok (.baload, 1)) (hp : pc + 1 = pc') (r : Go p e below Rest T (mkF m pc' L (v :: S))) : Go p e below Rest T (mkF m pc L (.int j :: .ref a :: S)) := by
  obtain ⟨locs, X, N, eT⟩ := X; obtain ⟨hx, hby, -, -, -, hown, hnm, hZ⟩ := C; subst hp hv
  obtain ⟨cl, A, r1, r2⟩ := A
  exact go_by (fun t k => X.baloadBooleans hx (j := j) (by rw [eT]; exact A.1) (State.isArrayOf_alike hZ.alike A.2.1) A.2.2 (inb hi hlt r1) (by rw [clamp_of hi]; exact r2 i hlt) (g := mkF m pc L (.int j :: .ref a :: S)) rfl rfl (hb hby hd) t k) r
theorem g_aaload (X : St p l e R s m args below meth c n0 T h cells slots) (C : Cx p s m meth c Z bytes maxL ret own nme) {a : Addr} {n i : Nat} {K : String} {fn : Nat → Value} {j : Int32} {v : Value} (A : ArR Z h a K n fn) (hi : j.toInt = i) (hlt : i < n) (hv : fn i = v) (hd : decode bytes pc = .ok (.aaload, 1)) (hp : pc + 1 = pc') (r : Go p e below Rest T (mkF m pc' L (v :: S))) : Go p e below Rest T (mkF m pc L (.int j :: .ref a :: S)) := by
  obtain ⟨locs, X, N, eT⟩ := X; obtain ⟨hx, hby, -, -, -, hown, hnm, hZ⟩ := C; subst hp hv
  obtain ⟨cl, A, -, r1, r2⟩ := A
  exact go_by (fun t k => X.aaload hx (j := j) (by rw [eT]; exact A.1) (State.isArrayOf_alike hZ.alike A.2.1) rfl A.2.2 (inb hi hlt r1) (by rw [clamp_of hi]; exact r2 i hlt) (g := mkF m pc L (.int j :: .ref a :: S)) rfl rfl (hb hby hd) t k) r
theorem g_iastore (X : St p l e R s m args below meth c n0 T h cells slots) (C : Cx p s m meth c Z bytes maxL ret own nme) {a : Addr} {n i : Nat} {fn : Nat → Value} {j : Int32} {x : Int32} (A : Ar Z h a .int n fn) (hi : j.toInt = i) (hlt : i < n) (ga : n0 ≤ a) (hd : decode bytes pc = .ok (.iastore, 1)) (hp : pc + 1 = pc') (r : ∀ T' h', St p l e R s m args below meth c n0 T' h' cells slots → Ar Z h' a .int n (fun k => if k = i then (.int x) else fn k) → Keep h h' [a] → Go p e below Rest T' (mkF m pc' L S)) : Go p e below Rest T (mkF m pc L (.int x :: .int j :: .ref a :: S)) := by
  obtain ⟨locs, X, N, eT⟩ := X; obtain ⟨hx, hby, -, -, -, hown, hnm, hZ⟩ := C; subst hp
  have A0 := A
  obtain ⟨cl, A, r1, r2⟩ := A
  obtain ⟨T', h', X', e', W, st⟩ := stI X hx hZ eT A (j := j) (inb hi hlt r1) (g := mkF m pc L (.int x :: .int j :: .ref a :: S)) rfl rfl (hb hby hd)
  rw [clamp_of hi] at W
  exact go_by st (r T' h' ⟨_, X', Fr.snoc X' N ga, e'⟩ (A0.set hlt W) (Keep.of_wr W))
theorem g_lastore (X : St p l e R s m args below meth c n0 T h cells slots) (C : Cx p s m meth c Z bytes maxL ret own nme) {a : Addr} {n i : Nat} {fn : Nat → Value} {j : Int32} {x : Int64} (A : Ar Z h a .long n fn) (hi : j.toInt = i) (hlt : i < n) (ga : n0 ≤ a) (hd : decode bytes pc = .ok (.lastore, 1)) (hp : pc + 1 = pc') (r : ∀ T' h', St p l e R s m args below meth c n0 T' h' cells slots → Ar Z h' a .long n (fun k => if k = i then (.long x) else fn k) → Keep h h' [a] → Go p e below Rest T' (mkF m pc' L S)) : Go p e below Rest T (mkF m pc L (.long x :: .int j :: .ref a :: S)) := by
  obtain ⟨locs, X, N, eT⟩ := X; obtain ⟨hx, hby, -, -, -, hown, hnm, hZ⟩ := C; subst hp
  have A0 := A
  obtain ⟨cl, A, r1, r2⟩ := A
  obtain ⟨T', h', X', e', W, st⟩ := stJ X hx hZ eT A (j := j) (inb hi hlt r1) (g := mkF m pc L (.long x :: .int j :: .ref a :: S)) rfl rfl (hb hby hd)
  rw [clamp_of hi] at W
  exact go_by st (r T' h' ⟨_, X', Fr.snoc X' N ga, e'⟩ (A0.set hlt W) (Keep.of_wr W))
theorem g_bastoreB (X : St p l e R s m args below meth c n0 T h cells slots) (C : Cx p s m meth c Z bytes maxL ret own nme) {a : Addr} {n i : Nat} {fn : Nat → Value} {j : Int32} {x : Int32} (A : Ar Z h a .byte n fn) (hi : j.toInt = i) (hlt : i < n) (ga : n0 ≤ a) (hd : decode bytes pc = .ok (.bastore, 1)) (hp : pc + 1 = pc') (r : ∀ T' h', St p l e R s m args below meth c n0 T' h' cells slots → Ar Z h' a .byte n (fun k => if k = i then (.int (nar .byte x)) else fn k) → Keep h h' [a] → Go p e below Rest T' (mkF m pc' L S)) : Go p e below Rest T (mkF m pc L (.int x :: .int j :: .ref a :: S)) := by
  obtain ⟨locs, X, N, eT⟩ := X; obtain ⟨hx, hby, -, -, -, hown, hnm, hZ⟩ := C; subst hp
  have A0 := A
  obtain ⟨cl, A, r1, r2⟩ := A
  obtain ⟨T', h', X', e', W, st⟩ := stB X hx hZ eT A (j := j) (inb hi hlt r1) (g := mkF m pc L (.int x :: .int j :: .ref a :: S)) rfl rfl (hb hby hd)
  rw [clamp_of hi] at W
  exact go_by st (r T' h' ⟨_, X', Fr.snoc X' N ga, e'⟩ (A0.set hlt W) (Keep.of_wr W))
theorem g_bastoreZ (X : St p l e R s m args below meth c n0 T h cells slots) (C : Cx p s m meth c Z bytes maxL ret own nme) {a : Addr} {n i : Nat} {fn : Nat → Value} {j : Int32} {x : Int32} (A : Ar Z h a .boolean n fn) (hi : j.toInt = i) (hlt : i < n) (ga : n0 ≤ a) (hd : decode bytes pc = .ok (.bastore, 1)) (hp : pc + 1 = pc') (r : ∀ T' h', St p l e R s m args below meth c n0 T' h' cells slots → Ar Z h' a .boolean n (fun k => if k = i then (.int (nar .boolean x)) else fn k) → Keep h h' [a] → Go p e below Rest T' (mkF m pc' L S)) : Go p e below Rest T (mkF m pc L (.int x :: .int j :: .ref a :: S)) := by
  obtain ⟨locs, X, N, eT⟩ := X; obtain ⟨hx, hby, -, -, -, hown, hnm, hZ⟩ := C; subst hp
  have A0 := A
  obtain ⟨cl, A, r1, r2⟩ := A
  obtain ⟨T', h', X', e', W, st⟩ := stZ X hx hZ eT A (j := j) (inb hi hlt r1) (g := mkF m pc L (.int x :: .int j :: .ref a :: S)) rfl rfl (hb hby hd)
  rw [clamp_of hi] at W
  exact go_by st (r T' h' ⟨_, X', Fr.snoc X' N ga, e'⟩ (A0.set hlt W) (Keep.of_wr W))
theorem g_initO (X : St p l e R s m args below meth c n0 T h cells slots) (C : Cx p s m meth c Z bytes maxL ret own nme) {index : Nat} {a : Addr} {W : Nat} (w1 : (Jvm.Cond.methodLink own index Lib.objectInit).before a0 Z = true) (w2 : (Jvm.Cond.instanceMethod Lib.objectInit).before a0 Z = true) (w3 : (Jvm.Cond.code Lib.objectInit ⟨#[0xb1]⟩ 1 none).before a0 Z = true) (hsz : L.size = maxL) (hW : (S.map fun v => v.category).sum = W) (hf : 1 ≤ R.frames) (hl : W + 12 ≤ R.locals) (hd : decode bytes pc = .ok (.invokespecial index, 3)) (hp : pc + 3 = pc') (r : ∀ T', St p l e R s m args below meth c n0 T' h cells slots → Go p e below Rest T' (mkF m pc' L S)) : Go p e below Rest T (mkF m pc L (.ref a :: S)) := by
  obtain ⟨locs, X, N, eT⟩ := X; obtain ⟨hx, hby, hml, -, -, hown, hnm, hZ⟩ := C; subst hp
  obtain ⟨T', X', e', st⟩ := initO X hx hZ hown w1 w2 w3 eT (g := mkF m pc L (.ref a :: S)) rfl (by rw [hml]; exact hsz) rfl (hb hby hd) hf (W := W) (by show 2 * 0 + _ ≤ _; omega) hl
  exact go_by st (r T' ⟨locs, X', N, e'⟩)
theorem g_static (X : St p l e R s m args below meth c n0 T h cells slots) (C : Cx p s m meth c Z bytes maxL ret own nme) {y : MethodName} {bytes' : ByteArray} {maxL' : Nat} {ret' : Option FieldType} {rm : Room} {as : Array Value} {Q : Option Value → Heap → Prop} {index : Nat} {W : Nat} {argsL rest : List Value} {ps : List FieldType} {rt : Option FieldType} (hM : Ctr l y bytes' maxL' ret' rm Z n0 as h Q []) (w1 : (Jvm.Cond.methodLink own index y).before a0 Z = true) (w2 : (Jvm.Cond.static y).before a0 Z = true) (w3 : (Jvm.Cond.initialized y.cls).before a0 Z = true) (w4 : (Jvm.Cond.code y bytes' maxL' ret').before a0 Z = true) (hy : y.cls ≠ "java/lang/invoke/MethodHandle" ∧ y.cls ≠ "java/lang/invoke/VarHandle") (pd : parseMethodDescriptor y.desc = some ⟨ps, rt⟩) (hal : argsL.length = ps.length) (has : argsL.toArray = as) (hs : S = argsL.reverse ++ rest) (hsz : L.size = maxL) (hW : (rest.map fun v => v.category).sum = W) (hf : rm.frames + 1 ≤ R.frames) (hl : W + (maxL' + 11) + rm.locals ≤ R.locals) (hc : cells + rm.cells ≤ R.cells) (hsl : slots + rm.slots ≤ R.slots) (hd : decode bytes pc = .ok (.invokestatic index, 3)) (hp : pc + 3 = pc') (r : ∀ v T' h', Q v h' → St p l e R s m args below meth c n0 T' h' (cells + rm.cells) (slots + rm.slots) → Go p e below Rest T' (mkF m pc' L (v.toList ++ rest))) : Go p e below Rest T (mkF m pc L S) := by
  obtain ⟨locs, X, N, eT⟩ := X; obtain ⟨hx, hby, hml, -, -, hown, hnm, hZ⟩ := C; subst hp
  obtain ⟨v, _, ⟨T', L1, k1, n1⟩, -, X', ⟨Lc, ⟨hQ, hN⟩, l1, y1, z1⟩, st⟩ := Jvm.LawKit.callS X hx (y := y) hown (mvT hZ w1) (mvT hZ w2) (mvT hZ w3) (mvT hZ w4) hy (backOf (W := W) (Q := fun v h L => Q v h ∧ Fr n0 L) hM hZ w4 w3 hf hl) (g := mkF m pc L S) rfl (by rw [hml]; exact hsz) (argsL := argsL) (rest := rest) (lenOf pd hal) hs (by show 2 * 0 + _ ≤ _; omega) (hb hby hd) (fun _ _ => ⟨has, eT, hc, hsl⟩)
  dsimp only [Pt.U, Pt.locs, Pt.cells, Pt.slots] at X' l1 y1 z1 st hQ
  subst l1 y1 z1
  exact go_by st (r v T' _ hQ ⟨_, X', Fr.app N hN, rfl⟩)
theorem g_special (X : St p l e R s m args below meth c n0 T h cells slots) (C : Cx p s m meth c Z bytes maxL ret own nme) {y : MethodName} {bytes' : ByteArray} {maxL' : Nat} {ret' : Option FieldType} {rm : Room} {as : Array Value} {Q : Option Value → Heap → Prop} {index : Nat} {W : Nat} {argsL rest : List Value} {ps : List FieldType} {rt : Option FieldType} (hM : Ctr l y bytes' maxL' ret' rm Z n0 as h Q []) {a : Addr} (hy1 : y.name = "<init>") (hret : ret' = none) (w1 : (Jvm.Cond.methodLink own index y).before a0 Z = true) (w2 : (Jvm.Cond.instanceMethod y).before a0 Z = true) (w3 : (Jvm.Cond.initialized y.cls).before a0 Z = true) (w4 : (Jvm.Cond.code y bytes' maxL' ret').before a0 Z = true) (hy : y.cls ≠ "java/lang/invoke/MethodHandle" ∧ y.cls ≠ "java/lang/invoke/VarHandle") (pd : parseMethodDescriptor y.desc = some ⟨ps, rt⟩) (hal : argsL.length = ps.length) (has : (.ref a :: argsL).toArray = as) (hs : S = argsL.reverse ++ .ref a :: rest) (hsz : L.size = maxL) (hW : (rest.map fun v => v.category).sum = W) (hf : rm.frames + 1 ≤ R.frames) (hl : W + (maxL' + 11) + rm.locals ≤ R.locals) (hc : cells + rm.cells ≤ R.cells) (hsl : slots + rm.slots ≤ R.slots) (hd : decode bytes pc = .ok (.invokespecial index, 3)) (hp : pc + 3 = pc') (r : ∀ v T' h', Q v h' → St p l e R s m args below meth c n0 T' h' (cells + rm.cells) (slots + rm.slots) → Go p e below Rest T' (mkF m pc' L (v.toList ++ rest))) : Go p e below Rest T (mkF m pc L S) := by
  obtain ⟨locs, X, N, eT⟩ := X; obtain ⟨hx, hby, hml, -, -, hown, hnm, hZ⟩ := C; subst hp hret
  obtain ⟨v, _, ⟨T', L1, k1, n1⟩, -, X', ⟨Lc, ⟨hQ, hN⟩, l1, y1, z1⟩, st⟩ := X.specialBack hx (y := y) hy1 hown (mvT hZ w1) (mvT hZ w2) (mvT hZ w4) hy (backOf (W := W) (Q := fun v h L => Q v h ∧ Fr n0 L) hM hZ w4 w3 hf hl) (g := mkF m pc L S) rfl (by rw [hml]; exact hsz) (Steps.refl _) (a := a) (argsL := argsL) (rest := rest) (lenOf pd hal) hs (by show 2 * 0 + _ ≤ _; omega) (hb hby hd) (fun _ _ => ⟨has, eT, hc, hsl⟩)
  dsimp only [Pt.U, Pt.locs, Pt.cells, Pt.slots] at X' l1 y1 z1 st hQ
  subst l1 y1 z1
  exact go_tr st (r v T' _ hQ ⟨_, X', Fr.app N hN, rfl⟩)
theorem g_virtual (X : St p l e R s m args below meth c n0 T h cells slots) (C : Cx p s m meth c Z bytes maxL ret own nme) {y : MethodName} {bytes' : ByteArray} {maxL' : Nat} {ret' : Option FieldType} {rm : Room} {as : Array Value} {Q : Option Value → Heap → Prop} {index : Nat} {W : Nat} {argsL rest : List Value} {ps : List FieldType} {rt : Option FieldType} (hM : Ctr l y bytes' maxL' ret' rm Z n0 as h Q []) {a : Addr} (Ex : Exa Z h a y.cls) (w1 : (Jvm.Cond.methodLink own index y).before a0 Z = true) (w2 : (Jvm.Cond.declares y).before a0 Z = true) (ws : (Jvm.Cond.selects y.cls y y).before a0 Z = true) (wi : (Jvm.Cond.instanceMethod y).before a0 Z = true) (w3 : (Jvm.Cond.initialized y.cls).before a0 Z = true) (w4 : (Jvm.Cond.code y bytes' maxL' ret').before a0 Z = true) (hy : y.cls ≠ "java/lang/invoke/MethodHandle" ∧ y.cls ≠ "java/lang/invoke/VarHandle") (pd : parseMethodDescriptor y.desc = some ⟨ps, rt⟩) (hal : argsL.length = ps.length) (has : (.ref a :: argsL).toArray = as) (hs : S = argsL.reverse ++ .ref a :: rest) (hsz : L.size = maxL) (hW : (rest.map fun v => v.category).sum = W) (hf : rm.frames + 1 ≤ R.frames) (hl : W + (maxL' + 11) + rm.locals ≤ R.locals) (hc : cells + rm.cells ≤ R.cells) (hsl : slots + rm.slots ≤ R.slots) (hd : decode bytes pc = .ok (.invokevirtual index, 3)) (hp : pc + 3 = pc') (r : ∀ v T' h', Q v h' → St p l e R s m args below meth c n0 T' h' (cells + rm.cells) (slots + rm.slots) → Go p e below Rest T' (mkF m pc' L (v.toList ++ rest))) : Go p e below Rest T (mkF m pc L S) := by
  obtain ⟨locs, X, N, eT⟩ := X; obtain ⟨hx, hby, hml, -, -, hown, hnm, hZ⟩ := C; subst hp
  obtain ⟨cq, kq, qa, qb, qc⟩ := isOf hZ eT Ex
  obtain ⟨v, _, ⟨T', L1, k1, n1⟩, -, X', ⟨Lc, ⟨hQ, hN⟩, l1, y1, z1⟩, st⟩ := X.virtualBack hx (y := y) (z := y) hown (mvT hZ w1) (mvT hZ w2) (notFace_of_selects (args := #[]) (mvT hZ ws)) (mvT hZ ws) (mvT hZ wi) hy (backOf (W := W) (Q := fun v h L => Q v h ∧ Fr n0 L) hM hZ w4 w3 hf hl) qa qc (g := mkF m pc L S) rfl (by rw [hml]; exact hsz) (Steps.refl _) (argsL := argsL) (rest := rest) (lenOf pd hal) hs (by show 2 * 0 + _ ≤ _; omega) (hb hby hd) (fun _ _ => ⟨has, eT, hc, hsl⟩)
  dsimp only [Pt.U, Pt.locs, Pt.cells, Pt.slots] at X' l1 y1 z1 st hQ
  subst l1 y1 z1
  exact go_tr st (r v T' _ hQ ⟨_, X', Fr.app N hN, rfl⟩)
theorem g_retI {z : Int32} (X : St p l e R s m args below meth c n0 T h cells slots) (C : Cx p s m meth c Z bytes maxL (some .int) own nme) {Q : Option Value → Heap → Prop} {k n : Nat} (hd : decode bytes pc = .ok (.ireturn, 1)) (hQ : Q (some (.int z)) h) (hk : cells ≤ k) (hn : slots ≤ n) : Go p e below (Rs s below n0 Q k n) T (mkF m pc L (.int z :: S)) := by
  obtain ⟨locs, X, N, eT⟩ := X; obtain ⟨hx, hby, -, hret, hlk, -⟩ := C
  obtain ⟨fs, hr, hrun, hended, hW, hsame⟩ := X.leave (v := (some (.int z))) (fun q => by first | rfl | (rw [hret] at q; cases q)) hlk
  refine ⟨_, _, ?_, hrun, hended, _, _, rfl, ⟨?_, N⟩, ⟨_, rfl⟩, hW, hsame.mono hk hn⟩
  · exact retOut X hx hret rfl (Or.inl ⟨rfl, Or.inl rfl, z, rfl⟩) (hb hby hd) hr
  · show Q _ T.heap; rw [eT]; exact hQ
theorem g_retJ {z : Int64} (X : St p l e R s m args below meth c n0 T h cells slots) (C : Cx p s m meth c Z bytes maxL (some .long) own nme) {Q : Option Value → Heap → Prop} {k n : Nat} (hd : decode bytes pc = .ok (.lreturn, 1)) (hQ : Q (some (.long z)) h) (hk : cells ≤ k) (hn : slots ≤ n) : Go p e below (Rs s below n0 Q k n) T (mkF m pc L (.long z :: S)) := by
  obtain ⟨locs, X, N, eT⟩ := X; obtain ⟨hx, hby, -, hret, hlk, -⟩ := C
  obtain ⟨fs, hr, hrun, hended, hW, hsame⟩ := X.leave (v := (some (.long z))) (fun q => by first | rfl | (rw [hret] at q; cases q)) hlk
  refine ⟨_, _, ?_, hrun, hended, _, _, rfl, ⟨?_, N⟩, ⟨_, rfl⟩, hW, hsame.mono hk hn⟩
  · exact retOut X hx hret rfl (Or.inr (Or.inl ⟨rfl, rfl, z, rfl⟩)) (hb hby hd) hr
  · show Q _ T.heap; rw [eT]; exact hQ
theorem g_retZ {z : Int32} (X : St p l e R s m args below meth c n0 T h cells slots) (C : Cx p s m meth c Z bytes maxL (some .boolean) own nme) {Q : Option Value → Heap → Prop} {k n : Nat} (hd : decode bytes pc = .ok (.ireturn, 1)) (hQ : Q (some (.int (nar .boolean z))) h) (hk : cells ≤ k) (hn : slots ≤ n) : Go p e below (Rs s below n0 Q k n) T (mkF m pc L (.int z :: S)) := by
  obtain ⟨locs, X, N, eT⟩ := X; obtain ⟨hx, hby, -, hret, hlk, -⟩ := C
  obtain ⟨fs, hr, hrun, hended, hW, hsame⟩ := X.leave (v := (some (.int (nar .boolean z)))) (fun q => by first | rfl | (rw [hret] at q; cases q)) hlk
  refine ⟨_, _, ?_, hrun, hended, _, _, rfl, ⟨?_, N⟩, ⟨_, rfl⟩, hW, hsame.mono hk hn⟩
  · exact retN X hx (t := .boolean) hret (by simp) (hb hby hd) hr
  · show Q _ T.heap; rw [eT]; exact hQ
theorem g_retB {z : Int32} (X : St p l e R s m args below meth c n0 T h cells slots) (C : Cx p s m meth c Z bytes maxL (some .byte) own nme) {Q : Option Value → Heap → Prop} {k n : Nat} (hd : decode bytes pc = .ok (.ireturn, 1)) (hQ : Q (some (.int (nar .byte z))) h) (hk : cells ≤ k) (hn : slots ≤ n) : Go p e below (Rs s below n0 Q k n) T (mkF m pc L (.int z :: S)) := by
  obtain ⟨locs, X, N, eT⟩ := X; obtain ⟨hx, hby, -, hret, hlk, -⟩ := C
  obtain ⟨fs, hr, hrun, hended, hW, hsame⟩ := X.leave (v := (some (.int (nar .byte z)))) (fun q => by first | rfl | (rw [hret] at q; cases q)) hlk
  refine ⟨_, _, ?_, hrun, hended, _, _, rfl, ⟨?_, N⟩, ⟨_, rfl⟩, hW, hsame.mono hk hn⟩
  · exact retN X hx (t := .byte) hret (by simp) (hb hby hd) hr
  · show Q _ T.heap; rw [eT]; exact hQ
theorem g_retV  (X : St p l e R s m args below meth c n0 T h cells slots) (C : Cx p s m meth c Z bytes maxL none own nme) {Q : Option Value → Heap → Prop} {k n : Nat} (hd : decode bytes pc = .ok (.return_, 1)) (hQ : Q none h) (hk : cells ≤ k) (hn : slots ≤ n) : Go p e below (Rs s below n0 Q k n) T (mkF m pc L []) := by
  obtain ⟨locs, X, N, eT⟩ := X; obtain ⟨hx, hby, -, hret, hlk, -⟩ := C
  obtain ⟨fs, hr, hrun, hended, hW, hsame⟩ := X.leave (v := none) (fun q => by first | rfl | (rw [hret] at q; cases q)) hlk
  refine ⟨_, _, ?_, hrun, hended, _, _, rfl, ⟨?_, N⟩, ⟨_, rfl⟩, hW, hsame.mono hk hn⟩
  · exact X.returnOut hx hret (hb hby hd) hr
  · show Q _ T.heap; rw [eT]; exact hQ
theorem g_retA {v : Value} {ty : FieldType} (X : St p l e R s m args below meth c n0 T h cells slots) (C : Cx p s m meth c Z bytes maxL (some ty) own nme) {Q : Option Value → Heap → Prop} {k n : Nat} (hd : decode bytes pc = .ok (.areturn, 1)) (ht : ty.isReference = true) (hv : v.isRef = true) (hQ : Q (some v) h) (hk : cells ≤ k) (hn : slots ≤ n) : Go p e below (Rs s below n0 Q k n) T (mkF m pc L (v :: S)) := by
  obtain ⟨locs, X, N, eT⟩ := X; obtain ⟨hx, hby, -, hret, hlk, -⟩ := C
  obtain ⟨fs, hr, hrun, hended, hW, hsame⟩ := X.leave (v := (some v)) (fun q => by first | rfl | (rw [hret] at q; cases q)) hlk
  refine ⟨_, _, ?_, hrun, hended, _, _, rfl, ⟨?_, N⟩, ⟨_, rfl⟩, hW, hsame.mono hk hn⟩
  · exact retOut X hx hret (by cases ty <;> cases v <;> simp_all [narrow, FieldType.isReference, Value.isRef]) (Or.inr (Or.inr (Or.inr (Or.inr ⟨rfl, ht, hv⟩)))) (hb hby hd) hr
  · show Q _ T.heap; rw [eT]; exact hQ
end Lay
end Jvm.Own
namespace Jvm.Pilot.@@N@@
open Jvm Jvm.ClassFile Sem Op Lib Jvm.Free Jvm.Stand Jvm.LawKit Jvm.RoadKit Jvm.Own Bundle Jvm.Pilot.@@N@@.Jvm.D
def own_sl (x : Int32) : Int64 := (1 : Int64) <<< (x &&& 0x3f).toInt64
def own_m (nd : Nat → Int32) (i : Nat) : Nat → Int64
  | 0 => 0
  | k + 1 => if (nd k).toInt / 64 = i then own_m nd i k ||| own_sl (nd k) else own_m nd i k
def own_bit (w p x : Int32) : Int64 := if p.toInt = 0 ∨ x.toInt / 64 ≠ w.toInt then 0 else own_sl (x % 64)
theorem own_sl64 (x : Int32) (h0 : 0 ≤ x.toInt) : own_sl (x % 64) = own_sl x := by
  have h1 : (x % 64) &&& 0x3f = x &&& 0x3f := by
    apply Int32.toInt_inj.mp
    have g1 := c_mask (x % 64) 0x3f 6 (by decide) (by decide)
    have g2 := c_mask x 0x3f 6 (by decide) (by decide)
    have g3 := (c_irem x 64 64 (by decide)).1 h0
    rw [g1, g2, g3]; simp only [Nat.reducePow]; omega
  simp only [own_sl, h1]

def NS_CT : List (String × String) := [("times", "[J"), ("stretches", "[Lorg/foreslot/planning/ClusterTimeline$Stretch;"), ("unbooked", "[I"), ("floor", "J"), ("losses", "J"), ("markedFrom", "J"), ("markedUntil", "J"), ("nodes", "I"), ("words", "I"), ("lastWord", "J"), ("found", "[J"), ("pending", "[J"), ("clear", "[J"), ("markedNodes", "[J"), ("startsFound", "[Lorg/foreslot/planning/ClusterTimeline$Starts;")]
theorem CF_CT {Z : State} {a0 : Array Value} (hw : ∀ d ∈ tables_1, d.before a0 Z = true) : CF Z a0 "org/foreslot/planning/ClusterTimeline" NS_CT 17 := by
  refine ⟨by decide, fun x hx => ?_, (hw _ (List.mem_of_getElem? (i := 3) rfl))⟩
  simp only [NS_CT, List.mem_cons, List.not_mem_nil, or_false] at hx
  rcases hx with rfl | rfl | rfl | rfl | rfl | rfl | rfl | rfl | rfl | rfl | rfl | rfl | rfl | rfl | rfl
  · exact ⟨Or.inl (hw _ (List.mem_of_getElem? (i := 13) rfl)), by decide⟩
  · exact ⟨Or.inl (hw _ (List.mem_of_getElem? (i := 17) rfl)), by decide⟩
  · exact ⟨Or.inl (hw _ (List.mem_of_getElem? (i := 19) rfl)), by decide⟩
  · exact ⟨Or.inl (hw _ (List.mem_of_getElem? (i := 22) rfl)), by decide⟩
  · exact ⟨Or.inl (hw _ (List.mem_of_getElem? (i := 24) rfl)), by decide⟩
  · exact ⟨Or.inl (hw _ (List.mem_of_getElem? (i := 27) rfl)), by decide⟩
  · exact ⟨Or.inl (hw _ (List.mem_of_getElem? (i := 29) rfl)), by decide⟩
  · exact ⟨Or.inr (hw _ (List.mem_of_getElem? (i := 31) rfl)), by decide⟩
  · exact ⟨Or.inr (hw _ (List.mem_of_getElem? (i := 33) rfl)), by decide⟩
  · exact ⟨Or.inr (hw _ (List.mem_of_getElem? (i := 36) rfl)), by decide⟩
  · exact ⟨Or.inr (hw _ (List.mem_of_getElem? (i := 38) rfl)), by decide⟩
  · exact ⟨Or.inr (hw _ (List.mem_of_getElem? (i := 40) rfl)), by decide⟩
  · exact ⟨Or.inr (hw _ (List.mem_of_getElem? (i := 42) rfl)), by decide⟩
  · exact ⟨Or.inr (hw _ (List.mem_of_getElem? (i := 44) rfl)), by decide⟩
  · exact ⟨Or.inr (hw _ (List.mem_of_getElem? (i := 48) rfl)), by decide⟩
theorem os_7_6 {s0 s1 s2 s3 s4 s5 s6 : Slot} {v : Int32} (h : One s6) : storeLocals #[s0, s1, s2, s3, s4, s5, s6] 6 (.int v) = some #[s0, s1, s2, s3, s4, s5, .val (.int v)] := by
  rcases h with rfl | ⟨w, rfl, hw⟩
  · rfl
  · cases w <;> first | rfl | (simp [Value.category] at hw)
theorem d1_0 : decode prog_29_method_1_code 0 = .ok (.aload_n 0, 1) := by decide +kernel
theorem d1_1 : decode prog_29_method_1_code 1 = .ok (.invokespecial 1, 3) := by decide +kernel
theorem d1_4 : decode prog_29_method_1_code 4 = .ok (.aload_n 0, 1) := by decide +kernel
theorem d1_5 : decode prog_29_method_1_code 5 = .ok (.bipush 16, 2) := by decide +kernel
theorem d1_7 : decode prog_29_method_1_code 7 = .ok (.newarray .long, 2) := by decide +kernel
theorem d1_9 : decode prog_29_method_1_code 9 = .ok (.putfield 7, 3) := by decide +kernel
theorem d1_12 : decode prog_29_method_1_code 12 = .ok (.aload_n 0, 1) := by decide +kernel
theorem d1_13 : decode prog_29_method_1_code 13 = .ok (.bipush 16, 2) := by decide +kernel
theorem d1_15 : decode prog_29_method_1_code 15 = .ok (.anewarray 13, 3) := by decide +kernel
theorem d1_18 : decode prog_29_method_1_code 18 = .ok (.putfield 15, 3) := by decide +kernel
theorem d1_21 : decode prog_29_method_1_code 21 = .ok (.aload_n 0, 1) := by decide +kernel
theorem d1_22 : decode prog_29_method_1_code 22 = .ok (.bipush 16, 2) := by decide +kernel
theorem d1_24 : decode prog_29_method_1_code 24 = .ok (.newarray .int, 2) := by decide +kernel
theorem d1_26 : decode prog_29_method_1_code 26 = .ok (.putfield 19, 3) := by decide +kernel
theorem d1_29 : decode prog_29_method_1_code 29 = .ok (.aload_n 0, 1) := by decide +kernel
theorem d1_30 : decode prog_29_method_1_code 30 = .ok (.ldc2_w 25, 3) := by decide +kernel
theorem d1_33 : decode prog_29_method_1_code 33 = .ok (.putfield 27, 3) := by decide +kernel
theorem d1_36 : decode prog_29_method_1_code 36 = .ok (.aload_n 0, 1) := by decide +kernel
theorem d1_37 : decode prog_29_method_1_code 37 = .ok (.lconst 1, 1) := by decide +kernel
theorem d1_38 : decode prog_29_method_1_code 38 = .ok (.putfield 31, 3) := by decide +kernel
theorem d1_41 : decode prog_29_method_1_code 41 = .ok (.aload_n 0, 1) := by decide +kernel
theorem d1_42 : decode prog_29_method_1_code 42 = .ok (.ldc2_w 34, 3) := by decide +kernel
theorem d1_45 : decode prog_29_method_1_code 45 = .ok (.putfield 36, 3) := by decide +kernel
theorem d1_48 : decode prog_29_method_1_code 48 = .ok (.aload_n 0, 1) := by decide +kernel
theorem d1_49 : decode prog_29_method_1_code 49 = .ok (.ldc2_w 25, 3) := by decide +kernel
theorem d1_52 : decode prog_29_method_1_code 52 = .ok (.putfield 39, 3) := by decide +kernel
theorem d1_55 : decode prog_29_method_1_code 55 = .ok (.aload_n 0, 1) := by decide +kernel
theorem d1_56 : decode prog_29_method_1_code 56 = .ok (.iload_n 1, 1) := by decide +kernel
theorem d1_57 : decode prog_29_method_1_code 57 = .ok (.putfield 42, 3) := by decide +kernel
theorem d1_60 : decode prog_29_method_1_code 60 = .ok (.aload_n 0, 1) := by decide +kernel
theorem d1_61 : decode prog_29_method_1_code 61 = .ok (.iload_n 1, 1) := by decide +kernel
theorem d1_62 : decode prog_29_method_1_code 62 = .ok (.bipush 64, 2) := by decide +kernel
theorem d1_64 : decode prog_29_method_1_code 64 = .ok (.iadd, 1) := by decide +kernel
theorem d1_65 : decode prog_29_method_1_code 65 = .ok (.iconst 1, 1) := by decide +kernel
theorem d1_66 : decode prog_29_method_1_code 66 = .ok (.isub, 1) := by decide +kernel
theorem d1_67 : decode prog_29_method_1_code 67 = .ok (.bipush 64, 2) := by decide +kernel
theorem d1_69 : decode prog_29_method_1_code 69 = .ok (.idiv, 1) := by decide +kernel
theorem d1_70 : decode prog_29_method_1_code 70 = .ok (.putfield 46, 3) := by decide +kernel
theorem d1_73 : decode prog_29_method_1_code 73 = .ok (.aload_n 0, 1) := by decide +kernel
theorem d1_74 : decode prog_29_method_1_code 74 = .ok (.iload_n 1, 1) := by decide +kernel
theorem d1_75 : decode prog_29_method_1_code 75 = .ok (.bipush 64, 2) := by decide +kernel
theorem d1_77 : decode prog_29_method_1_code 77 = .ok (.irem, 1) := by decide +kernel
theorem d1_78 : decode prog_29_method_1_code 78 = .ok (.ifCond .ne 9, 3) := by decide +kernel
theorem d1_81 : decode prog_29_method_1_code 81 = .ok (.ldc2_w 49, 3) := by decide +kernel
theorem d1_84 : decode prog_29_method_1_code 84 = .ok (.goto 11, 3) := by decide +kernel
theorem d1_87 : decode prog_29_method_1_code 87 = .ok (.lconst 1, 1) := by decide +kernel
theorem d1_88 : decode prog_29_method_1_code 88 = .ok (.iload_n 1, 1) := by decide +kernel
theorem d1_89 : decode prog_29_method_1_code 89 = .ok (.bipush 64, 2) := by decide +kernel
theorem d1_91 : decode prog_29_method_1_code 91 = .ok (.irem, 1) := by decide +kernel
theorem d1_92 : decode prog_29_method_1_code 92 = .ok (.lshl, 1) := by decide +kernel
theorem d1_93 : decode prog_29_method_1_code 93 = .ok (.lconst 1, 1) := by decide +kernel
theorem d1_94 : decode prog_29_method_1_code 94 = .ok (.lsub, 1) := by decide +kernel
theorem d1_95 : decode prog_29_method_1_code 95 = .ok (.putfield 51, 3) := by decide +kernel
theorem d1_98 : decode prog_29_method_1_code 98 = .ok (.aload_n 0, 1) := by decide +kernel
theorem d1_99 : decode prog_29_method_1_code 99 = .ok (.aload_n 0, 1) := by decide +kernel
theorem d1_100 : decode prog_29_method_1_code 100 = .ok (.getfield 46, 3) := by decide +kernel
theorem d1_103 : decode prog_29_method_1_code 103 = .ok (.newarray .long, 2) := by decide +kernel
theorem d1_105 : decode prog_29_method_1_code 105 = .ok (.putfield 54, 3) := by decide +kernel
theorem d1_108 : decode prog_29_method_1_code 108 = .ok (.aload_n 0, 1) := by decide +kernel
theorem d1_109 : decode prog_29_method_1_code 109 = .ok (.aload_n 0, 1) := by decide +kernel
theorem d1_110 : decode prog_29_method_1_code 110 = .ok (.getfield 46, 3) := by decide +kernel
theorem d1_113 : decode prog_29_method_1_code 113 = .ok (.newarray .long, 2) := by decide +kernel
theorem d1_115 : decode prog_29_method_1_code 115 = .ok (.putfield 57, 3) := by decide +kernel
theorem d1_118 : decode prog_29_method_1_code 118 = .ok (.aload_n 0, 1) := by decide +kernel
theorem d1_119 : decode prog_29_method_1_code 119 = .ok (.aload_n 0, 1) := by decide +kernel
theorem d1_120 : decode prog_29_method_1_code 120 = .ok (.getfield 46, 3) := by decide +kernel
theorem d1_123 : decode prog_29_method_1_code 123 = .ok (.newarray .long, 2) := by decide +kernel
theorem d1_125 : decode prog_29_method_1_code 125 = .ok (.putfield 60, 3) := by decide +kernel
theorem d1_128 : decode prog_29_method_1_code 128 = .ok (.aload_n 0, 1) := by decide +kernel
theorem d1_129 : decode prog_29_method_1_code 129 = .ok (.aload_n 0, 1) := by decide +kernel
theorem d1_130 : decode prog_29_method_1_code 130 = .ok (.getfield 46, 3) := by decide +kernel
theorem d1_133 : decode prog_29_method_1_code 133 = .ok (.newarray .long, 2) := by decide +kernel
theorem d1_135 : decode prog_29_method_1_code 135 = .ok (.putfield 63, 3) := by decide +kernel
theorem d1_138 : decode prog_29_method_1_code 138 = .ok (.aload_n 0, 1) := by decide +kernel
theorem d1_139 : decode prog_29_method_1_code 139 = .ok (.iload_n 1, 1) := by decide +kernel
theorem d1_140 : decode prog_29_method_1_code 140 = .ok (.iconst 1, 1) := by decide +kernel
theorem d1_141 : decode prog_29_method_1_code 141 = .ok (.iadd, 1) := by decide +kernel
theorem d1_142 : decode prog_29_method_1_code 142 = .ok (.anewarray 66, 3) := by decide +kernel
theorem d1_145 : decode prog_29_method_1_code 145 = .ok (.putfield 68, 3) := by decide +kernel
theorem d1_148 : decode prog_29_method_1_code 148 = .ok (.return_, 1) := by decide +kernel
theorem d3_0 : decode prog_29_method_7_code 0 = .ok (.aload_n 0, 1) := by decide +kernel
theorem d3_1 : decode prog_29_method_7_code 1 = .ok (.getfield 46, 3) := by decide +kernel
theorem d3_4 : decode prog_29_method_7_code 4 = .ok (.newarray .long, 2) := by decide +kernel
theorem d3_6 : decode prog_29_method_7_code 6 = .ok (.astore_n 2, 1) := by decide +kernel
theorem d3_7 : decode prog_29_method_7_code 7 = .ok (.aload_n 1, 1) := by decide +kernel
theorem d3_8 : decode prog_29_method_7_code 8 = .ok (.astore_n 3, 1) := by decide +kernel
theorem d3_9 : decode prog_29_method_7_code 9 = .ok (.aload_n 3, 1) := by decide +kernel
theorem d3_10 : decode prog_29_method_7_code 10 = .ok (.arraylength, 1) := by decide +kernel
theorem d3_11 : decode prog_29_method_7_code 11 = .ok (.istore 4, 2) := by decide +kernel
theorem d3_13 : decode prog_29_method_7_code 13 = .ok (.iconst 0, 1) := by decide +kernel
theorem d3_14 : decode prog_29_method_7_code 14 = .ok (.istore 5, 2) := by decide +kernel
theorem d3_16 : decode prog_29_method_7_code 16 = .ok (.iload 5, 2) := by decide +kernel
theorem d3_18 : decode prog_29_method_7_code 18 = .ok (.iload 4, 2) := by decide +kernel
theorem d3_20 : decode prog_29_method_7_code 20 = .ok (.if_icmp .ge 29, 3) := by decide +kernel
theorem d3_23 : decode prog_29_method_7_code 23 = .ok (.aload_n 3, 1) := by decide +kernel
theorem d3_24 : decode prog_29_method_7_code 24 = .ok (.iload 5, 2) := by decide +kernel
theorem d3_26 : decode prog_29_method_7_code 26 = .ok (.iaload, 1) := by decide +kernel
theorem d3_27 : decode prog_29_method_7_code 27 = .ok (.istore 6, 2) := by decide +kernel
theorem d3_29 : decode prog_29_method_7_code 29 = .ok (.aload_n 2, 1) := by decide +kernel
theorem d3_30 : decode prog_29_method_7_code 30 = .ok (.iload 6, 2) := by decide +kernel
theorem d3_32 : decode prog_29_method_7_code 32 = .ok (.bipush 64, 2) := by decide +kernel
theorem d3_34 : decode prog_29_method_7_code 34 = .ok (.idiv, 1) := by decide +kernel
theorem d3_35 : decode prog_29_method_7_code 35 = .ok (.dup2, 1) := by decide +kernel
theorem d3_36 : decode prog_29_method_7_code 36 = .ok (.laload, 1) := by decide +kernel
theorem d3_37 : decode prog_29_method_7_code 37 = .ok (.lconst 1, 1) := by decide +kernel
theorem d3_38 : decode prog_29_method_7_code 38 = .ok (.iload 6, 2) := by decide +kernel
theorem d3_40 : decode prog_29_method_7_code 40 = .ok (.lshl, 1) := by decide +kernel
theorem d3_41 : decode prog_29_method_7_code 41 = .ok (.lor, 1) := by decide +kernel
theorem d3_42 : decode prog_29_method_7_code 42 = .ok (.lastore, 1) := by decide +kernel
theorem d3_43 : decode prog_29_method_7_code 43 = .ok (.iinc 5 1, 3) := by decide +kernel
theorem d3_46 : decode prog_29_method_7_code 46 = .ok (.goto (-30), 3) := by decide +kernel
theorem d3_49 : decode prog_29_method_7_code 49 = .ok (.aload_n 2, 1) := by decide +kernel
theorem d3_50 : decode prog_29_method_7_code 50 = .ok (.areturn, 1) := by decide +kernel
theorem d4_0 : decode method_3_code 0 = .ok (.iload_n 1, 1) := by decide +kernel
theorem d4_1 : decode method_3_code 1 = .ok (.aload_n 0, 1) := by decide +kernel
theorem d4_2 : decode method_3_code 2 = .ok (.arraylength, 1) := by decide +kernel
theorem d4_3 : decode method_3_code 3 = .ok (.if_icmp .lt 5, 3) := by decide +kernel
theorem d4_6 : decode method_3_code 6 = .ok (.iconst 1, 1) := by decide +kernel
theorem d4_7 : decode method_3_code 7 = .ok (.ireturn, 1) := by decide +kernel
theorem d4_8 : decode method_3_code 8 = .ok (.iload_n 1, 1) := by decide +kernel
theorem d4_9 : decode method_3_code 9 = .ok (.iload_n 2, 1) := by decide +kernel
theorem d4_10 : decode method_3_code 10 = .ok (.ifCond .le 7, 3) := by decide +kernel
theorem d4_13 : decode method_3_code 13 = .ok (.iconst 1, 1) := by decide +kernel
theorem d4_14 : decode method_3_code 14 = .ok (.goto 4, 3) := by decide +kernel
theorem d4_17 : decode method_3_code 17 = .ok (.iconst 0, 1) := by decide +kernel
theorem d4_18 : decode method_3_code 18 = .ok (.iload_n 3, 1) := by decide +kernel
theorem d4_19 : decode method_3_code 19 = .ok (.invokestatic 23, 3) := by decide +kernel
theorem d4_22 : decode method_3_code 22 = .ok (.iload_n 1, 1) := by decide +kernel
theorem d4_23 : decode method_3_code 23 = .ok (.iload_n 2, 1) := by decide +kernel
theorem d4_24 : decode method_3_code 24 = .ok (.iconst 1, 1) := by decide +kernel
theorem d4_25 : decode method_3_code 25 = .ok (.if_icmp .le 7, 3) := by decide +kernel
theorem d4_28 : decode method_3_code 28 = .ok (.iconst 1, 1) := by decide +kernel
theorem d4_29 : decode method_3_code 29 = .ok (.goto 4, 3) := by decide +kernel
theorem d4_32 : decode method_3_code 32 = .ok (.iconst 0, 1) := by decide +kernel
theorem d4_33 : decode method_3_code 33 = .ok (.iload 4, 2) := by decide +kernel
theorem d4_35 : decode method_3_code 35 = .ok (.invokestatic 23, 3) := by decide +kernel
theorem d4_38 : decode method_3_code 38 = .ok (.lor, 1) := by decide +kernel
theorem d4_39 : decode method_3_code 39 = .ok (.iload_n 1, 1) := by decide +kernel
theorem d4_40 : decode method_3_code 40 = .ok (.iload_n 2, 1) := by decide +kernel
theorem d4_41 : decode method_3_code 41 = .ok (.iconst 2, 1) := by decide +kernel
theorem d4_42 : decode method_3_code 42 = .ok (.if_icmp .le 7, 3) := by decide +kernel
theorem d4_45 : decode method_3_code 45 = .ok (.iconst 1, 1) := by decide +kernel
theorem d4_46 : decode method_3_code 46 = .ok (.goto 4, 3) := by decide +kernel
theorem d4_49 : decode method_3_code 49 = .ok (.iconst 0, 1) := by decide +kernel
theorem d4_50 : decode method_3_code 50 = .ok (.iload 5, 2) := by decide +kernel
theorem d4_52 : decode method_3_code 52 = .ok (.invokestatic 23, 3) := by decide +kernel
theorem d4_55 : decode method_3_code 55 = .ok (.lor, 1) := by decide +kernel
theorem d4_56 : decode method_3_code 56 = .ok (.lstore 6, 2) := by decide +kernel
theorem d4_58 : decode method_3_code 58 = .ok (.aload_n 0, 1) := by decide +kernel
theorem d4_59 : decode method_3_code 59 = .ok (.iload_n 1, 1) := by decide +kernel
theorem d4_60 : decode method_3_code 60 = .ok (.laload, 1) := by decide +kernel
theorem d4_61 : decode method_3_code 61 = .ok (.lload 6, 2) := by decide +kernel
theorem d4_63 : decode method_3_code 63 = .ok (.lcmp, 1) := by decide +kernel
theorem d4_64 : decode method_3_code 64 = .ok (.ifCond .ne 7, 3) := by decide +kernel
theorem d4_67 : decode method_3_code 67 = .ok (.iconst 1, 1) := by decide +kernel
theorem d4_68 : decode method_3_code 68 = .ok (.goto 4, 3) := by decide +kernel
theorem d4_71 : decode method_3_code 71 = .ok (.iconst 0, 1) := by decide +kernel
theorem d4_72 : decode method_3_code 72 = .ok (.ireturn, 1) := by decide +kernel
theorem d5_0 : decode method_4_code 0 = .ok (.iload_n 1, 1) := by decide +kernel
theorem d5_1 : decode method_4_code 1 = .ok (.ifCond .eq 11, 3) := by decide +kernel
theorem d5_4 : decode method_4_code 4 = .ok (.iload_n 2, 1) := by decide +kernel
theorem d5_5 : decode method_4_code 5 = .ok (.bipush 64, 2) := by decide +kernel
theorem d5_7 : decode method_4_code 7 = .ok (.idiv, 1) := by decide +kernel
theorem d5_8 : decode method_4_code 8 = .ok (.iload_n 0, 1) := by decide +kernel
theorem d5_9 : decode method_4_code 9 = .ok (.if_icmp .eq 5, 3) := by decide +kernel
theorem d5_12 : decode method_4_code 12 = .ok (.lconst 0, 1) := by decide +kernel
theorem d5_13 : decode method_4_code 13 = .ok (.lreturn, 1) := by decide +kernel
theorem d5_14 : decode method_4_code 14 = .ok (.lconst 1, 1) := by decide +kernel
theorem d5_15 : decode method_4_code 15 = .ok (.iload_n 2, 1) := by decide +kernel
theorem d5_16 : decode method_4_code 16 = .ok (.bipush 64, 2) := by decide +kernel
theorem d5_18 : decode method_4_code 18 = .ok (.irem, 1) := by decide +kernel
theorem d5_19 : decode method_4_code 19 = .ok (.lshl, 1) := by decide +kernel
theorem d5_20 : decode method_4_code 20 = .ok (.lreturn, 1) := by decide +kernel
theorem pn_0 : plainName "org/foreslot/planning/ClusterTimeline" = true := by first | (simp [plainName, overriddenIn]; done) | decide +kernel
theorem pn_1 : plainName "org/foreslot/planning/ClusterTimelineMaskOfPinLaw" = true := by first | (simp [plainName, overriddenIn]; done) | decide +kernel
theorem pd_0 : parseMethodDescriptor "(IZI)J" = some ⟨[.int, .boolean, .int], some .long⟩ := by decide +kernel
theorem pd_1 : parseMethodDescriptor "(I)V" = some ⟨[.int], none⟩ := by decide +kernel
theorem pd_2 : parseMethodDescriptor "([I)[J" = some ⟨[(.array .int)], some (.array .long)⟩ := by decide +kernel
theorem pd_3 : parseMethodDescriptor "([JIIIII)Z" = some ⟨[(.array .long), .int, .int, .int, .int, .int], some .boolean⟩ := by decide +kernel
theorem ef_rmI (m : MethodId) (a1 : Addr) (p2 : Int32) : entryFrame m #[(.ref a1), (.int p2)] 2 = mkF m 0 #[.val (.ref a1), .val (.int p2)] [] := by first | (simp [entryFrame, mkF, argsToLocals, Value.category]; done) | rfl
set_option maxRecDepth 65536 in
set_option maxHeartbeats 40000000 in
theorem rmI (l : Launch) (Z : State) (a0 : Array Value) (hw : ∀ d ∈ tables_1, d.before a0 Z = true) (a1 : Addr) (p2 : Int32) (n : Nat) (h0 : Heap) (n0 : Nat) (hz0 : n0 ≤ h0.size) (hn : p2.toInt = n) (hn256 : n ≤ 256) (ga_a1 : n0 ≤ a1) (O_a1 : Ob Z h0 a1 "org/foreslot/planning/ClusterTimeline" NS_CT [.null, .null, .null, (.long (0 : Int64)), (.long (0 : Int64)), (.long (0 : Int64)), (.long (0 : Int64)), (.int (0 : Int32)), (.int (0 : Int32)), (.long (0 : Int64)), .null, .null, .null, .null, .null]) (ws : List Jvm.Cond) :
    Ctr l (⟨"org/foreslot/planning/ClusterTimeline", "<init>", "(I)V"⟩ : MethodName) prog_29_method_1_code 2 none ({ frames := 1, cells := 8, slots := 321, locals := 12 } : Room) Z n0 #[(.ref a1), (.int p2)] h0 (fun v h => v = none ∧ Keep h0 h [a1] ∧ ∃ (c1 c2 c3 c4 c5 c6 c7 c8 : Addr) (wv : Int32) (lw : Int64), wv.toInt = ((n + 63) / 64 : Nat) ∧ Ob Z h a1 "org/foreslot/planning/ClusterTimeline" NS_CT [(.ref c1), (.ref c2), (.ref c3), (.long (-9223372036854775808 : Int64)), (.long (1 : Int64)), (.long (9223372036854775807 : Int64)), (.long (-9223372036854775808 : Int64)), (.int p2), (.int wv), (.long lw), (.ref c4), (.ref c5), (.ref c6), (.ref c7), (.ref c8)]) ws := by
  refine ctr_of (plainFor_of_name pn_0) ?_
  intro p e s m below meth c T0 X0 C
  refine go_cast (ef_rmI m a1 p2) ?_
  obtain ⟨RS, hRS⟩ : ∃ RS, RS = Rs s below n0 (fun v h => v = none ∧ Keep h0 h [a1] ∧ ∃ (c1 c2 c3 c4 c5 c6 c7 c8 : Addr) (wv : Int32) (lw : Int64), wv.toInt = ((n + 63) / 64 : Nat) ∧ Ob Z h a1 "org/foreslot/planning/ClusterTimeline" NS_CT [(.ref c1), (.ref c2), (.ref c3), (.long (-9223372036854775808 : Int64)), (.long (1 : Int64)), (.long (9223372036854775807 : Int64)), (.long (-9223372036854775808 : Int64)), (.int p2), (.int wv), (.long lw), (.ref c4), (.ref c5), (.ref c6), (.ref c7), (.ref c8)]) ({ frames := 1, cells := 8, slots := 321, locals := 12 } : Room).cells ({ frames := 1, cells := 8, slots := 321, locals := 12 } : Room).slots := ⟨_, rfl⟩
  suffices HG : Go p e below RS T0 (mkF m 0 #[.val (.ref a1), .val (.int p2)] []) by rw [hRS] at HG; exact HG
  show Go p e below RS T0 (mkF m 0 #[.val (.ref a1), .val (.int p2)] [])
  refine g_aloadN X0 C d1_0 rfl rfl rfl ?_
  refine g_initO (W := 0) X0 C (hw _ (List.mem_of_getElem? (i := 8) rfl)) (hw _ (List.mem_of_getElem? (i := 9) rfl)) (hw _ (List.mem_of_getElem? (i := 10) rfl)) rfl rfl (by decide) (by decide) d1_1 rfl (fun T1 X2 => ?_)
  refine g_aloadN X2 C d1_4 rfl rfl rfl ?_
  refine g_bipush (v := 16) X2 C d1_5 (by decide) rfl ?_
  refine g_newarr (n := 16) (cap := 16) X2 C (hw _ (List.mem_of_getElem? (i := 11) rfl)) (by decide) (by decide) (by decide) (by decide) (by decide) d1_7 rfl (fun T3 h5 b7 hb8 X4 A_b7 K6 => ?_)
  have A_b7 : Ar Z h5 b7 .long 16 (fun _ => .long 0) := A_b7
  have ne_a1_b7 : a1 ≠ b7 := Nat.ne_of_lt (hb8 ▸ O_a1.lt)
  have ga_b7 : n0 ≤ b7 := hb8 ▸ hz0
  have sz_b7 : h0.size ≤ b7 := hb8 ▸ (Keep.refl h0 [a1]).1
  have O_a1 := O_a1.keep K6 nin0
  have hz9 := Nat.le_trans hz0 K6.1
  have KK10 := (Keep.refl h0 [a1]).trans K6 (fun x hx => nomatch hx)
  refine g_putO (i := 0) (vs' := [(.ref b7), .null, .null, (.long (0 : Int64)), (.long (0 : Int64)), (.long (0 : Int64)), (.long (0 : Int64)), (.int (0 : Int32)), (.int (0 : Int32)), (.long (0 : Int64)), .null, .null, .null, .null, .null]) X4 C O_a1 (CF_CT hw) rfl rfl rfl ga_a1 (host := "") (Or.inl (hw _ (List.mem_of_getElem? (i := 12) rfl))) (Or.inl (hw _ (List.mem_of_getElem? (i := 13) rfl))) (ty := (.array .long)) (by decide) rfl rfl d1_9 rfl (fun T11 h13 X12 O_a1 K14 => ?_)
  have hz15 := Nat.le_trans hz9 K14.1
  have KK16 := KK10.trans K14 (allS (Or.inl (List.mem_of_getElem? (i := 0) rfl)) all0)
  refine g_aloadN X12 C d1_12 rfl rfl rfl ?_
  refine g_bipush (v := 16) X12 C d1_13 (by decide) rfl ?_
  refine g_newR (n := 16) (cap := 16) X12 C (hw _ (List.mem_of_getElem? (i := 14) rfl)) (hw _ (List.mem_of_getElem? (i := 15) rfl)) (by decide) (by decide) (by decide) (by decide) (by decide) d1_15 rfl (fun T17 h19 b21 hb22 X18 A_b21 K20 => ?_)
  have ne_a1_b21 : a1 ≠ b21 := Nat.ne_of_lt (hb22 ▸ O_a1.lt)
  have ga_b21 : n0 ≤ b21 := hb22 ▸ hz15
  have sz_b21 : h0.size ≤ b21 := hb22 ▸ KK16.1
  have O_a1 := O_a1.keep K20 nin0
  have hz23 := Nat.le_trans hz15 K20.1
  have KK24 := KK16.trans K20 (fun x hx => nomatch hx)
  refine g_putO (i := 1) (vs' := [(.ref b7), (.ref b21), .null, (.long (0 : Int64)), (.long (0 : Int64)), (.long (0 : Int64)), (.long (0 : Int64)), (.int (0 : Int32)), (.int (0 : Int32)), (.long (0 : Int64)), .null, .null, .null, .null, .null]) X18 C O_a1 (CF_CT hw) rfl rfl rfl ga_a1 (host := "") (Or.inl (hw _ (List.mem_of_getElem? (i := 16) rfl))) (Or.inl (hw _ (List.mem_of_getElem? (i := 17) rfl))) (ty := (.array (.object "org/foreslot/planning/ClusterTimeline$Stretch"))) (by decide) rfl rfl d1_18 rfl (fun T25 h27 X26 O_a1 K28 => ?_)
  have hz29 := Nat.le_trans hz23 K28.1
  have KK30 := KK24.trans K28 (allS (Or.inl (List.mem_of_getElem? (i := 0) rfl)) all0)
  refine g_aloadN X26 C d1_21 rfl rfl rfl ?_
  refine g_bipush (v := 16) X26 C d1_22 (by decide) rfl ?_
  refine g_newarr (n := 16) (cap := 16) X26 C (hw _ (List.mem_of_getElem? (i := 1) rfl)) (by decide) (by decide) (by decide) (by decide) (by decide) d1_24 rfl (fun T31 h33 b35 hb36 X32 A_b35 K34 => ?_)
  have A_b35 : Ar Z h33 b35 .int 16 (fun _ => .int 0) := A_b35
  have ne_a1_b35 : a1 ≠ b35 := Nat.ne_of_lt (hb36 ▸ O_a1.lt)
  have ga_b35 : n0 ≤ b35 := hb36 ▸ hz29
  have sz_b35 : h0.size ≤ b35 := hb36 ▸ KK30.1
  have O_a1 := O_a1.keep K34 nin0
  have hz37 := Nat.le_trans hz29 K34.1
  have KK38 := KK30.trans K34 (fun x hx => nomatch hx)
  refine g_putO (i := 2) (vs' := [(.ref b7), (.ref b21), (.ref b35), (.long (0 : Int64)), (.long (0 : Int64)), (.long (0 : Int64)), (.long (0 : Int64)), (.int (0 : Int32)), (.int (0 : Int32)), (.long (0 : Int64)), .null, .null, .null, .null, .null]) X32 C O_a1 (CF_CT hw) rfl rfl rfl ga_a1 (host := "") (Or.inl (hw _ (List.mem_of_getElem? (i := 18) rfl))) (Or.inl (hw _ (List.mem_of_getElem? (i := 19) rfl))) (ty := (.array .int)) (by decide) rfl rfl d1_26 rfl (fun T39 h41 X40 O_a1 K42 => ?_)
  have hz43 := Nat.le_trans hz37 K42.1
  have KK44 := KK38.trans K42 (allS (Or.inl (List.mem_of_getElem? (i := 0) rfl)) all0)
  refine g_aloadN X40 C d1_29 rfl rfl rfl ?_
  refine g_ldcJ X40 C (hw _ (List.mem_of_getElem? (i := 20) rfl)) d1_30 rfl ?_
  refine g_putO (i := 3) (vs' := [(.ref b7), (.ref b21), (.ref b35), (.long (-9223372036854775808 : Int64)), (.long (0 : Int64)), (.long (0 : Int64)), (.long (0 : Int64)), (.int (0 : Int32)), (.int (0 : Int32)), (.long (0 : Int64)), .null, .null, .null, .null, .null]) X40 C O_a1 (CF_CT hw) rfl rfl rfl ga_a1 (host := "") (Or.inl (hw _ (List.mem_of_getElem? (i := 21) rfl))) (Or.inl (hw _ (List.mem_of_getElem? (i := 22) rfl))) (ty := .long) (by decide) rfl rfl d1_33 rfl (fun T45 h47 X46 O_a1 K48 => ?_)
  have hz49 := Nat.le_trans hz43 K48.1
  have KK50 := KK44.trans K48 (allS (Or.inl (List.mem_of_getElem? (i := 0) rfl)) all0)
  refine g_aloadN X46 C d1_36 rfl rfl rfl ?_
  refine g_lconst (v := 1) X46 C d1_37 (by decide) rfl ?_
  refine g_putO (i := 4) (vs' := [(.ref b7), (.ref b21), (.ref b35), (.long (-9223372036854775808 : Int64)), (.long (1 : Int64)), (.long (0 : Int64)), (.long (0 : Int64)), (.int (0 : Int32)), (.int (0 : Int32)), (.long (0 : Int64)), .null, .null, .null, .null, .null]) X46 C O_a1 (CF_CT hw) rfl rfl rfl ga_a1 (host := "") (Or.inl (hw _ (List.mem_of_getElem? (i := 23) rfl))) (Or.inl (hw _ (List.mem_of_getElem? (i := 24) rfl))) (ty := .long) (by decide) rfl rfl d1_38 rfl (fun T51 h53 X52 O_a1 K54 => ?_)
  have hz55 := Nat.le_trans hz49 K54.1
  have KK56 := KK50.trans K54 (allS (Or.inl (List.mem_of_getElem? (i := 0) rfl)) all0)
  refine g_aloadN X52 C d1_41 rfl rfl rfl ?_
  refine g_ldcJ X52 C (hw _ (List.mem_of_getElem? (i := 25) rfl)) d1_42 rfl ?_
  refine g_putO (i := 5) (vs' := [(.ref b7), (.ref b21), (.ref b35), (.long (-9223372036854775808 : Int64)), (.long (1 : Int64)), (.long (9223372036854775807 : Int64)), (.long (0 : Int64)), (.int (0 : Int32)), (.int (0 : Int32)), (.long (0 : Int64)), .null, .null, .null, .null, .null]) X52 C O_a1 (CF_CT hw) rfl rfl rfl ga_a1 (host := "") (Or.inl (hw _ (List.mem_of_getElem? (i := 26) rfl))) (Or.inl (hw _ (List.mem_of_getElem? (i := 27) rfl))) (ty := .long) (by decide) rfl rfl d1_45 rfl (fun T57 h59 X58 O_a1 K60 => ?_)
  have hz61 := Nat.le_trans hz55 K60.1
  have KK62 := KK56.trans K60 (allS (Or.inl (List.mem_of_getElem? (i := 0) rfl)) all0)
  refine g_aloadN X58 C d1_48 rfl rfl rfl ?_
  refine g_ldcJ X58 C (hw _ (List.mem_of_getElem? (i := 20) rfl)) d1_49 rfl ?_
  refine g_putO (i := 6) (vs' := [(.ref b7), (.ref b21), (.ref b35), (.long (-9223372036854775808 : Int64)), (.long (1 : Int64)), (.long (9223372036854775807 : Int64)), (.long (-9223372036854775808 : Int64)), (.int (0 : Int32)), (.int (0 : Int32)), (.long (0 : Int64)), .null, .null, .null, .null, .null]) X58 C O_a1 (CF_CT hw) rfl rfl rfl ga_a1 (host := "") (Or.inl (hw _ (List.mem_of_getElem? (i := 28) rfl))) (Or.inl (hw _ (List.mem_of_getElem? (i := 29) rfl))) (ty := .long) (by decide) rfl rfl d1_52 rfl (fun T63 h65 X64 O_a1 K66 => ?_)
  have hz67 := Nat.le_trans hz61 K66.1
  have KK68 := KK62.trans K66 (allS (Or.inl (List.mem_of_getElem? (i := 0) rfl)) all0)
  refine g_aloadN X64 C d1_55 rfl rfl rfl ?_
  refine g_iloadN X64 C d1_56 rfl rfl ?_
  refine g_putO (i := 7) (vs' := [(.ref b7), (.ref b21), (.ref b35), (.long (-9223372036854775808 : Int64)), (.long (1 : Int64)), (.long (9223372036854775807 : Int64)), (.long (-9223372036854775808 : Int64)), (.int p2), (.int (0 : Int32)), (.long (0 : Int64)), .null, .null, .null, .null, .null]) X64 C O_a1 (CF_CT hw) rfl rfl rfl ga_a1 (host := "") (Or.inl (hw _ (List.mem_of_getElem? (i := 30) rfl))) (Or.inr ⟨(hw _ (List.mem_of_getElem? (i := 31) rfl)), rfl, rfl⟩) (ty := .int) (by decide) rfl rfl d1_57 rfl (fun T69 h71 X70 O_a1 K72 => ?_)
  have hz73 := Nat.le_trans hz67 K72.1
  have KK74 := KK68.trans K72 (allS (Or.inl (List.mem_of_getElem? (i := 0) rfl)) all0)
  refine g_aloadN X70 C d1_60 rfl rfl rfl ?_
  refine g_iloadN X70 C d1_61 rfl rfl ?_
  refine g_bipush (v := 64) X70 C d1_62 (by decide) rfl ?_
  refine g_iadd X70 C d1_64 rfl ?_
  refine g_iconst (v := 1) X70 C d1_65 (by decide) rfl ?_
  refine g_isub X70 C d1_66 rfl ?_
  refine g_bipush (v := 64) X70 C d1_67 (by decide) rfl ?_
  refine g_idiv X70 C d1_69 (by decide) rfl ?_
  obtain ⟨wv, h_wv⟩ : ∃ z, z = (((p2 + (64 : Int32)) - (1 : Int32)) / (64 : Int32)) := ⟨_, rfl⟩
  rw [← h_wv]
  have hwv : wv.toInt = ((n + 63) / 64 : Nat) := by
    have g1 := c_iadd p2 64; have g2 := c_isub (p2 + 64) 1; have g3 := rng32 (p2 + 64); have g4 := rng32 (p2 + 64 - 1); have g5 : (64 : Int32).toInt = 64 := by decide
    have g6 : (1 : Int32).toInt = 1 := by decide
    have g7 := (c_idiv (p2 + 64 - 1) 64 64 (by decide) (by decide)).1
    rw [← h_wv] at g7; omega
  refine g_putO (i := 8) (vs' := [(.ref b7), (.ref b21), (.ref b35), (.long (-9223372036854775808 : Int64)), (.long (1 : Int64)), (.long (9223372036854775807 : Int64)), (.long (-9223372036854775808 : Int64)), (.int p2), (.int wv), (.long (0 : Int64)), .null, .null, .null, .null, .null]) X70 C O_a1 (CF_CT hw) rfl rfl rfl ga_a1 (host := "") (Or.inl (hw _ (List.mem_of_getElem? (i := 32) rfl))) (Or.inr ⟨(hw _ (List.mem_of_getElem? (i := 33) rfl)), rfl, rfl⟩) (ty := .int) (by decide) rfl rfl d1_70 rfl (fun T75 h77 X76 O_a1 K78 => ?_)
  have hz79 := Nat.le_trans hz73 K78.1
  have KK80 := KK74.trans K78 (allS (Or.inl (List.mem_of_getElem? (i := 0) rfl)) all0)
  refine g_aloadN X76 C d1_73 rfl rfl rfl ?_
  refine g_iloadN X76 C d1_74 rfl rfl ?_
  refine g_bipush (v := 64) X76 C d1_75 (by decide) rfl ?_
  refine g_irem X76 C d1_77 (by decide) rfl ?_
  have J95_81 : ∀ (j81 : Int64) (_ : ((p2 % (64 : Int32)).toInt ≠ 0 ∧ j81 = (((1 : Int64) <<< ((p2 % (64 : Int32)) &&& 0x3f).toInt64) - (1 : Int64))) ∨ ((p2 % (64 : Int32)).toInt = 0 ∧ j81 = (-1 : Int64) ∧ j81.toInt = (-1))), Go p e below RS T75 (mkF m 95 #[.val (.ref a1), .val (.int p2)] [(.long j81), (.ref a1)]) := by
    intro j81 hJ95
    refine g_putO (i := 9) (vs' := [(.ref b7), (.ref b21), (.ref b35), (.long (-9223372036854775808 : Int64)), (.long (1 : Int64)), (.long (9223372036854775807 : Int64)), (.long (-9223372036854775808 : Int64)), (.int p2), (.int wv), (.long j81), .null, .null, .null, .null, .null]) X76 C O_a1 (CF_CT hw) rfl rfl rfl ga_a1 (host := "") (Or.inl (hw _ (List.mem_of_getElem? (i := 35) rfl))) (Or.inr ⟨(hw _ (List.mem_of_getElem? (i := 36) rfl)), rfl, rfl⟩) (ty := .long) (by decide) rfl rfl d1_95 rfl (fun T83 h85 X84 O_a1 K86 => ?_)
    have hz87 := Nat.le_trans hz79 K86.1
    have KK88 := KK80.trans K86 (allS (Or.inl (List.mem_of_getElem? (i := 0) rfl)) all0)
    refine g_aloadN X84 C d1_98 rfl rfl rfl ?_
    refine g_aloadN X84 C d1_99 rfl rfl rfl ?_
    refine g_getO (i := 8) X84 C O_a1 rfl rfl (host := "") (Or.inl (hw _ (List.mem_of_getElem? (i := 32) rfl))) d1_100 rfl (fun T89 X90 => ?_)
    refine g_newarr (n := ((n + 63) / 64)) (cap := 4) X90 C (hw _ (List.mem_of_getElem? (i := 11) rfl)) hwv (by omega) (by decide) (by decide) (by decide) d1_103 rfl (fun T91 h93 b95 hb96 X92 A_b95 K94 => ?_)
    have A_b95 : Ar Z h93 b95 .long ((n + 63) / 64) (fun _ => .long 0) := A_b95
    have ne_a1_b95 : a1 ≠ b95 := Nat.ne_of_lt (hb96 ▸ O_a1.lt)
    have ga_b95 : n0 ≤ b95 := hb96 ▸ hz87
    have sz_b95 : h0.size ≤ b95 := hb96 ▸ KK88.1
    have O_a1 := O_a1.keep K94 nin0
    have hz97 := Nat.le_trans hz87 K94.1
    have KK98 := KK88.trans K94 (fun x hx => nomatch hx)
    refine g_putO (i := 10) (vs' := [(.ref b7), (.ref b21), (.ref b35), (.long (-9223372036854775808 : Int64)), (.long (1 : Int64)), (.long (9223372036854775807 : Int64)), (.long (-9223372036854775808 : Int64)), (.int p2), (.int wv), (.long j81), (.ref b95), .null, .null, .null, .null]) X92 C O_a1 (CF_CT hw) rfl rfl rfl ga_a1 (host := "") (Or.inl (hw _ (List.mem_of_getElem? (i := 37) rfl))) (Or.inr ⟨(hw _ (List.mem_of_getElem? (i := 38) rfl)), rfl, rfl⟩) (ty := (.array .long)) (by decide) rfl rfl d1_105 rfl (fun T99 h101 X100 O_a1 K102 => ?_)
    have hz103 := Nat.le_trans hz97 K102.1
    have KK104 := KK98.trans K102 (allS (Or.inl (List.mem_of_getElem? (i := 0) rfl)) all0)
    refine g_aloadN X100 C d1_108 rfl rfl rfl ?_
    refine g_aloadN X100 C d1_109 rfl rfl rfl ?_
    refine g_getO (i := 8) X100 C O_a1 rfl rfl (host := "") (Or.inl (hw _ (List.mem_of_getElem? (i := 32) rfl))) d1_110 rfl (fun T105 X106 => ?_)
    refine g_newarr (n := ((n + 63) / 64)) (cap := 4) X106 C (hw _ (List.mem_of_getElem? (i := 11) rfl)) hwv (by omega) (by decide) (by decide) (by decide) d1_113 rfl (fun T107 h109 b111 hb112 X108 A_b111 K110 => ?_)
    have A_b111 : Ar Z h109 b111 .long ((n + 63) / 64) (fun _ => .long 0) := A_b111
    have ne_a1_b111 : a1 ≠ b111 := Nat.ne_of_lt (hb112 ▸ O_a1.lt)
    have ga_b111 : n0 ≤ b111 := hb112 ▸ hz103
    have sz_b111 : h0.size ≤ b111 := hb112 ▸ KK104.1
    have O_a1 := O_a1.keep K110 nin0
    have hz113 := Nat.le_trans hz103 K110.1
    have KK114 := KK104.trans K110 (fun x hx => nomatch hx)
    refine g_putO (i := 11) (vs' := [(.ref b7), (.ref b21), (.ref b35), (.long (-9223372036854775808 : Int64)), (.long (1 : Int64)), (.long (9223372036854775807 : Int64)), (.long (-9223372036854775808 : Int64)), (.int p2), (.int wv), (.long j81), (.ref b95), (.ref b111), .null, .null, .null]) X108 C O_a1 (CF_CT hw) rfl rfl rfl ga_a1 (host := "") (Or.inl (hw _ (List.mem_of_getElem? (i := 39) rfl))) (Or.inr ⟨(hw _ (List.mem_of_getElem? (i := 40) rfl)), rfl, rfl⟩) (ty := (.array .long)) (by decide) rfl rfl d1_115 rfl (fun T115 h117 X116 O_a1 K118 => ?_)
    have hz119 := Nat.le_trans hz113 K118.1
    have KK120 := KK114.trans K118 (allS (Or.inl (List.mem_of_getElem? (i := 0) rfl)) all0)
    refine g_aloadN X116 C d1_118 rfl rfl rfl ?_
    refine g_aloadN X116 C d1_119 rfl rfl rfl ?_
    refine g_getO (i := 8) X116 C O_a1 rfl rfl (host := "") (Or.inl (hw _ (List.mem_of_getElem? (i := 32) rfl))) d1_120 rfl (fun T121 X122 => ?_)
    refine g_newarr (n := ((n + 63) / 64)) (cap := 4) X122 C (hw _ (List.mem_of_getElem? (i := 11) rfl)) hwv (by omega) (by decide) (by decide) (by decide) d1_123 rfl (fun T123 h125 b127 hb128 X124 A_b127 K126 => ?_)
    have A_b127 : Ar Z h125 b127 .long ((n + 63) / 64) (fun _ => .long 0) := A_b127
    have ne_a1_b127 : a1 ≠ b127 := Nat.ne_of_lt (hb128 ▸ O_a1.lt)
    have ga_b127 : n0 ≤ b127 := hb128 ▸ hz119
    have sz_b127 : h0.size ≤ b127 := hb128 ▸ KK120.1
    have O_a1 := O_a1.keep K126 nin0
    have hz129 := Nat.le_trans hz119 K126.1
    have KK130 := KK120.trans K126 (fun x hx => nomatch hx)
    refine g_putO (i := 12) (vs' := [(.ref b7), (.ref b21), (.ref b35), (.long (-9223372036854775808 : Int64)), (.long (1 : Int64)), (.long (9223372036854775807 : Int64)), (.long (-9223372036854775808 : Int64)), (.int p2), (.int wv), (.long j81), (.ref b95), (.ref b111), (.ref b127), .null, .null]) X124 C O_a1 (CF_CT hw) rfl rfl rfl ga_a1 (host := "") (Or.inl (hw _ (List.mem_of_getElem? (i := 41) rfl))) (Or.inr ⟨(hw _ (List.mem_of_getElem? (i := 42) rfl)), rfl, rfl⟩) (ty := (.array .long)) (by decide) rfl rfl d1_125 rfl (fun T131 h133 X132 O_a1 K134 => ?_)
    have hz135 := Nat.le_trans hz129 K134.1
    have KK136 := KK130.trans K134 (allS (Or.inl (List.mem_of_getElem? (i := 0) rfl)) all0)
    refine g_aloadN X132 C d1_128 rfl rfl rfl ?_
    refine g_aloadN X132 C d1_129 rfl rfl rfl ?_
    refine g_getO (i := 8) X132 C O_a1 rfl rfl (host := "") (Or.inl (hw _ (List.mem_of_getElem? (i := 32) rfl))) d1_130 rfl (fun T137 X138 => ?_)
    refine g_newarr (n := ((n + 63) / 64)) (cap := 4) X138 C (hw _ (List.mem_of_getElem? (i := 11) rfl)) hwv (by omega) (by decide) (by decide) (by decide) d1_133 rfl (fun T139 h141 b143 hb144 X140 A_b143 K142 => ?_)
    have A_b143 : Ar Z h141 b143 .long ((n + 63) / 64) (fun _ => .long 0) := A_b143
    have ne_a1_b143 : a1 ≠ b143 := Nat.ne_of_lt (hb144 ▸ O_a1.lt)
    have ga_b143 : n0 ≤ b143 := hb144 ▸ hz135
    have sz_b143 : h0.size ≤ b143 := hb144 ▸ KK136.1
    have O_a1 := O_a1.keep K142 nin0
    have hz145 := Nat.le_trans hz135 K142.1
    have KK146 := KK136.trans K142 (fun x hx => nomatch hx)
    refine g_putO (i := 13) (vs' := [(.ref b7), (.ref b21), (.ref b35), (.long (-9223372036854775808 : Int64)), (.long (1 : Int64)), (.long (9223372036854775807 : Int64)), (.long (-9223372036854775808 : Int64)), (.int p2), (.int wv), (.long j81), (.ref b95), (.ref b111), (.ref b127), (.ref b143), .null]) X140 C O_a1 (CF_CT hw) rfl rfl rfl ga_a1 (host := "") (Or.inl (hw _ (List.mem_of_getElem? (i := 43) rfl))) (Or.inr ⟨(hw _ (List.mem_of_getElem? (i := 44) rfl)), rfl, rfl⟩) (ty := (.array .long)) (by decide) rfl rfl d1_135 rfl (fun T147 h149 X148 O_a1 K150 => ?_)
    have hz151 := Nat.le_trans hz145 K150.1
    have KK152 := KK146.trans K150 (allS (Or.inl (List.mem_of_getElem? (i := 0) rfl)) all0)
    refine g_aloadN X148 C d1_138 rfl rfl rfl ?_
    refine g_iloadN X148 C d1_139 rfl rfl ?_
    refine g_iconst (v := 1) X148 C d1_140 (by decide) rfl ?_
    refine g_iadd X148 C d1_141 rfl ?_
    refine g_newR (n := (n + 1)) (cap := 257) X148 C (hw _ (List.mem_of_getElem? (i := 45) rfl)) (hw _ (List.mem_of_getElem? (i := 46) rfl)) (addn hn (by decide) (by omega)) (by omega) (by decide) (by decide) (by decide) d1_142 rfl (fun T153 h155 b157 hb158 X154 A_b157 K156 => ?_)
    have ne_a1_b157 : a1 ≠ b157 := Nat.ne_of_lt (hb158 ▸ O_a1.lt)
    have ga_b157 : n0 ≤ b157 := hb158 ▸ hz151
    have sz_b157 : h0.size ≤ b157 := hb158 ▸ KK152.1
    have O_a1 := O_a1.keep K156 nin0
    have hz159 := Nat.le_trans hz151 K156.1
    have KK160 := KK152.trans K156 (fun x hx => nomatch hx)
    refine g_putO (i := 14) (vs' := [(.ref b7), (.ref b21), (.ref b35), (.long (-9223372036854775808 : Int64)), (.long (1 : Int64)), (.long (9223372036854775807 : Int64)), (.long (-9223372036854775808 : Int64)), (.int p2), (.int wv), (.long j81), (.ref b95), (.ref b111), (.ref b127), (.ref b143), (.ref b157)]) X154 C O_a1 (CF_CT hw) rfl rfl rfl ga_a1 (host := "") (Or.inl (hw _ (List.mem_of_getElem? (i := 47) rfl))) (Or.inr ⟨(hw _ (List.mem_of_getElem? (i := 48) rfl)), rfl, rfl⟩) (ty := (.array (.object "org/foreslot/planning/ClusterTimeline$Starts"))) (by decide) rfl rfl d1_145 rfl (fun T161 h163 X162 O_a1 K164 => ?_)
    have hz165 := Nat.le_trans hz159 K164.1
    have KK166 := KK160.trans K164 (allS (Or.inl (List.mem_of_getElem? (i := 0) rfl)) all0)
    rw [hRS]
    refine g_retV X162 C d1_148 ?_ (by decide) (by decide)
    exact ⟨rfl, KK166, _, _, _, _, _, _, _, _, _, _, hwv, O_a1⟩
  refine g_if_ne (a := (p2 % (64 : Int32)).toInt) X76 C d1_78 rfl (by decide) (pT := 87) (by decide) (pF := 81) rfl (fun hc78 => ?_) (fun hc78 => ?_)
  ·
    refine g_lconst (v := 1) X76 C d1_87 (by decide) rfl ?_
    refine g_iloadN X76 C d1_88 rfl rfl ?_
    refine g_bipush (v := 64) X76 C d1_89 (by decide) rfl ?_
    refine g_irem X76 C d1_91 (by decide) rfl ?_
    refine g_lshl X76 C d1_92 rfl ?_
    refine g_lconst (v := 1) X76 C d1_93 (by decide) rfl ?_
    refine g_lsub X76 C d1_94 rfl ?_
    exact J95_81 (((1 : Int64) <<< ((p2 % (64 : Int32)) &&& 0x3f).toInt64) - (1 : Int64)) (Or.inl (⟨hc78, rfl⟩))
  ·
    refine g_ldcJ X76 C (hw _ (List.mem_of_getElem? (i := 34) rfl)) d1_81 rfl ?_
    refine g_goto (pc' := 95) X76 C d1_84 (by decide) (by decide) ?_
    exact J95_81 (-1 : Int64) (Or.inr (⟨hc78, rfl, by decide⟩))
theorem ef_rmM (m : MethodId) (a1 : Addr) (a2 : Addr) : entryFrame m #[(.ref a1), (.ref a2)] 7 = mkF m 0 #[.val (.ref a1), .val (.ref a2), .unset, .unset, .unset, .unset, .unset] [] := by first | (simp [entryFrame, mkF, argsToLocals, Value.category]; done) | rfl
set_option maxRecDepth 65536 in
set_option maxHeartbeats 40000000 in
theorem rmM (l : Launch) (Z : State) (a0 : Array Value) (hw : ∀ d ∈ tables_1, d.before a0 Z = true) (a1 a2 : Addr) (wv lk : Int32) (vs : List Value) (nd : Nat → Int32) (wn k : Nat) (h0 : Heap) (n0 : Nat) (hz0 : n0 ≤ h0.size) (hwv : wv.toInt = wn) (hw4 : wn ≤ 4) (hk3 : k ≤ 3) (hlk : lk = k.toInt32) (hlki : lk.toInt = k) (hnode : ∀ i, i < k → 0 ≤ (nd i).toInt ∧ (nd i).toInt / 64 < wn) (O_a1 : Ob Z h0 a1 "org/foreslot/planning/ClusterTimeline" NS_CT vs) (hvs : vs[8]? = some (.int wv)) (A_a2 : Ar Z h0 a2 .int k (fun i => .int (nd i))) (ws : List Jvm.Cond) :
    Ctr l (⟨"org/foreslot/planning/ClusterTimeline", "maskOf", "([I)[J"⟩ : MethodName) prog_29_method_7_code 7 (some (.array .long)) ({ frames := 0, cells := 1, slots := 4, locals := 0 } : Room) Z n0 #[(.ref a1), (.ref a2)] h0 (fun v h => ∃ b, v = some (.ref b) ∧ Keep h0 h [] ∧ Ar Z h b .long wn (fun q => .long (own_m nd q k))) ws := by
  refine ctr_of (plainFor_of_name pn_0) ?_
  intro p e s m below meth c T0 X0 C
  refine go_cast (ef_rmM m a1 a2) ?_
  obtain ⟨RS, hRS⟩ : ∃ RS, RS = Rs s below n0 (fun v h => ∃ b, v = some (.ref b) ∧ Keep h0 h [] ∧ Ar Z h b .long wn (fun q => .long (own_m nd q k))) ({ frames := 0, cells := 1, slots := 4, locals := 0 } : Room).cells ({ frames := 0, cells := 1, slots := 4, locals := 0 } : Room).slots := ⟨_, rfl⟩
  suffices HG : Go p e below RS T0 (mkF m 0 #[.val (.ref a1), .val (.ref a2), .unset, .unset, .unset, .unset, .unset] []) by rw [hRS] at HG; exact HG
  show Go p e below RS T0 (mkF m 0 #[.val (.ref a1), .val (.ref a2), .unset, .unset, .unset, .unset, .unset] [])
  refine g_aloadN X0 C d3_0 rfl rfl rfl ?_
  refine g_getO (i := 8) X0 C O_a1 rfl hvs (host := "") (Or.inl (hw _ (List.mem_of_getElem? (i := 32) rfl))) d3_1 rfl (fun T167 X168 => ?_)
  refine g_newarr (n := wn) (cap := 4) X168 C (hw _ (List.mem_of_getElem? (i := 11) rfl)) hwv (by omega) (by decide) (by decide) (by decide) d3_4 rfl (fun T169 h171 b173 hb174 X170 A_b173 K172 => ?_)
  have A_b173 : Ar Z h171 b173 .long wn (fun _ => .long 0) := A_b173
  have ne_a1_b173 : a1 ≠ b173 := Nat.ne_of_lt (hb174 ▸ O_a1.lt)
  have ne_a2_b173 : a2 ≠ b173 := Nat.ne_of_lt (hb174 ▸ A_a2.lt)
  have ga_b173 : n0 ≤ b173 := hb174 ▸ hz0
  have sz_b173 : h0.size ≤ b173 := hb174 ▸ (Keep.refl h0 []).1
  have O_a1 := O_a1.keep K172 nin0
  have A_a2 := A_a2.keep K172 nin0
  have hz175 := Nat.le_trans hz0 K172.1
  have KK176 := (Keep.refl h0 []).trans K172 (fun x hx => nomatch hx)
  refine g_astoreN (L' := #[.val (.ref a1), .val (.ref a2), .val (.ref b173), .unset, .unset, .unset, .unset]) X170 C d3_6 rfl rfl rfl ?_
  refine g_aloadN X170 C d3_7 rfl rfl rfl ?_
  refine g_astoreN (L' := #[.val (.ref a1), .val (.ref a2), .val (.ref b173), .val (.ref a2), .unset, .unset, .unset]) X170 C d3_8 rfl rfl rfl ?_
  refine g_aloadN X170 C d3_9 rfl rfl rfl ?_
  refine g_arrlen (z := lk) X170 C A_a2 hlk.symm d3_10 rfl ?_
  refine g_istore (L' := #[.val (.ref a1), .val (.ref a2), .val (.ref b173), .val (.ref a2), .val (.int lk), .unset, .unset]) X170 C d3_11 rfl rfl rfl ?_
  refine g_iconst (v := 0) X170 C d3_13 (by decide) rfl ?_
  refine g_istore (L' := #[.val (.ref a1), .val (.ref a2), .val (.ref b173), .val (.ref a2), .val (.int lk), .val (.int (0 : Int32)), .unset]) X170 C d3_14 rfl rfl rfl ?_
  have LP : ∀ (d i : Nat) (x : Int32) (s6 : Slot) (T : State) (h : Heap), One s6 → x.toInt = i → i + d = k → St p l e ({ frames := 0, cells := 1, slots := 4, locals := 0 } : Room) s m #[(.ref a1), (.ref a2)] below meth c n0 T h 1 4 → Ar Z h b173 .long wn (fun q => .long (own_m nd q i)) → Ar Z h a2 .int k (fun i => .int (nd i)) → Keep h0 h [] → Go p e below RS T (mkF m 16 #[.val (.ref a1), .val (.ref a2), .val (.ref b173), .val (.ref a2), .val (.int lk), .val (.int x), s6] []) := by
    intro d
    induction d with
    | zero =>
      intro i x s6 T h hs6 hx hd X A_m A_a2 KK
      refine g_iload X C d3_16 rfl rfl ?_
      refine g_iload X C d3_18 rfl rfl ?_
      refine g_icmp_ge (a := x.toInt) (b := lk.toInt) X C d3_20 rfl rfl (by decide) (pT := 49) (by decide) (pF := 23) rfl (fun hc20 => ?_) (fun hc20 => absurd hc20 (by omega))
      refine g_aloadN X C d3_49 rfl rfl rfl ?_
      rw [hRS]
      refine g_retA X C d3_50 rfl rfl ?_ (by decide) (by decide)
      exact ⟨_, rfl, KK, by rw [show k = i by omega]; exact A_m⟩
    | succ d ih =>
      intro i x s6 T h hs6 hx hd X A_m A_a2 KK
      refine g_iload X C d3_16 rfl rfl ?_
      refine g_iload X C d3_18 rfl rfl ?_
      refine g_icmp_ge (a := x.toInt) (b := lk.toInt) X C d3_20 rfl rfl (by decide) (pT := 49) (by decide) (pF := 23) rfl (fun hc20 => absurd hc20 (by omega)) (fun hc20 => ?_)
      refine g_aloadN X C d3_23 rfl rfl rfl ?_
      refine g_iload X C d3_24 rfl rfl ?_
      refine g_iaload (i := i) (v := (.int (nd i))) X C A_a2 hx (by omega) rfl d3_26 rfl ?_
      obtain ⟨i177, h_i177⟩ : ∃ z, z = (nd i) := ⟨_, rfl⟩
      have hnd := hnode i (by omega)
      rw [← h_i177] at hnd
      refine g_istore (L' := #[.val (.ref a1), .val (.ref a2), .val (.ref b173), .val (.ref a2), .val (.int lk), .val (.int x), .val (.int i177)]) X C d3_27 h_i177 (os_7_6 hs6) rfl ?_
      refine g_aloadN X C d3_29 rfl rfl rfl ?_
      refine g_iload X C d3_30 rfl rfl ?_
      refine g_bipush (v := 64) X C d3_32 (by decide) rfl ?_
      refine g_idiv X C d3_34 (by decide) rfl ?_
      obtain ⟨qi, h_qi⟩ : ∃ z, z = (i177 / (64 : Int32)) := ⟨_, rfl⟩
      rw [← h_qi]
      obtain ⟨qn, hqn⟩ : ∃ qn : Nat, qi.toInt = qn ∧ (qn : Int) = i177.toInt / 64 ∧ qn < wn := by
        have g1 := (c_idiv i177 64 64 (by decide) (by decide)).1 (by omega)
        rw [← h_qi] at g1; exact ⟨qi.toInt.toNat, by omega, by omega, by omega⟩
      refine g_dup2 X C d3_35 rfl rfl rfl ?_
      refine g_laload (i := qn) (v := (.long (own_m nd qn i))) X C A_m hqn.1 hqn.2.2 rfl d3_36 rfl ?_
      refine g_lconst (v := 1) X C d3_37 (by decide) rfl ?_
      refine g_iload X C d3_38 rfl rfl ?_
      refine g_lshl X C d3_40 rfl ?_
      refine g_lor X C d3_41 rfl ?_
      refine g_lastore (i := qn) X C A_m hqn.1 hqn.2.2 ga_b173 d3_42 rfl (fun T178 h180 X179 A_m K181 => ?_)
      have A_a2 := A_a2.keep K181 (ninS ne_a2_b173 nin0)
      have hz182 := Nat.le_trans (Nat.le_trans hz0 KK.1) K181.1
      have KK183 := KK.trans K181 (allS (Or.inr sz_b173) all0)
      obtain ⟨i184, h_i184⟩ : ∃ z, z = (x + (1 : Int32)) := ⟨_, rfl⟩
      have hi_i184 : i184.toInt = (i + 1 : Nat) := by
          have g1 := c_iadd x 1; have g2 := rng32 i184; have g3 : (1 : Int32).toInt = 1 := by decide
          rw [← h_i184] at g1; omega
      refine g_iinc (L' := #[.val (.ref a1), .val (.ref a2), .val (.ref b173), .val (.ref a2), .val (.int lk), .val (.int i184), .val (.int i177)]) X179 C d3_43 rfl h_i184 rfl rfl ?_
      refine g_goto (pc' := 16) X179 C d3_46 (by decide) (by decide) ?_
      refine ih (i + 1) _ _ _ _ (One.val rfl) hi_i184 (by omega) X179 (A_m.congr (fun j hj => ?_)) A_a2 KK183
      simp only [own_m]
      by_cases q : j = qn
      · subst q; rw [if_pos rfl, if_pos (by rw [← h_i177]; omega), h_i177]; rfl
      · rw [if_neg q, if_neg (by rw [← h_i177]; omega)]
  exact LP k 0 _ _ _ _ One.u (by decide) (by omega) X170 (A_b173.congr (fun j hj => rfl)) A_a2 KK176
theorem ef_rmB (m : MethodId) (p1 : Int32) (p2 : Int32) (p3 : Int32) : entryFrame m #[(.int p1), (.int p2), (.int p3)] 3 = mkF m 0 #[.val (.int p1), .val (.int p2), .val (.int p3)] [] := by first | (simp [entryFrame, mkF, argsToLocals, Value.category]; done) | rfl
set_option maxRecDepth 65536 in
set_option maxHeartbeats 40000000 in
theorem rmB (l : Launch) (Z : State) (a0 : Array Value) (hw : ∀ d ∈ tables_1, d.before a0 Z = true) (p1 p2 p3 : Int32) (h0 : Heap) (n0 : Nat) (hz0 : n0 ≤ h0.size) (h0p : 0 ≤ p3.toInt) (ws : List Jvm.Cond) :
    Ctr l (⟨"org/foreslot/planning/ClusterTimelineMaskOfPinLaw", "bit", "(IZI)J"⟩ : MethodName) method_4_code 3 (some .long) ({ frames := 0, cells := 0, slots := 0, locals := 0 } : Room) Z n0 #[(.int p1), (.int p2), (.int p3)] h0 (fun v h => v = some (.long (own_bit p1 p2 p3)) ∧ h = h0) ws := by
  refine ctr_of (plainFor_of_name pn_1) ?_
  intro p e s m below meth c T0 X0 C
  refine go_cast (ef_rmB m p1 p2 p3) ?_
  obtain ⟨RS, hRS⟩ : ∃ RS, RS = Rs s below n0 (fun v h => v = some (.long (own_bit p1 p2 p3)) ∧ h = h0) ({ frames := 0, cells := 0, slots := 0, locals := 0 } : Room).cells ({ frames := 0, cells := 0, slots := 0, locals := 0 } : Room).slots := ⟨_, rfl⟩
  suffices HG : Go p e below RS T0 (mkF m 0 #[.val (.int p1), .val (.int p2), .val (.int p3)] []) by rw [hRS] at HG; exact HG
  show Go p e below RS T0 (mkF m 0 #[.val (.int p1), .val (.int p2), .val (.int p3)] [])
  refine g_iloadN X0 C d5_0 rfl rfl ?_
  refine g_if_eq (a := p2.toInt) X0 C d5_1 rfl (by decide) (pT := 12) (by decide) (pF := 4) rfl (fun hc1 => ?_) (fun hc1 => ?_)
  ·
    refine g_lconst (v := 0) X0 C d5_12 (by decide) rfl ?_
    rw [hRS]
    refine g_retJ X0 C d5_13 ?_ (by decide) (by decide)
    exact ⟨by rw [own_bit, if_pos (by omega)], rfl⟩
  ·
    refine g_iloadN X0 C d5_4 rfl rfl ?_
    refine g_bipush (v := 64) X0 C d5_5 (by decide) rfl ?_
    refine g_idiv X0 C d5_7 (by decide) rfl ?_
    refine g_iloadN X0 C d5_8 rfl rfl ?_
    obtain ⟨qi, h_qi⟩ : ∃ z, z = (p3 / (64 : Int32)) := ⟨_, rfl⟩
    rw [← h_qi]
    have hq := (c_idiv p3 64 64 (by decide) (by decide)).1 h0p
    rw [← h_qi] at hq
    refine g_icmp_eq (a := qi.toInt) (b := p1.toInt) X0 C d5_9 rfl rfl (by decide) (pT := 14) (by decide) (pF := 12) rfl (fun hc9 => ?_) (fun hc9 => ?_)
    ·
      refine g_lconst (v := 1) X0 C d5_14 (by decide) rfl ?_
      refine g_iloadN X0 C d5_15 rfl rfl ?_
      refine g_bipush (v := 64) X0 C d5_16 (by decide) rfl ?_
      refine g_irem X0 C d5_18 (by decide) rfl ?_
      refine g_lshl X0 C d5_19 rfl ?_
      rw [hRS]
      refine g_retJ X0 C d5_20 ?_ (by decide) (by decide)
      exact ⟨by rw [own_bit, if_neg (by omega)]; rfl, rfl⟩
    ·
      refine g_lconst (v := 0) X0 C d5_12 (by decide) rfl ?_
      rw [hRS]
      refine g_retJ X0 C d5_13 ?_ (by decide) (by decide)
      exact ⟨by rw [own_bit, if_pos (by omega)], rfl⟩
theorem ef_rmW (m : MethodId) (a1 : Addr) (p2 : Int32) (p3 : Int32) (p4 : Int32) (p5 : Int32) (p6 : Int32) : entryFrame m #[(.ref a1), (.int p2), (.int p3), (.int p4), (.int p5), (.int p6)] 8 = mkF m 0 #[.val (.ref a1), .val (.int p2), .val (.int p3), .val (.int p4), .val (.int p5), .val (.int p6), .unset, .unset] [] := by first | (simp [entryFrame, mkF, argsToLocals, Value.category]; done) | rfl
set_option maxRecDepth 65536 in
set_option maxHeartbeats 40000000 in
theorem rmW (l : Launch) (Z : State) (a0 : Array Value) (hw : ∀ d ∈ tables_1, d.before a0 Z = true) (a1 : Addr) (p2 p3 p4 p5 p6 lw : Int32) (g : Nat → Int64) (wi wn : Nat) (h0 : Heap) (n0 : Nat) (hz0 : n0 ≤ h0.size) (hwi : p2.toInt = wi) (hlw : lw = wn.toInt32) (hlwi : lw.toInt = wn) (hp4 : 0 ≤ p4.toInt) (hp5 : 0 ≤ p5.toInt) (hp6 : 0 ≤ p6.toInt) (hval : wi < wn → ∀ f1 f2 f3 : Int32, (f1.toInt = 0 ↔ p3.toInt ≤ 0) → (f2.toInt = 0 ↔ p3.toInt ≤ 1) → (f3.toInt = 0 ↔ p3.toInt ≤ 2) → g wi = own_bit p2 f1 p4 ||| own_bit p2 f2 p5 ||| own_bit p2 f3 p6) (A_a1 : Ar Z h0 a1 .long wn (fun q => .long (g q))) (ws : List Jvm.Cond) :
    Ctr l (⟨"org/foreslot/planning/ClusterTimelineMaskOfPinLaw", "word", "([JIIIII)Z"⟩ : MethodName) method_3_code 8 (some .boolean) ({ frames := 1, cells := 0, slots := 0, locals := 20 } : Room) Z n0 #[(.ref a1), (.int p2), (.int p3), (.int p4), (.int p5), (.int p6)] h0 (fun v h => v = some (.int 1) ∧ h = h0) ws := by
  refine ctr_of (plainFor_of_name pn_1) ?_
  intro p e s m below meth c T0 X0 C
  refine go_cast (ef_rmW m a1 p2 p3 p4 p5 p6) ?_
  obtain ⟨RS, hRS⟩ : ∃ RS, RS = Rs s below n0 (fun v h => v = some (.int 1) ∧ h = h0) ({ frames := 1, cells := 0, slots := 0, locals := 20 } : Room).cells ({ frames := 1, cells := 0, slots := 0, locals := 20 } : Room).slots := ⟨_, rfl⟩
  suffices HG : Go p e below RS T0 (mkF m 0 #[.val (.ref a1), .val (.int p2), .val (.int p3), .val (.int p4), .val (.int p5), .val (.int p6), .unset, .unset] []) by rw [hRS] at HG; exact HG
  show Go p e below RS T0 (mkF m 0 #[.val (.ref a1), .val (.int p2), .val (.int p3), .val (.int p4), .val (.int p5), .val (.int p6), .unset, .unset] [])
  refine g_iloadN X0 C d4_0 rfl rfl ?_
  refine g_aloadN X0 C d4_1 rfl rfl rfl ?_
  refine g_arrlen (z := lw) X0 C A_a1 hlw.symm d4_2 rfl ?_
  refine g_icmp_lt (a := p2.toInt) (b := lw.toInt) X0 C d4_3 rfl rfl (by decide) (pT := 8) (by decide) (pF := 6) rfl (fun hc3 => ?_) (fun hc3 => ?_)
  ·
    refine g_iloadN X0 C d4_8 rfl rfl ?_
    refine g_iloadN X0 C d4_9 rfl rfl ?_
    have J18_185 : ∀ (i185 : Int32) (_ : (p3.toInt ≤ 0 ∧ i185 = (0 : Int32) ∧ i185.toInt = 0) ∨ (0 < p3.toInt ∧ i185 = (1 : Int32) ∧ i185.toInt = 1)), Go p e below RS T0 (mkF m 18 #[.val (.ref a1), .val (.int p2), .val (.int p3), .val (.int p4), .val (.int p5), .val (.int p6), .unset, .unset] [(.int i185), (.int p2)]) := by
      intro i185 hJ18
      refine g_iloadN X0 C d4_18 rfl rfl ?_
      refine g_static (argsL := [(.int p2), (.int i185), (.int p4)]) (rest := []) (W := 0) X0 C (rmB l Z a0 hw p2 i185 p4 h0 n0 hz0 hp4 []) (hw _ (List.mem_of_getElem? (i := 58) rfl)) (hw _ (List.mem_of_getElem? (i := 59) rfl)) (hw _ (List.mem_of_getElem? (i := 56) rfl)) (hw _ (List.mem_of_getElem? (i := 60) rfl)) (by decide) pd_0 rfl rfl rfl rfl rfl (by decide) (by decide) (by decide) (by decide) d4_19 rfl (fun r190 T187 h189 hQ191 X188 => ?_)
      obtain ⟨rfl, hh⟩ := hQ191; rw [hh] at X188
      show Go p e below RS T187 (mkF m 22 #[.val (.ref a1), .val (.int p2), .val (.int p3), .val (.int p4), .val (.int p5), .val (.int p6), .unset, .unset] [(.long (own_bit p2 i185 p4))])
      refine g_iloadN X188 C d4_22 rfl rfl ?_
      refine g_iloadN X188 C d4_23 rfl rfl ?_
      refine g_iconst (v := 1) X188 C d4_24 (by decide) rfl ?_
      have J33_192 : ∀ (i192 : Int32) (_ : (p3.toInt ≤ 1 ∧ i192 = (0 : Int32) ∧ i192.toInt = 0) ∨ (1 < p3.toInt ∧ i192 = (1 : Int32) ∧ i192.toInt = 1)), Go p e below RS T187 (mkF m 33 #[.val (.ref a1), .val (.int p2), .val (.int p3), .val (.int p4), .val (.int p5), .val (.int p6), .unset, .unset] [(.int i192), (.int p2), (.long (own_bit p2 i185 p4))]) := by
        intro i192 hJ33
        refine g_iload X188 C d4_33 rfl rfl ?_
        refine g_static (argsL := [(.int p2), (.int i192), (.int p5)]) (rest := [(.long (own_bit p2 i185 p4))]) (W := 2) X188 C (rmB l Z a0 hw p2 i192 p5 h0 n0 hz0 hp5 []) (hw _ (List.mem_of_getElem? (i := 58) rfl)) (hw _ (List.mem_of_getElem? (i := 59) rfl)) (hw _ (List.mem_of_getElem? (i := 56) rfl)) (hw _ (List.mem_of_getElem? (i := 60) rfl)) (by decide) pd_0 rfl rfl rfl rfl rfl (by decide) (by decide) (by decide) (by decide) d4_35 rfl (fun r197 T194 h196 hQ198 X195 => ?_)
        obtain ⟨rfl, hh⟩ := hQ198; rw [hh] at X195
        show Go p e below RS T194 (mkF m 38 #[.val (.ref a1), .val (.int p2), .val (.int p3), .val (.int p4), .val (.int p5), .val (.int p6), .unset, .unset] [(.long (own_bit p2 i192 p5)), (.long (own_bit p2 i185 p4))])
        refine g_lor X195 C d4_38 rfl ?_
        refine g_iloadN X195 C d4_39 rfl rfl ?_
        refine g_iloadN X195 C d4_40 rfl rfl ?_
        refine g_iconst (v := 2) X195 C d4_41 (by decide) rfl ?_
        have J50_199 : ∀ (i199 : Int32) (_ : (p3.toInt ≤ 2 ∧ i199 = (0 : Int32) ∧ i199.toInt = 0) ∨ (2 < p3.toInt ∧ i199 = (1 : Int32) ∧ i199.toInt = 1)), Go p e below RS T194 (mkF m 50 #[.val (.ref a1), .val (.int p2), .val (.int p3), .val (.int p4), .val (.int p5), .val (.int p6), .unset, .unset] [(.int i199), (.int p2), (.long ((own_bit p2 i185 p4) ||| (own_bit p2 i192 p5)))]) := by
          intro i199 hJ50
          refine g_iload X195 C d4_50 rfl rfl ?_
          refine g_static (argsL := [(.int p2), (.int i199), (.int p6)]) (rest := [(.long ((own_bit p2 i185 p4) ||| (own_bit p2 i192 p5)))]) (W := 2) X195 C (rmB l Z a0 hw p2 i199 p6 h0 n0 hz0 hp6 []) (hw _ (List.mem_of_getElem? (i := 58) rfl)) (hw _ (List.mem_of_getElem? (i := 59) rfl)) (hw _ (List.mem_of_getElem? (i := 56) rfl)) (hw _ (List.mem_of_getElem? (i := 60) rfl)) (by decide) pd_0 rfl rfl rfl rfl rfl (by decide) (by decide) (by decide) (by decide) d4_52 rfl (fun r204 T201 h203 hQ205 X202 => ?_)
          obtain ⟨rfl, hh⟩ := hQ205; rw [hh] at X202
          show Go p e below RS T201 (mkF m 55 #[.val (.ref a1), .val (.int p2), .val (.int p3), .val (.int p4), .val (.int p5), .val (.int p6), .unset, .unset] [(.long (own_bit p2 i199 p6)), (.long ((own_bit p2 i185 p4) ||| (own_bit p2 i192 p5)))])
          refine g_lor X202 C d4_55 rfl ?_
          obtain ⟨j206, h_j206⟩ : ∃ z, z = (((own_bit p2 i185 p4) ||| (own_bit p2 i192 p5)) ||| (own_bit p2 i199 p6)) := ⟨_, rfl⟩
          refine g_lstore (L' := #[.val (.ref a1), .val (.int p2), .val (.int p3), .val (.int p4), .val (.int p5), .val (.int p6), .val (.long j206), .second]) X202 C d4_56 h_j206 rfl rfl ?_
          refine g_aloadN X202 C d4_58 rfl rfl rfl ?_
          refine g_iloadN X202 C d4_59 rfl rfl ?_
          refine g_laload (i := wi) (v := (.long (g wi))) X202 C A_a1 hwi (by omega) rfl d4_60 rfl ?_
          refine g_lload X202 C d4_61 rfl rfl ?_
          refine g_lcmp X202 C d4_63 rfl ?_
          have hsame : g wi = j206 := by
            rw [h_j206]
            refine hval (by omega) i185 i192 i199 ?_ ?_ ?_ <;> omega
          refine g_lif_ne (a := (g wi).toInt) (b := j206.toInt) X202 C d4_64 rfl rfl (by decide) (pT := 71) (by decide) (pF := 67) rfl (fun hc64 => absurd hc64 (by rw [hsame]; exact fun q => q rfl)) (fun hc64 => ?_)
          refine g_iconst (v := 1) X202 C d4_67 (by decide) rfl ?_
          refine g_goto (pc' := 72) X202 C d4_68 (by decide) (by decide) ?_
          rw [hRS]
          refine g_retZ X202 C d4_72 ?_ (by decide) (by decide)
          exact ⟨rfl, rfl⟩
        refine g_icmp_le (a := p3.toInt) (b := 2) X195 C d4_42 rfl (by decide) (by decide) (pT := 49) (by decide) (pF := 45) rfl (fun hc42 => ?_) (fun hc42 => ?_)
        ·
          refine g_iconst (v := 0) X195 C d4_49 (by decide) rfl ?_
          exact J50_199 (0 : Int32) (Or.inl (⟨hc42, rfl, by decide⟩))
        ·
          refine g_iconst (v := 1) X195 C d4_45 (by decide) rfl ?_
          refine g_goto (pc' := 50) X195 C d4_46 (by decide) (by decide) ?_
          exact J50_199 (1 : Int32) (Or.inr (⟨hc42, rfl, by decide⟩))
      refine g_icmp_le (a := p3.toInt) (b := 1) X188 C d4_25 rfl (by decide) (by decide) (pT := 32) (by decide) (pF := 28) rfl (fun hc25 => ?_) (fun hc25 => ?_)
      ·
        refine g_iconst (v := 0) X188 C d4_32 (by decide) rfl ?_
        exact J33_192 (0 : Int32) (Or.inl (⟨hc25, rfl, by decide⟩))
      ·
        refine g_iconst (v := 1) X188 C d4_28 (by decide) rfl ?_
        refine g_goto (pc' := 33) X188 C d4_29 (by decide) (by decide) ?_
        exact J33_192 (1 : Int32) (Or.inr (⟨hc25, rfl, by decide⟩))
    refine g_if_le (a := p3.toInt) X0 C d4_10 rfl (by decide) (pT := 17) (by decide) (pF := 13) rfl (fun hc10 => ?_) (fun hc10 => ?_)
    ·
      refine g_iconst (v := 0) X0 C d4_17 (by decide) rfl ?_
      exact J18_185 (0 : Int32) (Or.inl (⟨hc10, rfl, by decide⟩))
    ·
      refine g_iconst (v := 1) X0 C d4_13 (by decide) rfl ?_
      refine g_goto (pc' := 18) X0 C d4_14 (by decide) (by decide) ?_
      exact J18_185 (1 : Int32) (Or.inr (⟨hc10, rfl, by decide⟩))
  ·
    refine g_iconst (v := 1) X0 C d4_6 (by decide) rfl ?_
    rw [hRS]
    refine g_retZ X0 C d4_7 ?_ (by decide) (by decide)
    exact ⟨rfl, rfl⟩
theorem ef_rm0 (m : MethodId) (p1 : Int32) (p2 : Int32) (p3 : Int32) (p4 : Int32) (p5 : Int32) : entryFrame m #[(.int p1), (.int p2), (.int p3), (.int p4), (.int p5)] maxLocals = mkF m 0 #[.val (.int p1), .val (.int p2), .val (.int p3), .val (.int p4), .val (.int p5), .unset, .unset, .unset, .unset, .unset, .unset, .unset, .unset, .unset] [] := by first | (simp [entryFrame, mkF, argsToLocals, Value.category, maxLocals]; done) | rfl
set_option maxRecDepth 65536 in
set_option maxHeartbeats 40000000 in
theorem rm0 (l : Launch) (Z : State) (a0 : Array Value) (hw : ∀ d ∈ tables_1, d.before a0 Z = true) (p1 p2 p3 p4 p5 : Int32) (h0 : Heap) (n0 : Nat) (hz0 : n0 ≤ h0.size)  (ws : List Jvm.Cond) :
    Ctr l x code maxLocals ret room_1 Z n0 #[(.int p1), (.int p2), (.int p3), (.int p4), (.int p5)] h0 (fun v h => v = some (.int 1)) ws := by
  refine ctr_of (plainFor_of_name pn_1) ?_
  intro p e s m below meth c T0 X0 C
  refine go_cast (ef_rm0 m p1 p2 p3 p4 p5) ?_
  obtain ⟨RS, hRS⟩ : ∃ RS, RS = Rs s below n0 (fun v h => v = some (.int 1)) room_1.cells room_1.slots := ⟨_, rfl⟩
  suffices HG : Go p e below RS T0 (mkF m 0 #[.val (.int p1), .val (.int p2), .val (.int p3), .val (.int p4), .val (.int p5), .unset, .unset, .unset, .unset, .unset, .unset, .unset, .unset, .unset] []) by rw [hRS] at HG; exact HG
  show Go p e below RS T0 (mkF m 0 #[.val (.int p1), .val (.int p2), .val (.int p3), .val (.int p4), .val (.int p5), .unset, .unset, .unset, .unset, .unset, .unset, .unset, .unset, .unset] [])
  refine g_iloadN X0 C at_0 rfl rfl ?_
  refine g_ldcI X0 C (hw _ (List.mem_of_getElem? (i := 0) rfl)) at_1 rfl ?_
  refine g_iand X0 C at_3 rfl ?_
  refine g_sipush (v := 257) X0 C at_4 (by decide) rfl ?_
  refine g_irem X0 C at_7 (by decide) rfl ?_
  obtain ⟨i207, h_i207⟩ : ∃ z, z = ((p1 &&& (2147483647 : Int32)) % (257 : Int32)) := ⟨_, rfl⟩
  obtain ⟨n, hn, hn256⟩ : ∃ n : Nat, i207.toInt = n ∧ n ≤ 256 := by
    have g1 := c_mask p1 2147483647 31 (by decide) (by decide)
    have g2 := (c_irem (p1 &&& 2147483647) 257 257 (by decide)).1
    rw [← h_i207] at g2; rw [g1] at g2; simp only [Nat.reducePow] at g2
    exact ⟨i207.toInt.toNat, by omega, by omega⟩
  refine g_istore (L' := #[.val (.int p1), .val (.int p2), .val (.int p3), .val (.int p4), .val (.int p5), .val (.int i207), .unset, .unset, .unset, .unset, .unset, .unset, .unset, .unset]) X0 C at_8 h_i207 rfl rfl ?_
  refine g_iload X0 C at_10 rfl rfl ?_
  have J22_208 : ∀ (i208 : Int32) (_ : (i207.toInt ≠ 0 ∧ i208 = (p2 &&& (3 : Int32))) ∨ (i207.toInt = 0 ∧ i208 = (0 : Int32) ∧ i208.toInt = 0)), Go p e below RS T0 (mkF m 22 #[.val (.int p1), .val (.int p2), .val (.int p3), .val (.int p4), .val (.int p5), .val (.int i207), .unset, .unset, .unset, .unset, .unset, .unset, .unset, .unset] [(.int i208)]) := by
    intro i208 hJ22
    have g1 := c_mask p2 3 2 (by decide) (by decide)
    simp only [Nat.reducePow] at g1
    have hk : 0 ≤ i208.toInt ∧ i208.toInt ≤ 3 ∧ (n = 0 → i208.toInt = 0) := by
      rcases hJ22 with ⟨q1, q2⟩ | ⟨q1, q2, q3⟩
      · rw [q2]; omega
      · omega
    refine g_istore (L' := #[.val (.int p1), .val (.int p2), .val (.int p3), .val (.int p4), .val (.int p5), .val (.int i207), .val (.int i208), .unset, .unset, .unset, .unset, .unset, .unset, .unset]) X0 C at_22 rfl rfl rfl ?_
    refine g_iload X0 C at_24 rfl rfl ?_
    have J40_210 : ∀ (i210 : Int32) (_ : (i207.toInt ≠ 0 ∧ i210 = ((p3 &&& (2147483647 : Int32)) % i207)) ∨ (i207.toInt = 0 ∧ i210 = (0 : Int32) ∧ i210.toInt = 0)), Go p e below RS T0 (mkF m 40 #[.val (.int p1), .val (.int p2), .val (.int p3), .val (.int p4), .val (.int p5), .val (.int i207), .val (.int i208), .unset, .unset, .unset, .unset, .unset, .unset, .unset] [(.int i210)]) := by
      intro i210 hJ40
      have hx : 0 ≤ i210.toInt ∧ (n ≠ 0 → i210.toInt < n) := by
        have g1 := c_mask p3 2147483647 31 (by decide) (by decide)
        simp only [Nat.reducePow] at g1
        rcases hJ40 with ⟨q1, q2⟩ | ⟨q1, q2, q3⟩
        · have g2 := (c_iremV (p3 &&& 2147483647) i207).1 (by omega) (by omega); rw [q2]; omega
        · omega
      refine g_istore (L' := #[.val (.int p1), .val (.int p2), .val (.int p3), .val (.int p4), .val (.int p5), .val (.int i207), .val (.int i208), .val (.int i210), .unset, .unset, .unset, .unset, .unset, .unset]) X0 C at_40 rfl rfl rfl ?_
      refine g_iload X0 C at_42 rfl rfl ?_
      have J58_212 : ∀ (i212 : Int32) (_ : (i207.toInt ≠ 0 ∧ i212 = ((p4 &&& (2147483647 : Int32)) % i207)) ∨ (i207.toInt = 0 ∧ i212 = (0 : Int32) ∧ i212.toInt = 0)), Go p e below RS T0 (mkF m 58 #[.val (.int p1), .val (.int p2), .val (.int p3), .val (.int p4), .val (.int p5), .val (.int i207), .val (.int i208), .val (.int i210), .unset, .unset, .unset, .unset, .unset, .unset] [(.int i212)]) := by
        intro i212 hJ58
        have hy_ : 0 ≤ i212.toInt ∧ (n ≠ 0 → i212.toInt < n) := by
          have g1 := c_mask p4 2147483647 31 (by decide) (by decide)
          simp only [Nat.reducePow] at g1
          rcases hJ58 with ⟨q1, q2⟩ | ⟨q1, q2, q3⟩
          · have g2 := (c_iremV (p4 &&& 2147483647) i207).1 (by omega) (by omega); rw [q2]; omega
          · omega
        refine g_istore (L' := #[.val (.int p1), .val (.int p2), .val (.int p3), .val (.int p4), .val (.int p5), .val (.int i207), .val (.int i208), .val (.int i210), .val (.int i212), .unset, .unset, .unset, .unset, .unset]) X0 C at_58 rfl rfl rfl ?_
        refine g_iload X0 C at_60 rfl rfl ?_
        have J77_214 : ∀ (i214 : Int32) (_ : (i207.toInt ≠ 0 ∧ i214 = ((p5 &&& (2147483647 : Int32)) % i207)) ∨ (i207.toInt = 0 ∧ i214 = (0 : Int32) ∧ i214.toInt = 0)), Go p e below RS T0 (mkF m 77 #[.val (.int p1), .val (.int p2), .val (.int p3), .val (.int p4), .val (.int p5), .val (.int i207), .val (.int i208), .val (.int i210), .val (.int i212), .unset, .unset, .unset, .unset, .unset] [(.int i214)]) := by
          intro i214 hJ77
          have hz : 0 ≤ i214.toInt ∧ (n ≠ 0 → i214.toInt < n) := by
            have g1 := c_mask p5 2147483647 31 (by decide) (by decide)
            simp only [Nat.reducePow] at g1
            rcases hJ77 with ⟨q1, q2⟩ | ⟨q1, q2, q3⟩
            · have g2 := (c_iremV (p5 &&& 2147483647) i207).1 (by omega) (by omega); rw [q2]; omega
            · omega
          refine g_istore (L' := #[.val (.int p1), .val (.int p2), .val (.int p3), .val (.int p4), .val (.int p5), .val (.int i207), .val (.int i208), .val (.int i210), .val (.int i212), .val (.int i214), .unset, .unset, .unset, .unset]) X0 C at_77 rfl rfl rfl ?_
          refine g_iload X0 C at_79 rfl rfl ?_
          refine g_newarr (n := i208.toInt.toNat) (cap := 3) X0 C (hw _ (List.mem_of_getElem? (i := 1) rfl)) (by omega) (by omega) (by decide) (by decide) (by decide) at_81 rfl (fun T216 h218 b220 hb221 X217 A_b220 K219 => ?_)
          have A_b220 : Ar Z h218 b220 .int i208.toInt.toNat (fun _ => .int 0) := A_b220
          have ga_b220 : n0 ≤ b220 := hb221 ▸ hz0
          have hz222 := Nat.le_trans hz0 K219.1
          refine g_astore (L' := #[.val (.int p1), .val (.int p2), .val (.int p3), .val (.int p4), .val (.int p5), .val (.int i207), .val (.int i208), .val (.int i210), .val (.int i212), .val (.int i214), .val (.ref b220), .unset, .unset, .unset]) X217 C at_83 rfl rfl rfl ?_
          refine g_iload X217 C at_85 rfl rfl ?_
          refine g_if_le (a := i208.toInt) X217 C at_87 rfl (by decide) (pT := 96) (by decide) (pF := 90) rfl (fun hc87 => ?_) (fun hc87 => ?_)
          ·
            refine g_iload X217 C at_96 rfl rfl ?_
            refine g_iconst (v := 1) X217 C at_98 (by decide) rfl ?_
            refine g_icmp_le (a := i208.toInt) (b := 1) X217 C at_99 rfl (by decide) (by decide) (pT := 108) (by decide) (pF := 102) rfl (fun hc99 => ?_) (fun hc99 => absurd hc99 (by omega))
            refine g_iload X217 C at_108 rfl rfl ?_
            refine g_iconst (v := 2) X217 C at_110 (by decide) rfl ?_
            refine g_icmp_le (a := i208.toInt) (b := 2) X217 C at_111 rfl (by decide) (by decide) (pT := 120) (by decide) (pF := 114) rfl (fun hc111 => ?_) (fun hc111 => absurd hc111 (by omega))
            have hkk : i208.toInt = 0 := by omega
            obtain ⟨nd, hnd⟩ : ∃ nd : Nat → Int32, nd = fun i => if i = 0 then i210 else if i = 1 then i212 else i214 := ⟨_, rfl⟩
            have A_b220 : Ar Z h218 b220 .int 0 (fun i => .int (nd i)) := by
              have q := A_b220; rw [show i208.toInt.toNat = 0 by omega] at q
              refine q.congr (fun j hj => ?_)
              omega
            have n0_ : nd 0 = i210 := by rw [hnd]; rfl
            have n1_ : nd 1 = i212 := by rw [hnd]; rfl
            have n2_ : nd 2 = i214 := by rw [hnd]; rfl
            have hnode : ∀ i, i < 0 → 0 ≤ (nd i).toInt ∧ (nd i).toInt / 64 < ((n + 63) / 64 : Nat) := by
              intro i hi; have hq : i = 0 ∨ i = 1 ∨ i = 2 := by omega
              rcases hq with rfl | rfl | rfl <;> first | rw [n0_] | rw [n1_] | rw [n2_]
              all_goals omega
            refine g_newO (vs := [.null, .null, .null, (.long (0 : Int64)), (.long (0 : Int64)), (.long (0 : Int64)), (.long (0 : Int64)), (.int (0 : Int32)), (.int (0 : Int32)), (.long (0 : Int64)), .null, .null, .null, .null, .null]) X217 C (hw _ (List.mem_of_getElem? (i := 2) rfl)) (CF_CT hw) (hw _ (List.mem_of_getElem? (i := 4) rfl)) (by decide) (by decide) (by decide) at_120 rfl (fun T223 h225 b227 hb228 X224 O_b227 K226 => ?_)
            have ne_b220_b227 : b220 ≠ b227 := Nat.ne_of_lt (hb228 ▸ A_b220.lt)
            have ga_b227 : n0 ≤ b227 := hb228 ▸ hz222
            have A_b220 := A_b220.keep K226 nin0
            have hz229 := Nat.le_trans hz222 K226.1
            refine g_dup X224 C at_123 rfl rfl ?_
            refine g_iload X224 C at_124 rfl rfl ?_
            refine g_special (argsL := [(.int i207)]) (rest := [(.ref b227)]) (W := 1) (a := b227) X224 C (rmI l Z a0 hw b227 i207 n h225 n0 hz229 hn hn256 ga_b227 O_b227 []) rfl rfl (hw _ (List.mem_of_getElem? (i := 5) rfl)) (hw _ (List.mem_of_getElem? (i := 6) rfl)) (hw _ (List.mem_of_getElem? (i := 4) rfl)) (hw _ (List.mem_of_getElem? (i := 7) rfl)) (by decide) pd_1 rfl rfl rfl rfl rfl (by decide) (by decide) (by decide) (by decide) at_126 rfl (fun r233 T230 h232 hQ234 X231 => ?_)
            obtain ⟨rfl, KI, c1, c2, c3, c4, c5, c6, c7, c8, wv, lw, hwv, O_t⟩ := hQ234
            have hzI := Nat.le_trans hz229 KI.1
            have A_b220 := A_b220.keep KI (ninS ne_b220_b227 nin0)
            show Go p e below RS T230 (mkF m 129 #[.val (.int p1), .val (.int p2), .val (.int p3), .val (.int p4), .val (.int p5), .val (.int i207), .val (.int i208), .val (.int i210), .val (.int i212), .val (.int i214), .val (.ref b220), .unset, .unset, .unset] [(.ref b227)])
            refine g_astore (L' := #[.val (.int p1), .val (.int p2), .val (.int p3), .val (.int p4), .val (.int p5), .val (.int i207), .val (.int i208), .val (.int i210), .val (.int i212), .val (.int i214), .val (.ref b220), .val (.ref b227), .unset, .unset]) X231 C at_129 rfl rfl rfl ?_
            refine g_aload X231 C at_131 rfl rfl rfl ?_
            refine g_aload X231 C at_133 rfl rfl rfl ?_
            refine g_virtual (argsL := [(.ref b220)]) (rest := []) (W := 0) (a := b227) X231 C (rmM l Z a0 hw b227 b220 wv (0 : Int32) _ nd ((n + 63) / 64) 0 h232 n0 hzI hwv (by omega) (by decide) (by decide) (by decide) hnode O_t rfl A_b220 []) O_t.1 (hw _ (List.mem_of_getElem? (i := 49) rfl)) (hw _ (List.mem_of_getElem? (i := 50) rfl)) (hw _ (List.mem_of_getElem? (i := 52) rfl)) (hw _ (List.mem_of_getElem? (i := 51) rfl)) (hw _ (List.mem_of_getElem? (i := 4) rfl)) (hw _ (List.mem_of_getElem? (i := 53) rfl)) (by decide) pd_2 rfl rfl rfl rfl rfl (by decide) (by decide) (by decide) (by decide) at_135 rfl (fun r238 T235 h237 hQ239 X236 => ?_)
            obtain ⟨bm, rfl, KM, A_m⟩ := hQ239
            have hzM := Nat.le_trans hzI KM.1
            show Go p e below RS T235 (mkF m 138 #[.val (.int p1), .val (.int p2), .val (.int p3), .val (.int p4), .val (.int p5), .val (.int i207), .val (.int i208), .val (.int i210), .val (.int i212), .val (.int i214), .val (.ref b220), .val (.ref b227), .unset, .unset] [(.ref bm)])
            refine g_astore (L' := #[.val (.int p1), .val (.int p2), .val (.int p3), .val (.int p4), .val (.int p5), .val (.int i207), .val (.int i208), .val (.int i210), .val (.int i212), .val (.int i214), .val (.ref b220), .val (.ref b227), .val (.ref bm), .unset]) X236 C at_138 rfl rfl rfl ?_
            refine g_iload X236 C at_140 rfl rfl ?_
            have J158_240 : ∀ (i240 : Int32) (_ : (i207.toInt ≠ 0 ∧ i240 = (((i207 - (1 : Int32)) / (64 : Int32)) + (1 : Int32))) ∨ (i207.toInt = 0 ∧ i240 = (0 : Int32) ∧ i240.toInt = 0)), Go p e below RS T235 (mkF m 158 #[.val (.int p1), .val (.int p2), .val (.int p3), .val (.int p4), .val (.int p5), .val (.int i207), .val (.int i208), .val (.int i210), .val (.int i212), .val (.int i214), .val (.ref b220), .val (.ref b227), .val (.ref bm), .unset] [(.int i240)]) := by
              intro i240 hJ158
              have hew : i240.toInt = ((n + 63) / 64 : Nat) := by
                rcases hJ158 with ⟨q1, q2⟩ | ⟨q1, q2, q3⟩
                · have g1 := c_isub i207 1; have g3 := rng32 (i207 - 1); have g6 : (1 : Int32).toInt = 1 := by decide
                  have g7 := (c_idiv (i207 - 1) 64 64 (by decide) (by decide)).1 (by omega); have g8 := c_iadd ((i207 - 1) / 64) 1; have g9 := rng32 ((i207 - 1) / 64 + 1)
                  rw [q2]; omega
                · omega
              have hlw : (((n + 63) / 64).toInt32).toInt = ((n + 63) / 64 : Nat) := len_toInt (by omega)
              refine g_istore (L' := #[.val (.int p1), .val (.int p2), .val (.int p3), .val (.int p4), .val (.int p5), .val (.int i207), .val (.int i208), .val (.int i210), .val (.int i212), .val (.int i214), .val (.ref b220), .val (.ref b227), .val (.ref bm), .val (.int i240)]) X236 C at_158 rfl rfl rfl ?_
              refine g_aload X236 C at_160 rfl rfl rfl ?_
              refine g_arrlen (z := (((n + 63) / 64).toInt32)) X236 C A_m rfl at_162 rfl ?_
              refine g_iload X236 C at_163 rfl rfl ?_
              refine g_icmp_eq (a := (((n + 63) / 64).toInt32).toInt) (b := i240.toInt) X236 C at_165 rfl rfl (by decide) (pT := 170) (by decide) (pF := 168) rfl (fun hc165 => ?_) (fun hc165 => absurd hc165 (by omega))
              refine g_aload X236 C at_170 rfl rfl rfl ?_
              refine g_iconst (v := 0) X236 C at_172 (by decide) rfl ?_
              refine g_iload X236 C at_173 rfl rfl ?_
              refine g_iload X236 C at_175 rfl rfl ?_
              refine g_iload X236 C at_177 rfl rfl ?_
              refine g_iload X236 C at_179 rfl rfl ?_
              have hv0 : 0 < (n + 63) / 64 → ∀ f1 f2 f3 : Int32, (f1.toInt = 0 ↔ i208.toInt ≤ 0) → (f2.toInt = 0 ↔ i208.toInt ≤ 1) → (f3.toInt = 0 ↔ i208.toInt ≤ 2) → own_m nd 0 0 = own_bit 0 f1 i210 ||| own_bit 0 f2 i212 ||| own_bit 0 f3 i214 := by
                intro hl f1 f2 f3 e1 e2 e3
                have hki : ((0 : Int32)).toInt = 0 := by decide
                have s1 := own_sl64 i210 hx.1; have s2 := own_sl64 i212 hy_.1; have s3 := own_sl64 i214 hz.1
                have f1z : (f1.toInt = 0) := by omega
                have f2z : (f2.toInt = 0) := by omega
                have f3z : (f3.toInt = 0) := by omega
                simp only [own_m, own_bit, hki, s1, s2, s3, n0_, n1_, n2_]
                by_cases q0 : i210.toInt / 64 = 0 <;> by_cases q1 : i212.toInt / 64 = 0 <;> by_cases q2 : i214.toInt / 64 = 0 <;> simp [q0, q1, q2, f1z, f2z, f3z]
              refine g_static (argsL := [(.ref bm), (.int (0 : Int32)), (.int i208), (.int i210), (.int i212), (.int i214)]) (rest := []) (W := 0) X236 C (rmW l Z a0 hw bm (0 : Int32) i208 i210 i212 i214 (((n + 63) / 64).toInt32) (fun q => own_m nd q 0) 0 ((n + 63) / 64) h237 n0 hzM (by decide) rfl hlw hx.1 hy_.1 hz.1 hv0 A_m []) (hw _ (List.mem_of_getElem? (i := 54) rfl)) (hw _ (List.mem_of_getElem? (i := 55) rfl)) (hw _ (List.mem_of_getElem? (i := 56) rfl)) (hw _ (List.mem_of_getElem? (i := 57) rfl)) (by decide) pd_3 rfl rfl rfl rfl rfl (by decide) (by decide) (by decide) (by decide) at_181 rfl (fun r245 T242 h244 hQ246 X243 => ?_)
              obtain ⟨rfl, hh⟩ := hQ246; rw [hh] at X243
              show Go p e below RS T242 (mkF m 184 #[.val (.int p1), .val (.int p2), .val (.int p3), .val (.int p4), .val (.int p5), .val (.int i207), .val (.int i208), .val (.int i210), .val (.int i212), .val (.int i214), .val (.ref b220), .val (.ref b227), .val (.ref bm), .val (.int i240)] [(.int (1 : Int32))])
              refine g_if_eq (a := 1) X243 C at_184 (by decide) (by decide) (pT := 242) (by decide) (pF := 187) rfl (fun hc184 => absurd hc184 (by omega)) (fun hc184 => ?_)
              refine g_aload X243 C at_187 rfl rfl rfl ?_
              refine g_iconst (v := 1) X243 C at_189 (by decide) rfl ?_
              refine g_iload X243 C at_190 rfl rfl ?_
              refine g_iload X243 C at_192 rfl rfl ?_
              refine g_iload X243 C at_194 rfl rfl ?_
              refine g_iload X243 C at_196 rfl rfl ?_
              have hv1 : 1 < (n + 63) / 64 → ∀ f1 f2 f3 : Int32, (f1.toInt = 0 ↔ i208.toInt ≤ 0) → (f2.toInt = 0 ↔ i208.toInt ≤ 1) → (f3.toInt = 0 ↔ i208.toInt ≤ 2) → own_m nd 1 0 = own_bit 1 f1 i210 ||| own_bit 1 f2 i212 ||| own_bit 1 f3 i214 := by
                intro hl f1 f2 f3 e1 e2 e3
                have hki : ((1 : Int32)).toInt = 1 := by decide
                have s1 := own_sl64 i210 hx.1; have s2 := own_sl64 i212 hy_.1; have s3 := own_sl64 i214 hz.1
                have f1z : (f1.toInt = 0) := by omega
                have f2z : (f2.toInt = 0) := by omega
                have f3z : (f3.toInt = 0) := by omega
                simp only [own_m, own_bit, hki, s1, s2, s3, n0_, n1_, n2_]
                by_cases q0 : i210.toInt / 64 = 1 <;> by_cases q1 : i212.toInt / 64 = 1 <;> by_cases q2 : i214.toInt / 64 = 1 <;> simp [q0, q1, q2, f1z, f2z, f3z]
              refine g_static (argsL := [(.ref bm), (.int (1 : Int32)), (.int i208), (.int i210), (.int i212), (.int i214)]) (rest := []) (W := 0) X243 C (rmW l Z a0 hw bm (1 : Int32) i208 i210 i212 i214 (((n + 63) / 64).toInt32) (fun q => own_m nd q 0) 1 ((n + 63) / 64) h237 n0 hzM (by decide) rfl hlw hx.1 hy_.1 hz.1 hv1 A_m []) (hw _ (List.mem_of_getElem? (i := 54) rfl)) (hw _ (List.mem_of_getElem? (i := 55) rfl)) (hw _ (List.mem_of_getElem? (i := 56) rfl)) (hw _ (List.mem_of_getElem? (i := 57) rfl)) (by decide) pd_3 rfl rfl rfl rfl rfl (by decide) (by decide) (by decide) (by decide) at_198 rfl (fun r250 T247 h249 hQ251 X248 => ?_)
              obtain ⟨rfl, hh⟩ := hQ251; rw [hh] at X248
              show Go p e below RS T247 (mkF m 201 #[.val (.int p1), .val (.int p2), .val (.int p3), .val (.int p4), .val (.int p5), .val (.int i207), .val (.int i208), .val (.int i210), .val (.int i212), .val (.int i214), .val (.ref b220), .val (.ref b227), .val (.ref bm), .val (.int i240)] [(.int (1 : Int32))])
              refine g_if_eq (a := 1) X248 C at_201 (by decide) (by decide) (pT := 242) (by decide) (pF := 204) rfl (fun hc201 => absurd hc201 (by omega)) (fun hc201 => ?_)
              refine g_aload X248 C at_204 rfl rfl rfl ?_
              refine g_iconst (v := 2) X248 C at_206 (by decide) rfl ?_
              refine g_iload X248 C at_207 rfl rfl ?_
              refine g_iload X248 C at_209 rfl rfl ?_
              refine g_iload X248 C at_211 rfl rfl ?_
              refine g_iload X248 C at_213 rfl rfl ?_
              have hv2 : 2 < (n + 63) / 64 → ∀ f1 f2 f3 : Int32, (f1.toInt = 0 ↔ i208.toInt ≤ 0) → (f2.toInt = 0 ↔ i208.toInt ≤ 1) → (f3.toInt = 0 ↔ i208.toInt ≤ 2) → own_m nd 2 0 = own_bit 2 f1 i210 ||| own_bit 2 f2 i212 ||| own_bit 2 f3 i214 := by
                intro hl f1 f2 f3 e1 e2 e3
                have hki : ((2 : Int32)).toInt = 2 := by decide
                have s1 := own_sl64 i210 hx.1; have s2 := own_sl64 i212 hy_.1; have s3 := own_sl64 i214 hz.1
                have f1z : (f1.toInt = 0) := by omega
                have f2z : (f2.toInt = 0) := by omega
                have f3z : (f3.toInt = 0) := by omega
                simp only [own_m, own_bit, hki, s1, s2, s3, n0_, n1_, n2_]
                by_cases q0 : i210.toInt / 64 = 2 <;> by_cases q1 : i212.toInt / 64 = 2 <;> by_cases q2 : i214.toInt / 64 = 2 <;> simp [q0, q1, q2, f1z, f2z, f3z]
              refine g_static (argsL := [(.ref bm), (.int (2 : Int32)), (.int i208), (.int i210), (.int i212), (.int i214)]) (rest := []) (W := 0) X248 C (rmW l Z a0 hw bm (2 : Int32) i208 i210 i212 i214 (((n + 63) / 64).toInt32) (fun q => own_m nd q 0) 2 ((n + 63) / 64) h237 n0 hzM (by decide) rfl hlw hx.1 hy_.1 hz.1 hv2 A_m []) (hw _ (List.mem_of_getElem? (i := 54) rfl)) (hw _ (List.mem_of_getElem? (i := 55) rfl)) (hw _ (List.mem_of_getElem? (i := 56) rfl)) (hw _ (List.mem_of_getElem? (i := 57) rfl)) (by decide) pd_3 rfl rfl rfl rfl rfl (by decide) (by decide) (by decide) (by decide) at_215 rfl (fun r255 T252 h254 hQ256 X253 => ?_)
              obtain ⟨rfl, hh⟩ := hQ256; rw [hh] at X253
              show Go p e below RS T252 (mkF m 218 #[.val (.int p1), .val (.int p2), .val (.int p3), .val (.int p4), .val (.int p5), .val (.int i207), .val (.int i208), .val (.int i210), .val (.int i212), .val (.int i214), .val (.ref b220), .val (.ref b227), .val (.ref bm), .val (.int i240)] [(.int (1 : Int32))])
              refine g_if_eq (a := 1) X253 C at_218 (by decide) (by decide) (pT := 242) (by decide) (pF := 221) rfl (fun hc218 => absurd hc218 (by omega)) (fun hc218 => ?_)
              refine g_aload X253 C at_221 rfl rfl rfl ?_
              refine g_iconst (v := 3) X253 C at_223 (by decide) rfl ?_
              refine g_iload X253 C at_224 rfl rfl ?_
              refine g_iload X253 C at_226 rfl rfl ?_
              refine g_iload X253 C at_228 rfl rfl ?_
              refine g_iload X253 C at_230 rfl rfl ?_
              have hv3 : 3 < (n + 63) / 64 → ∀ f1 f2 f3 : Int32, (f1.toInt = 0 ↔ i208.toInt ≤ 0) → (f2.toInt = 0 ↔ i208.toInt ≤ 1) → (f3.toInt = 0 ↔ i208.toInt ≤ 2) → own_m nd 3 0 = own_bit 3 f1 i210 ||| own_bit 3 f2 i212 ||| own_bit 3 f3 i214 := by
                intro hl f1 f2 f3 e1 e2 e3
                have hki : ((3 : Int32)).toInt = 3 := by decide
                have s1 := own_sl64 i210 hx.1; have s2 := own_sl64 i212 hy_.1; have s3 := own_sl64 i214 hz.1
                have f1z : (f1.toInt = 0) := by omega
                have f2z : (f2.toInt = 0) := by omega
                have f3z : (f3.toInt = 0) := by omega
                simp only [own_m, own_bit, hki, s1, s2, s3, n0_, n1_, n2_]
                by_cases q0 : i210.toInt / 64 = 3 <;> by_cases q1 : i212.toInt / 64 = 3 <;> by_cases q2 : i214.toInt / 64 = 3 <;> simp [q0, q1, q2, f1z, f2z, f3z]
              refine g_static (argsL := [(.ref bm), (.int (3 : Int32)), (.int i208), (.int i210), (.int i212), (.int i214)]) (rest := []) (W := 0) X253 C (rmW l Z a0 hw bm (3 : Int32) i208 i210 i212 i214 (((n + 63) / 64).toInt32) (fun q => own_m nd q 0) 3 ((n + 63) / 64) h237 n0 hzM (by decide) rfl hlw hx.1 hy_.1 hz.1 hv3 A_m []) (hw _ (List.mem_of_getElem? (i := 54) rfl)) (hw _ (List.mem_of_getElem? (i := 55) rfl)) (hw _ (List.mem_of_getElem? (i := 56) rfl)) (hw _ (List.mem_of_getElem? (i := 57) rfl)) (by decide) pd_3 rfl rfl rfl rfl rfl (by decide) (by decide) (by decide) (by decide) at_232 rfl (fun r260 T257 h259 hQ261 X258 => ?_)
              obtain ⟨rfl, hh⟩ := hQ261; rw [hh] at X258
              show Go p e below RS T257 (mkF m 235 #[.val (.int p1), .val (.int p2), .val (.int p3), .val (.int p4), .val (.int p5), .val (.int i207), .val (.int i208), .val (.int i210), .val (.int i212), .val (.int i214), .val (.ref b220), .val (.ref b227), .val (.ref bm), .val (.int i240)] [(.int (1 : Int32))])
              refine g_if_eq (a := 1) X258 C at_235 (by decide) (by decide) (pT := 242) (by decide) (pF := 238) rfl (fun hc235 => absurd hc235 (by omega)) (fun hc235 => ?_)
              refine g_iconst (v := 1) X258 C at_238 (by decide) rfl ?_
              refine g_goto (pc' := 243) X258 C at_239 (by decide) (by decide) ?_
              rw [hRS]
              refine g_retZ X258 C at_243 ?_ (by decide) (by decide)
              exact rfl
            refine g_if_ne (a := i207.toInt) X236 C at_142 rfl (by decide) (pT := 149) (by decide) (pF := 145) rfl (fun hc142 => ?_) (fun hc142 => ?_)
            ·
              refine g_iload X236 C at_149 rfl rfl ?_
              refine g_iconst (v := 1) X236 C at_151 (by decide) rfl ?_
              refine g_isub X236 C at_152 rfl ?_
              refine g_bipush (v := 64) X236 C at_153 (by decide) rfl ?_
              refine g_idiv X236 C at_155 (by decide) rfl ?_
              refine g_iconst (v := 1) X236 C at_156 (by decide) rfl ?_
              refine g_iadd X236 C at_157 rfl ?_
              exact J158_240 (((i207 - (1 : Int32)) / (64 : Int32)) + (1 : Int32)) (Or.inl (⟨hc142, rfl⟩))
            ·
              refine g_iconst (v := 0) X236 C at_145 (by decide) rfl ?_
              refine g_goto (pc' := 158) X236 C at_146 (by decide) (by decide) ?_
              exact J158_240 (0 : Int32) (Or.inr (⟨hc142, rfl, by decide⟩))
          ·
            refine g_aload X217 C at_90 rfl rfl rfl ?_
            refine g_iconst (v := 0) X217 C at_92 (by decide) rfl ?_
            refine g_iload X217 C at_93 rfl rfl ?_
            refine g_iastore (i := 0) X217 C A_b220 (by decide) (by omega) ga_b220 at_95 rfl (fun T262 h264 X263 A_b220 K265 => ?_)
            have hz266 := Nat.le_trans hz222 K265.1
            refine g_iload X263 C at_96 rfl rfl ?_
            refine g_iconst (v := 1) X263 C at_98 (by decide) rfl ?_
            refine g_icmp_le (a := i208.toInt) (b := 1) X263 C at_99 rfl (by decide) (by decide) (pT := 108) (by decide) (pF := 102) rfl (fun hc99 => ?_) (fun hc99 => ?_)
            ·
              refine g_iload X263 C at_108 rfl rfl ?_
              refine g_iconst (v := 2) X263 C at_110 (by decide) rfl ?_
              refine g_icmp_le (a := i208.toInt) (b := 2) X263 C at_111 rfl (by decide) (by decide) (pT := 120) (by decide) (pF := 114) rfl (fun hc111 => ?_) (fun hc111 => absurd hc111 (by omega))
              have hkk : i208.toInt = 1 := by omega
              obtain ⟨nd, hnd⟩ : ∃ nd : Nat → Int32, nd = fun i => if i = 0 then i210 else if i = 1 then i212 else i214 := ⟨_, rfl⟩
              have A_b220 : Ar Z h264 b220 .int 1 (fun i => .int (nd i)) := by
                have q := A_b220; rw [show i208.toInt.toNat = 1 by omega] at q
                refine q.congr (fun j hj => ?_)
                have hq : j = 0 := by omega
                rcases hq with rfl <;> rw [hnd] <;> rfl
              have n0_ : nd 0 = i210 := by rw [hnd]; rfl
              have n1_ : nd 1 = i212 := by rw [hnd]; rfl
              have n2_ : nd 2 = i214 := by rw [hnd]; rfl
              have hnode : ∀ i, i < 1 → 0 ≤ (nd i).toInt ∧ (nd i).toInt / 64 < ((n + 63) / 64 : Nat) := by
                intro i hi; have hq : i = 0 ∨ i = 1 ∨ i = 2 := by omega
                rcases hq with rfl | rfl | rfl <;> first | rw [n0_] | rw [n1_] | rw [n2_]
                all_goals omega
              refine g_newO (vs := [.null, .null, .null, (.long (0 : Int64)), (.long (0 : Int64)), (.long (0 : Int64)), (.long (0 : Int64)), (.int (0 : Int32)), (.int (0 : Int32)), (.long (0 : Int64)), .null, .null, .null, .null, .null]) X263 C (hw _ (List.mem_of_getElem? (i := 2) rfl)) (CF_CT hw) (hw _ (List.mem_of_getElem? (i := 4) rfl)) (by decide) (by decide) (by decide) at_120 rfl (fun T267 h269 b271 hb272 X268 O_b271 K270 => ?_)
              have ne_b220_b271 : b220 ≠ b271 := Nat.ne_of_lt (hb272 ▸ A_b220.lt)
              have ga_b271 : n0 ≤ b271 := hb272 ▸ hz266
              have A_b220 := A_b220.keep K270 nin0
              have hz273 := Nat.le_trans hz266 K270.1
              refine g_dup X268 C at_123 rfl rfl ?_
              refine g_iload X268 C at_124 rfl rfl ?_
              refine g_special (argsL := [(.int i207)]) (rest := [(.ref b271)]) (W := 1) (a := b271) X268 C (rmI l Z a0 hw b271 i207 n h269 n0 hz273 hn hn256 ga_b271 O_b271 []) rfl rfl (hw _ (List.mem_of_getElem? (i := 5) rfl)) (hw _ (List.mem_of_getElem? (i := 6) rfl)) (hw _ (List.mem_of_getElem? (i := 4) rfl)) (hw _ (List.mem_of_getElem? (i := 7) rfl)) (by decide) pd_1 rfl rfl rfl rfl rfl (by decide) (by decide) (by decide) (by decide) at_126 rfl (fun r277 T274 h276 hQ278 X275 => ?_)
              obtain ⟨rfl, KI, c1, c2, c3, c4, c5, c6, c7, c8, wv, lw, hwv, O_t⟩ := hQ278
              have hzI := Nat.le_trans hz273 KI.1
              have A_b220 := A_b220.keep KI (ninS ne_b220_b271 nin0)
              show Go p e below RS T274 (mkF m 129 #[.val (.int p1), .val (.int p2), .val (.int p3), .val (.int p4), .val (.int p5), .val (.int i207), .val (.int i208), .val (.int i210), .val (.int i212), .val (.int i214), .val (.ref b220), .unset, .unset, .unset] [(.ref b271)])
              refine g_astore (L' := #[.val (.int p1), .val (.int p2), .val (.int p3), .val (.int p4), .val (.int p5), .val (.int i207), .val (.int i208), .val (.int i210), .val (.int i212), .val (.int i214), .val (.ref b220), .val (.ref b271), .unset, .unset]) X275 C at_129 rfl rfl rfl ?_
              refine g_aload X275 C at_131 rfl rfl rfl ?_
              refine g_aload X275 C at_133 rfl rfl rfl ?_
              refine g_virtual (argsL := [(.ref b220)]) (rest := []) (W := 0) (a := b271) X275 C (rmM l Z a0 hw b271 b220 wv (1 : Int32) _ nd ((n + 63) / 64) 1 h276 n0 hzI hwv (by omega) (by decide) (by decide) (by decide) hnode O_t rfl A_b220 []) O_t.1 (hw _ (List.mem_of_getElem? (i := 49) rfl)) (hw _ (List.mem_of_getElem? (i := 50) rfl)) (hw _ (List.mem_of_getElem? (i := 52) rfl)) (hw _ (List.mem_of_getElem? (i := 51) rfl)) (hw _ (List.mem_of_getElem? (i := 4) rfl)) (hw _ (List.mem_of_getElem? (i := 53) rfl)) (by decide) pd_2 rfl rfl rfl rfl rfl (by decide) (by decide) (by decide) (by decide) at_135 rfl (fun r282 T279 h281 hQ283 X280 => ?_)
              obtain ⟨bm, rfl, KM, A_m⟩ := hQ283
              have hzM := Nat.le_trans hzI KM.1
              show Go p e below RS T279 (mkF m 138 #[.val (.int p1), .val (.int p2), .val (.int p3), .val (.int p4), .val (.int p5), .val (.int i207), .val (.int i208), .val (.int i210), .val (.int i212), .val (.int i214), .val (.ref b220), .val (.ref b271), .unset, .unset] [(.ref bm)])
              refine g_astore (L' := #[.val (.int p1), .val (.int p2), .val (.int p3), .val (.int p4), .val (.int p5), .val (.int i207), .val (.int i208), .val (.int i210), .val (.int i212), .val (.int i214), .val (.ref b220), .val (.ref b271), .val (.ref bm), .unset]) X280 C at_138 rfl rfl rfl ?_
              refine g_iload X280 C at_140 rfl rfl ?_
              have J158_284 : ∀ (i284 : Int32) (_ : (i207.toInt ≠ 0 ∧ i284 = (((i207 - (1 : Int32)) / (64 : Int32)) + (1 : Int32))) ∨ (i207.toInt = 0 ∧ i284 = (0 : Int32) ∧ i284.toInt = 0)), Go p e below RS T279 (mkF m 158 #[.val (.int p1), .val (.int p2), .val (.int p3), .val (.int p4), .val (.int p5), .val (.int i207), .val (.int i208), .val (.int i210), .val (.int i212), .val (.int i214), .val (.ref b220), .val (.ref b271), .val (.ref bm), .unset] [(.int i284)]) := by
                intro i284 hJ158
                have hew : i284.toInt = ((n + 63) / 64 : Nat) := by
                  rcases hJ158 with ⟨q1, q2⟩ | ⟨q1, q2, q3⟩
                  · have g1 := c_isub i207 1; have g3 := rng32 (i207 - 1); have g6 : (1 : Int32).toInt = 1 := by decide
                    have g7 := (c_idiv (i207 - 1) 64 64 (by decide) (by decide)).1 (by omega); have g8 := c_iadd ((i207 - 1) / 64) 1; have g9 := rng32 ((i207 - 1) / 64 + 1)
                    rw [q2]; omega
                  · omega
                have hlw : (((n + 63) / 64).toInt32).toInt = ((n + 63) / 64 : Nat) := len_toInt (by omega)
                refine g_istore (L' := #[.val (.int p1), .val (.int p2), .val (.int p3), .val (.int p4), .val (.int p5), .val (.int i207), .val (.int i208), .val (.int i210), .val (.int i212), .val (.int i214), .val (.ref b220), .val (.ref b271), .val (.ref bm), .val (.int i284)]) X280 C at_158 rfl rfl rfl ?_
                refine g_aload X280 C at_160 rfl rfl rfl ?_
                refine g_arrlen (z := (((n + 63) / 64).toInt32)) X280 C A_m rfl at_162 rfl ?_
                refine g_iload X280 C at_163 rfl rfl ?_
                refine g_icmp_eq (a := (((n + 63) / 64).toInt32).toInt) (b := i284.toInt) X280 C at_165 rfl rfl (by decide) (pT := 170) (by decide) (pF := 168) rfl (fun hc165 => ?_) (fun hc165 => absurd hc165 (by omega))
                refine g_aload X280 C at_170 rfl rfl rfl ?_
                refine g_iconst (v := 0) X280 C at_172 (by decide) rfl ?_
                refine g_iload X280 C at_173 rfl rfl ?_
                refine g_iload X280 C at_175 rfl rfl ?_
                refine g_iload X280 C at_177 rfl rfl ?_
                refine g_iload X280 C at_179 rfl rfl ?_
                have hv0 : 0 < (n + 63) / 64 → ∀ f1 f2 f3 : Int32, (f1.toInt = 0 ↔ i208.toInt ≤ 0) → (f2.toInt = 0 ↔ i208.toInt ≤ 1) → (f3.toInt = 0 ↔ i208.toInt ≤ 2) → own_m nd 0 1 = own_bit 0 f1 i210 ||| own_bit 0 f2 i212 ||| own_bit 0 f3 i214 := by
                  intro hl f1 f2 f3 e1 e2 e3
                  have hki : ((0 : Int32)).toInt = 0 := by decide
                  have s1 := own_sl64 i210 hx.1; have s2 := own_sl64 i212 hy_.1; have s3 := own_sl64 i214 hz.1
                  have f1z : ¬ (f1.toInt = 0) := by omega
                  have f2z : (f2.toInt = 0) := by omega
                  have f3z : (f3.toInt = 0) := by omega
                  simp only [own_m, own_bit, hki, s1, s2, s3, n0_, n1_, n2_]
                  by_cases q0 : i210.toInt / 64 = 0 <;> by_cases q1 : i212.toInt / 64 = 0 <;> by_cases q2 : i214.toInt / 64 = 0 <;> simp [q0, q1, q2, f1z, f2z, f3z]
                refine g_static (argsL := [(.ref bm), (.int (0 : Int32)), (.int i208), (.int i210), (.int i212), (.int i214)]) (rest := []) (W := 0) X280 C (rmW l Z a0 hw bm (0 : Int32) i208 i210 i212 i214 (((n + 63) / 64).toInt32) (fun q => own_m nd q 1) 0 ((n + 63) / 64) h281 n0 hzM (by decide) rfl hlw hx.1 hy_.1 hz.1 hv0 A_m []) (hw _ (List.mem_of_getElem? (i := 54) rfl)) (hw _ (List.mem_of_getElem? (i := 55) rfl)) (hw _ (List.mem_of_getElem? (i := 56) rfl)) (hw _ (List.mem_of_getElem? (i := 57) rfl)) (by decide) pd_3 rfl rfl rfl rfl rfl (by decide) (by decide) (by decide) (by decide) at_181 rfl (fun r289 T286 h288 hQ290 X287 => ?_)
                obtain ⟨rfl, hh⟩ := hQ290; rw [hh] at X287
                show Go p e below RS T286 (mkF m 184 #[.val (.int p1), .val (.int p2), .val (.int p3), .val (.int p4), .val (.int p5), .val (.int i207), .val (.int i208), .val (.int i210), .val (.int i212), .val (.int i214), .val (.ref b220), .val (.ref b271), .val (.ref bm), .val (.int i284)] [(.int (1 : Int32))])
                refine g_if_eq (a := 1) X287 C at_184 (by decide) (by decide) (pT := 242) (by decide) (pF := 187) rfl (fun hc184 => absurd hc184 (by omega)) (fun hc184 => ?_)
                refine g_aload X287 C at_187 rfl rfl rfl ?_
                refine g_iconst (v := 1) X287 C at_189 (by decide) rfl ?_
                refine g_iload X287 C at_190 rfl rfl ?_
                refine g_iload X287 C at_192 rfl rfl ?_
                refine g_iload X287 C at_194 rfl rfl ?_
                refine g_iload X287 C at_196 rfl rfl ?_
                have hv1 : 1 < (n + 63) / 64 → ∀ f1 f2 f3 : Int32, (f1.toInt = 0 ↔ i208.toInt ≤ 0) → (f2.toInt = 0 ↔ i208.toInt ≤ 1) → (f3.toInt = 0 ↔ i208.toInt ≤ 2) → own_m nd 1 1 = own_bit 1 f1 i210 ||| own_bit 1 f2 i212 ||| own_bit 1 f3 i214 := by
                  intro hl f1 f2 f3 e1 e2 e3
                  have hki : ((1 : Int32)).toInt = 1 := by decide
                  have s1 := own_sl64 i210 hx.1; have s2 := own_sl64 i212 hy_.1; have s3 := own_sl64 i214 hz.1
                  have f1z : ¬ (f1.toInt = 0) := by omega
                  have f2z : (f2.toInt = 0) := by omega
                  have f3z : (f3.toInt = 0) := by omega
                  simp only [own_m, own_bit, hki, s1, s2, s3, n0_, n1_, n2_]
                  by_cases q0 : i210.toInt / 64 = 1 <;> by_cases q1 : i212.toInt / 64 = 1 <;> by_cases q2 : i214.toInt / 64 = 1 <;> simp [q0, q1, q2, f1z, f2z, f3z]
                refine g_static (argsL := [(.ref bm), (.int (1 : Int32)), (.int i208), (.int i210), (.int i212), (.int i214)]) (rest := []) (W := 0) X287 C (rmW l Z a0 hw bm (1 : Int32) i208 i210 i212 i214 (((n + 63) / 64).toInt32) (fun q => own_m nd q 1) 1 ((n + 63) / 64) h281 n0 hzM (by decide) rfl hlw hx.1 hy_.1 hz.1 hv1 A_m []) (hw _ (List.mem_of_getElem? (i := 54) rfl)) (hw _ (List.mem_of_getElem? (i := 55) rfl)) (hw _ (List.mem_of_getElem? (i := 56) rfl)) (hw _ (List.mem_of_getElem? (i := 57) rfl)) (by decide) pd_3 rfl rfl rfl rfl rfl (by decide) (by decide) (by decide) (by decide) at_198 rfl (fun r294 T291 h293 hQ295 X292 => ?_)
                obtain ⟨rfl, hh⟩ := hQ295; rw [hh] at X292
                show Go p e below RS T291 (mkF m 201 #[.val (.int p1), .val (.int p2), .val (.int p3), .val (.int p4), .val (.int p5), .val (.int i207), .val (.int i208), .val (.int i210), .val (.int i212), .val (.int i214), .val (.ref b220), .val (.ref b271), .val (.ref bm), .val (.int i284)] [(.int (1 : Int32))])
                refine g_if_eq (a := 1) X292 C at_201 (by decide) (by decide) (pT := 242) (by decide) (pF := 204) rfl (fun hc201 => absurd hc201 (by omega)) (fun hc201 => ?_)
                refine g_aload X292 C at_204 rfl rfl rfl ?_
                refine g_iconst (v := 2) X292 C at_206 (by decide) rfl ?_
                refine g_iload X292 C at_207 rfl rfl ?_
                refine g_iload X292 C at_209 rfl rfl ?_
                refine g_iload X292 C at_211 rfl rfl ?_
                refine g_iload X292 C at_213 rfl rfl ?_
                have hv2 : 2 < (n + 63) / 64 → ∀ f1 f2 f3 : Int32, (f1.toInt = 0 ↔ i208.toInt ≤ 0) → (f2.toInt = 0 ↔ i208.toInt ≤ 1) → (f3.toInt = 0 ↔ i208.toInt ≤ 2) → own_m nd 2 1 = own_bit 2 f1 i210 ||| own_bit 2 f2 i212 ||| own_bit 2 f3 i214 := by
                  intro hl f1 f2 f3 e1 e2 e3
                  have hki : ((2 : Int32)).toInt = 2 := by decide
                  have s1 := own_sl64 i210 hx.1; have s2 := own_sl64 i212 hy_.1; have s3 := own_sl64 i214 hz.1
                  have f1z : ¬ (f1.toInt = 0) := by omega
                  have f2z : (f2.toInt = 0) := by omega
                  have f3z : (f3.toInt = 0) := by omega
                  simp only [own_m, own_bit, hki, s1, s2, s3, n0_, n1_, n2_]
                  by_cases q0 : i210.toInt / 64 = 2 <;> by_cases q1 : i212.toInt / 64 = 2 <;> by_cases q2 : i214.toInt / 64 = 2 <;> simp [q0, q1, q2, f1z, f2z, f3z]
                refine g_static (argsL := [(.ref bm), (.int (2 : Int32)), (.int i208), (.int i210), (.int i212), (.int i214)]) (rest := []) (W := 0) X292 C (rmW l Z a0 hw bm (2 : Int32) i208 i210 i212 i214 (((n + 63) / 64).toInt32) (fun q => own_m nd q 1) 2 ((n + 63) / 64) h281 n0 hzM (by decide) rfl hlw hx.1 hy_.1 hz.1 hv2 A_m []) (hw _ (List.mem_of_getElem? (i := 54) rfl)) (hw _ (List.mem_of_getElem? (i := 55) rfl)) (hw _ (List.mem_of_getElem? (i := 56) rfl)) (hw _ (List.mem_of_getElem? (i := 57) rfl)) (by decide) pd_3 rfl rfl rfl rfl rfl (by decide) (by decide) (by decide) (by decide) at_215 rfl (fun r299 T296 h298 hQ300 X297 => ?_)
                obtain ⟨rfl, hh⟩ := hQ300; rw [hh] at X297
                show Go p e below RS T296 (mkF m 218 #[.val (.int p1), .val (.int p2), .val (.int p3), .val (.int p4), .val (.int p5), .val (.int i207), .val (.int i208), .val (.int i210), .val (.int i212), .val (.int i214), .val (.ref b220), .val (.ref b271), .val (.ref bm), .val (.int i284)] [(.int (1 : Int32))])
                refine g_if_eq (a := 1) X297 C at_218 (by decide) (by decide) (pT := 242) (by decide) (pF := 221) rfl (fun hc218 => absurd hc218 (by omega)) (fun hc218 => ?_)
                refine g_aload X297 C at_221 rfl rfl rfl ?_
                refine g_iconst (v := 3) X297 C at_223 (by decide) rfl ?_
                refine g_iload X297 C at_224 rfl rfl ?_
                refine g_iload X297 C at_226 rfl rfl ?_
                refine g_iload X297 C at_228 rfl rfl ?_
                refine g_iload X297 C at_230 rfl rfl ?_
                have hv3 : 3 < (n + 63) / 64 → ∀ f1 f2 f3 : Int32, (f1.toInt = 0 ↔ i208.toInt ≤ 0) → (f2.toInt = 0 ↔ i208.toInt ≤ 1) → (f3.toInt = 0 ↔ i208.toInt ≤ 2) → own_m nd 3 1 = own_bit 3 f1 i210 ||| own_bit 3 f2 i212 ||| own_bit 3 f3 i214 := by
                  intro hl f1 f2 f3 e1 e2 e3
                  have hki : ((3 : Int32)).toInt = 3 := by decide
                  have s1 := own_sl64 i210 hx.1; have s2 := own_sl64 i212 hy_.1; have s3 := own_sl64 i214 hz.1
                  have f1z : ¬ (f1.toInt = 0) := by omega
                  have f2z : (f2.toInt = 0) := by omega
                  have f3z : (f3.toInt = 0) := by omega
                  simp only [own_m, own_bit, hki, s1, s2, s3, n0_, n1_, n2_]
                  by_cases q0 : i210.toInt / 64 = 3 <;> by_cases q1 : i212.toInt / 64 = 3 <;> by_cases q2 : i214.toInt / 64 = 3 <;> simp [q0, q1, q2, f1z, f2z, f3z]
                refine g_static (argsL := [(.ref bm), (.int (3 : Int32)), (.int i208), (.int i210), (.int i212), (.int i214)]) (rest := []) (W := 0) X297 C (rmW l Z a0 hw bm (3 : Int32) i208 i210 i212 i214 (((n + 63) / 64).toInt32) (fun q => own_m nd q 1) 3 ((n + 63) / 64) h281 n0 hzM (by decide) rfl hlw hx.1 hy_.1 hz.1 hv3 A_m []) (hw _ (List.mem_of_getElem? (i := 54) rfl)) (hw _ (List.mem_of_getElem? (i := 55) rfl)) (hw _ (List.mem_of_getElem? (i := 56) rfl)) (hw _ (List.mem_of_getElem? (i := 57) rfl)) (by decide) pd_3 rfl rfl rfl rfl rfl (by decide) (by decide) (by decide) (by decide) at_232 rfl (fun r304 T301 h303 hQ305 X302 => ?_)
                obtain ⟨rfl, hh⟩ := hQ305; rw [hh] at X302
                show Go p e below RS T301 (mkF m 235 #[.val (.int p1), .val (.int p2), .val (.int p3), .val (.int p4), .val (.int p5), .val (.int i207), .val (.int i208), .val (.int i210), .val (.int i212), .val (.int i214), .val (.ref b220), .val (.ref b271), .val (.ref bm), .val (.int i284)] [(.int (1 : Int32))])
                refine g_if_eq (a := 1) X302 C at_235 (by decide) (by decide) (pT := 242) (by decide) (pF := 238) rfl (fun hc235 => absurd hc235 (by omega)) (fun hc235 => ?_)
                refine g_iconst (v := 1) X302 C at_238 (by decide) rfl ?_
                refine g_goto (pc' := 243) X302 C at_239 (by decide) (by decide) ?_
                rw [hRS]
                refine g_retZ X302 C at_243 ?_ (by decide) (by decide)
                exact rfl
              refine g_if_ne (a := i207.toInt) X280 C at_142 rfl (by decide) (pT := 149) (by decide) (pF := 145) rfl (fun hc142 => ?_) (fun hc142 => ?_)
              ·
                refine g_iload X280 C at_149 rfl rfl ?_
                refine g_iconst (v := 1) X280 C at_151 (by decide) rfl ?_
                refine g_isub X280 C at_152 rfl ?_
                refine g_bipush (v := 64) X280 C at_153 (by decide) rfl ?_
                refine g_idiv X280 C at_155 (by decide) rfl ?_
                refine g_iconst (v := 1) X280 C at_156 (by decide) rfl ?_
                refine g_iadd X280 C at_157 rfl ?_
                exact J158_284 (((i207 - (1 : Int32)) / (64 : Int32)) + (1 : Int32)) (Or.inl (⟨hc142, rfl⟩))
              ·
                refine g_iconst (v := 0) X280 C at_145 (by decide) rfl ?_
                refine g_goto (pc' := 158) X280 C at_146 (by decide) (by decide) ?_
                exact J158_284 (0 : Int32) (Or.inr (⟨hc142, rfl, by decide⟩))
            ·
              refine g_aload X263 C at_102 rfl rfl rfl ?_
              refine g_iconst (v := 1) X263 C at_104 (by decide) rfl ?_
              refine g_iload X263 C at_105 rfl rfl ?_
              refine g_iastore (i := 1) X263 C A_b220 (by decide) (by omega) ga_b220 at_107 rfl (fun T306 h308 X307 A_b220 K309 => ?_)
              have hz310 := Nat.le_trans hz266 K309.1
              refine g_iload X307 C at_108 rfl rfl ?_
              refine g_iconst (v := 2) X307 C at_110 (by decide) rfl ?_
              refine g_icmp_le (a := i208.toInt) (b := 2) X307 C at_111 rfl (by decide) (by decide) (pT := 120) (by decide) (pF := 114) rfl (fun hc111 => ?_) (fun hc111 => ?_)
              ·
                have hkk : i208.toInt = 2 := by omega
                obtain ⟨nd, hnd⟩ : ∃ nd : Nat → Int32, nd = fun i => if i = 0 then i210 else if i = 1 then i212 else i214 := ⟨_, rfl⟩
                have A_b220 : Ar Z h308 b220 .int 2 (fun i => .int (nd i)) := by
                  have q := A_b220; rw [show i208.toInt.toNat = 2 by omega] at q
                  refine q.congr (fun j hj => ?_)
                  have hq : j = 0 ∨ j = 1 := by omega
                  rcases hq with rfl | rfl <;> rw [hnd] <;> rfl
                have n0_ : nd 0 = i210 := by rw [hnd]; rfl
                have n1_ : nd 1 = i212 := by rw [hnd]; rfl
                have n2_ : nd 2 = i214 := by rw [hnd]; rfl
                have hnode : ∀ i, i < 2 → 0 ≤ (nd i).toInt ∧ (nd i).toInt / 64 < ((n + 63) / 64 : Nat) := by
                  intro i hi; have hq : i = 0 ∨ i = 1 ∨ i = 2 := by omega
                  rcases hq with rfl | rfl | rfl <;> first | rw [n0_] | rw [n1_] | rw [n2_]
                  all_goals omega
                refine g_newO (vs := [.null, .null, .null, (.long (0 : Int64)), (.long (0 : Int64)), (.long (0 : Int64)), (.long (0 : Int64)), (.int (0 : Int32)), (.int (0 : Int32)), (.long (0 : Int64)), .null, .null, .null, .null, .null]) X307 C (hw _ (List.mem_of_getElem? (i := 2) rfl)) (CF_CT hw) (hw _ (List.mem_of_getElem? (i := 4) rfl)) (by decide) (by decide) (by decide) at_120 rfl (fun T311 h313 b315 hb316 X312 O_b315 K314 => ?_)
                have ne_b220_b315 : b220 ≠ b315 := Nat.ne_of_lt (hb316 ▸ A_b220.lt)
                have ga_b315 : n0 ≤ b315 := hb316 ▸ hz310
                have A_b220 := A_b220.keep K314 nin0
                have hz317 := Nat.le_trans hz310 K314.1
                refine g_dup X312 C at_123 rfl rfl ?_
                refine g_iload X312 C at_124 rfl rfl ?_
                refine g_special (argsL := [(.int i207)]) (rest := [(.ref b315)]) (W := 1) (a := b315) X312 C (rmI l Z a0 hw b315 i207 n h313 n0 hz317 hn hn256 ga_b315 O_b315 []) rfl rfl (hw _ (List.mem_of_getElem? (i := 5) rfl)) (hw _ (List.mem_of_getElem? (i := 6) rfl)) (hw _ (List.mem_of_getElem? (i := 4) rfl)) (hw _ (List.mem_of_getElem? (i := 7) rfl)) (by decide) pd_1 rfl rfl rfl rfl rfl (by decide) (by decide) (by decide) (by decide) at_126 rfl (fun r321 T318 h320 hQ322 X319 => ?_)
                obtain ⟨rfl, KI, c1, c2, c3, c4, c5, c6, c7, c8, wv, lw, hwv, O_t⟩ := hQ322
                have hzI := Nat.le_trans hz317 KI.1
                have A_b220 := A_b220.keep KI (ninS ne_b220_b315 nin0)
                show Go p e below RS T318 (mkF m 129 #[.val (.int p1), .val (.int p2), .val (.int p3), .val (.int p4), .val (.int p5), .val (.int i207), .val (.int i208), .val (.int i210), .val (.int i212), .val (.int i214), .val (.ref b220), .unset, .unset, .unset] [(.ref b315)])
                refine g_astore (L' := #[.val (.int p1), .val (.int p2), .val (.int p3), .val (.int p4), .val (.int p5), .val (.int i207), .val (.int i208), .val (.int i210), .val (.int i212), .val (.int i214), .val (.ref b220), .val (.ref b315), .unset, .unset]) X319 C at_129 rfl rfl rfl ?_
                refine g_aload X319 C at_131 rfl rfl rfl ?_
                refine g_aload X319 C at_133 rfl rfl rfl ?_
                refine g_virtual (argsL := [(.ref b220)]) (rest := []) (W := 0) (a := b315) X319 C (rmM l Z a0 hw b315 b220 wv (2 : Int32) _ nd ((n + 63) / 64) 2 h320 n0 hzI hwv (by omega) (by decide) (by decide) (by decide) hnode O_t rfl A_b220 []) O_t.1 (hw _ (List.mem_of_getElem? (i := 49) rfl)) (hw _ (List.mem_of_getElem? (i := 50) rfl)) (hw _ (List.mem_of_getElem? (i := 52) rfl)) (hw _ (List.mem_of_getElem? (i := 51) rfl)) (hw _ (List.mem_of_getElem? (i := 4) rfl)) (hw _ (List.mem_of_getElem? (i := 53) rfl)) (by decide) pd_2 rfl rfl rfl rfl rfl (by decide) (by decide) (by decide) (by decide) at_135 rfl (fun r326 T323 h325 hQ327 X324 => ?_)
                obtain ⟨bm, rfl, KM, A_m⟩ := hQ327
                have hzM := Nat.le_trans hzI KM.1
                show Go p e below RS T323 (mkF m 138 #[.val (.int p1), .val (.int p2), .val (.int p3), .val (.int p4), .val (.int p5), .val (.int i207), .val (.int i208), .val (.int i210), .val (.int i212), .val (.int i214), .val (.ref b220), .val (.ref b315), .unset, .unset] [(.ref bm)])
                refine g_astore (L' := #[.val (.int p1), .val (.int p2), .val (.int p3), .val (.int p4), .val (.int p5), .val (.int i207), .val (.int i208), .val (.int i210), .val (.int i212), .val (.int i214), .val (.ref b220), .val (.ref b315), .val (.ref bm), .unset]) X324 C at_138 rfl rfl rfl ?_
                refine g_iload X324 C at_140 rfl rfl ?_
                have J158_328 : ∀ (i328 : Int32) (_ : (i207.toInt ≠ 0 ∧ i328 = (((i207 - (1 : Int32)) / (64 : Int32)) + (1 : Int32))) ∨ (i207.toInt = 0 ∧ i328 = (0 : Int32) ∧ i328.toInt = 0)), Go p e below RS T323 (mkF m 158 #[.val (.int p1), .val (.int p2), .val (.int p3), .val (.int p4), .val (.int p5), .val (.int i207), .val (.int i208), .val (.int i210), .val (.int i212), .val (.int i214), .val (.ref b220), .val (.ref b315), .val (.ref bm), .unset] [(.int i328)]) := by
                  intro i328 hJ158
                  have hew : i328.toInt = ((n + 63) / 64 : Nat) := by
                    rcases hJ158 with ⟨q1, q2⟩ | ⟨q1, q2, q3⟩
                    · have g1 := c_isub i207 1; have g3 := rng32 (i207 - 1); have g6 : (1 : Int32).toInt = 1 := by decide
                      have g7 := (c_idiv (i207 - 1) 64 64 (by decide) (by decide)).1 (by omega); have g8 := c_iadd ((i207 - 1) / 64) 1; have g9 := rng32 ((i207 - 1) / 64 + 1)
                      rw [q2]; omega
                    · omega
                  have hlw : (((n + 63) / 64).toInt32).toInt = ((n + 63) / 64 : Nat) := len_toInt (by omega)
                  refine g_istore (L' := #[.val (.int p1), .val (.int p2), .val (.int p3), .val (.int p4), .val (.int p5), .val (.int i207), .val (.int i208), .val (.int i210), .val (.int i212), .val (.int i214), .val (.ref b220), .val (.ref b315), .val (.ref bm), .val (.int i328)]) X324 C at_158 rfl rfl rfl ?_
                  refine g_aload X324 C at_160 rfl rfl rfl ?_
                  refine g_arrlen (z := (((n + 63) / 64).toInt32)) X324 C A_m rfl at_162 rfl ?_
                  refine g_iload X324 C at_163 rfl rfl ?_
                  refine g_icmp_eq (a := (((n + 63) / 64).toInt32).toInt) (b := i328.toInt) X324 C at_165 rfl rfl (by decide) (pT := 170) (by decide) (pF := 168) rfl (fun hc165 => ?_) (fun hc165 => absurd hc165 (by omega))
                  refine g_aload X324 C at_170 rfl rfl rfl ?_
                  refine g_iconst (v := 0) X324 C at_172 (by decide) rfl ?_
                  refine g_iload X324 C at_173 rfl rfl ?_
                  refine g_iload X324 C at_175 rfl rfl ?_
                  refine g_iload X324 C at_177 rfl rfl ?_
                  refine g_iload X324 C at_179 rfl rfl ?_
                  have hv0 : 0 < (n + 63) / 64 → ∀ f1 f2 f3 : Int32, (f1.toInt = 0 ↔ i208.toInt ≤ 0) → (f2.toInt = 0 ↔ i208.toInt ≤ 1) → (f3.toInt = 0 ↔ i208.toInt ≤ 2) → own_m nd 0 2 = own_bit 0 f1 i210 ||| own_bit 0 f2 i212 ||| own_bit 0 f3 i214 := by
                    intro hl f1 f2 f3 e1 e2 e3
                    have hki : ((0 : Int32)).toInt = 0 := by decide
                    have s1 := own_sl64 i210 hx.1; have s2 := own_sl64 i212 hy_.1; have s3 := own_sl64 i214 hz.1
                    have f1z : ¬ (f1.toInt = 0) := by omega
                    have f2z : ¬ (f2.toInt = 0) := by omega
                    have f3z : (f3.toInt = 0) := by omega
                    simp only [own_m, own_bit, hki, s1, s2, s3, n0_, n1_, n2_]
                    by_cases q0 : i210.toInt / 64 = 0 <;> by_cases q1 : i212.toInt / 64 = 0 <;> by_cases q2 : i214.toInt / 64 = 0 <;> simp [q0, q1, q2, f1z, f2z, f3z]
                  refine g_static (argsL := [(.ref bm), (.int (0 : Int32)), (.int i208), (.int i210), (.int i212), (.int i214)]) (rest := []) (W := 0) X324 C (rmW l Z a0 hw bm (0 : Int32) i208 i210 i212 i214 (((n + 63) / 64).toInt32) (fun q => own_m nd q 2) 0 ((n + 63) / 64) h325 n0 hzM (by decide) rfl hlw hx.1 hy_.1 hz.1 hv0 A_m []) (hw _ (List.mem_of_getElem? (i := 54) rfl)) (hw _ (List.mem_of_getElem? (i := 55) rfl)) (hw _ (List.mem_of_getElem? (i := 56) rfl)) (hw _ (List.mem_of_getElem? (i := 57) rfl)) (by decide) pd_3 rfl rfl rfl rfl rfl (by decide) (by decide) (by decide) (by decide) at_181 rfl (fun r333 T330 h332 hQ334 X331 => ?_)
                  obtain ⟨rfl, hh⟩ := hQ334; rw [hh] at X331
                  show Go p e below RS T330 (mkF m 184 #[.val (.int p1), .val (.int p2), .val (.int p3), .val (.int p4), .val (.int p5), .val (.int i207), .val (.int i208), .val (.int i210), .val (.int i212), .val (.int i214), .val (.ref b220), .val (.ref b315), .val (.ref bm), .val (.int i328)] [(.int (1 : Int32))])
                  refine g_if_eq (a := 1) X331 C at_184 (by decide) (by decide) (pT := 242) (by decide) (pF := 187) rfl (fun hc184 => absurd hc184 (by omega)) (fun hc184 => ?_)
                  refine g_aload X331 C at_187 rfl rfl rfl ?_
                  refine g_iconst (v := 1) X331 C at_189 (by decide) rfl ?_
                  refine g_iload X331 C at_190 rfl rfl ?_
                  refine g_iload X331 C at_192 rfl rfl ?_
                  refine g_iload X331 C at_194 rfl rfl ?_
                  refine g_iload X331 C at_196 rfl rfl ?_
                  have hv1 : 1 < (n + 63) / 64 → ∀ f1 f2 f3 : Int32, (f1.toInt = 0 ↔ i208.toInt ≤ 0) → (f2.toInt = 0 ↔ i208.toInt ≤ 1) → (f3.toInt = 0 ↔ i208.toInt ≤ 2) → own_m nd 1 2 = own_bit 1 f1 i210 ||| own_bit 1 f2 i212 ||| own_bit 1 f3 i214 := by
                    intro hl f1 f2 f3 e1 e2 e3
                    have hki : ((1 : Int32)).toInt = 1 := by decide
                    have s1 := own_sl64 i210 hx.1; have s2 := own_sl64 i212 hy_.1; have s3 := own_sl64 i214 hz.1
                    have f1z : ¬ (f1.toInt = 0) := by omega
                    have f2z : ¬ (f2.toInt = 0) := by omega
                    have f3z : (f3.toInt = 0) := by omega
                    simp only [own_m, own_bit, hki, s1, s2, s3, n0_, n1_, n2_]
                    by_cases q0 : i210.toInt / 64 = 1 <;> by_cases q1 : i212.toInt / 64 = 1 <;> by_cases q2 : i214.toInt / 64 = 1 <;> simp [q0, q1, q2, f1z, f2z, f3z]
                  refine g_static (argsL := [(.ref bm), (.int (1 : Int32)), (.int i208), (.int i210), (.int i212), (.int i214)]) (rest := []) (W := 0) X331 C (rmW l Z a0 hw bm (1 : Int32) i208 i210 i212 i214 (((n + 63) / 64).toInt32) (fun q => own_m nd q 2) 1 ((n + 63) / 64) h325 n0 hzM (by decide) rfl hlw hx.1 hy_.1 hz.1 hv1 A_m []) (hw _ (List.mem_of_getElem? (i := 54) rfl)) (hw _ (List.mem_of_getElem? (i := 55) rfl)) (hw _ (List.mem_of_getElem? (i := 56) rfl)) (hw _ (List.mem_of_getElem? (i := 57) rfl)) (by decide) pd_3 rfl rfl rfl rfl rfl (by decide) (by decide) (by decide) (by decide) at_198 rfl (fun r338 T335 h337 hQ339 X336 => ?_)
                  obtain ⟨rfl, hh⟩ := hQ339; rw [hh] at X336
                  show Go p e below RS T335 (mkF m 201 #[.val (.int p1), .val (.int p2), .val (.int p3), .val (.int p4), .val (.int p5), .val (.int i207), .val (.int i208), .val (.int i210), .val (.int i212), .val (.int i214), .val (.ref b220), .val (.ref b315), .val (.ref bm), .val (.int i328)] [(.int (1 : Int32))])
                  refine g_if_eq (a := 1) X336 C at_201 (by decide) (by decide) (pT := 242) (by decide) (pF := 204) rfl (fun hc201 => absurd hc201 (by omega)) (fun hc201 => ?_)
                  refine g_aload X336 C at_204 rfl rfl rfl ?_
                  refine g_iconst (v := 2) X336 C at_206 (by decide) rfl ?_
                  refine g_iload X336 C at_207 rfl rfl ?_
                  refine g_iload X336 C at_209 rfl rfl ?_
                  refine g_iload X336 C at_211 rfl rfl ?_
                  refine g_iload X336 C at_213 rfl rfl ?_
                  have hv2 : 2 < (n + 63) / 64 → ∀ f1 f2 f3 : Int32, (f1.toInt = 0 ↔ i208.toInt ≤ 0) → (f2.toInt = 0 ↔ i208.toInt ≤ 1) → (f3.toInt = 0 ↔ i208.toInt ≤ 2) → own_m nd 2 2 = own_bit 2 f1 i210 ||| own_bit 2 f2 i212 ||| own_bit 2 f3 i214 := by
                    intro hl f1 f2 f3 e1 e2 e3
                    have hki : ((2 : Int32)).toInt = 2 := by decide
                    have s1 := own_sl64 i210 hx.1; have s2 := own_sl64 i212 hy_.1; have s3 := own_sl64 i214 hz.1
                    have f1z : ¬ (f1.toInt = 0) := by omega
                    have f2z : ¬ (f2.toInt = 0) := by omega
                    have f3z : (f3.toInt = 0) := by omega
                    simp only [own_m, own_bit, hki, s1, s2, s3, n0_, n1_, n2_]
                    by_cases q0 : i210.toInt / 64 = 2 <;> by_cases q1 : i212.toInt / 64 = 2 <;> by_cases q2 : i214.toInt / 64 = 2 <;> simp [q0, q1, q2, f1z, f2z, f3z]
                  refine g_static (argsL := [(.ref bm), (.int (2 : Int32)), (.int i208), (.int i210), (.int i212), (.int i214)]) (rest := []) (W := 0) X336 C (rmW l Z a0 hw bm (2 : Int32) i208 i210 i212 i214 (((n + 63) / 64).toInt32) (fun q => own_m nd q 2) 2 ((n + 63) / 64) h325 n0 hzM (by decide) rfl hlw hx.1 hy_.1 hz.1 hv2 A_m []) (hw _ (List.mem_of_getElem? (i := 54) rfl)) (hw _ (List.mem_of_getElem? (i := 55) rfl)) (hw _ (List.mem_of_getElem? (i := 56) rfl)) (hw _ (List.mem_of_getElem? (i := 57) rfl)) (by decide) pd_3 rfl rfl rfl rfl rfl (by decide) (by decide) (by decide) (by decide) at_215 rfl (fun r343 T340 h342 hQ344 X341 => ?_)
                  obtain ⟨rfl, hh⟩ := hQ344; rw [hh] at X341
                  show Go p e below RS T340 (mkF m 218 #[.val (.int p1), .val (.int p2), .val (.int p3), .val (.int p4), .val (.int p5), .val (.int i207), .val (.int i208), .val (.int i210), .val (.int i212), .val (.int i214), .val (.ref b220), .val (.ref b315), .val (.ref bm), .val (.int i328)] [(.int (1 : Int32))])
                  refine g_if_eq (a := 1) X341 C at_218 (by decide) (by decide) (pT := 242) (by decide) (pF := 221) rfl (fun hc218 => absurd hc218 (by omega)) (fun hc218 => ?_)
                  refine g_aload X341 C at_221 rfl rfl rfl ?_
                  refine g_iconst (v := 3) X341 C at_223 (by decide) rfl ?_
                  refine g_iload X341 C at_224 rfl rfl ?_
                  refine g_iload X341 C at_226 rfl rfl ?_
                  refine g_iload X341 C at_228 rfl rfl ?_
                  refine g_iload X341 C at_230 rfl rfl ?_
                  have hv3 : 3 < (n + 63) / 64 → ∀ f1 f2 f3 : Int32, (f1.toInt = 0 ↔ i208.toInt ≤ 0) → (f2.toInt = 0 ↔ i208.toInt ≤ 1) → (f3.toInt = 0 ↔ i208.toInt ≤ 2) → own_m nd 3 2 = own_bit 3 f1 i210 ||| own_bit 3 f2 i212 ||| own_bit 3 f3 i214 := by
                    intro hl f1 f2 f3 e1 e2 e3
                    have hki : ((3 : Int32)).toInt = 3 := by decide
                    have s1 := own_sl64 i210 hx.1; have s2 := own_sl64 i212 hy_.1; have s3 := own_sl64 i214 hz.1
                    have f1z : ¬ (f1.toInt = 0) := by omega
                    have f2z : ¬ (f2.toInt = 0) := by omega
                    have f3z : (f3.toInt = 0) := by omega
                    simp only [own_m, own_bit, hki, s1, s2, s3, n0_, n1_, n2_]
                    by_cases q0 : i210.toInt / 64 = 3 <;> by_cases q1 : i212.toInt / 64 = 3 <;> by_cases q2 : i214.toInt / 64 = 3 <;> simp [q0, q1, q2, f1z, f2z, f3z]
                  refine g_static (argsL := [(.ref bm), (.int (3 : Int32)), (.int i208), (.int i210), (.int i212), (.int i214)]) (rest := []) (W := 0) X341 C (rmW l Z a0 hw bm (3 : Int32) i208 i210 i212 i214 (((n + 63) / 64).toInt32) (fun q => own_m nd q 2) 3 ((n + 63) / 64) h325 n0 hzM (by decide) rfl hlw hx.1 hy_.1 hz.1 hv3 A_m []) (hw _ (List.mem_of_getElem? (i := 54) rfl)) (hw _ (List.mem_of_getElem? (i := 55) rfl)) (hw _ (List.mem_of_getElem? (i := 56) rfl)) (hw _ (List.mem_of_getElem? (i := 57) rfl)) (by decide) pd_3 rfl rfl rfl rfl rfl (by decide) (by decide) (by decide) (by decide) at_232 rfl (fun r348 T345 h347 hQ349 X346 => ?_)
                  obtain ⟨rfl, hh⟩ := hQ349; rw [hh] at X346
                  show Go p e below RS T345 (mkF m 235 #[.val (.int p1), .val (.int p2), .val (.int p3), .val (.int p4), .val (.int p5), .val (.int i207), .val (.int i208), .val (.int i210), .val (.int i212), .val (.int i214), .val (.ref b220), .val (.ref b315), .val (.ref bm), .val (.int i328)] [(.int (1 : Int32))])
                  refine g_if_eq (a := 1) X346 C at_235 (by decide) (by decide) (pT := 242) (by decide) (pF := 238) rfl (fun hc235 => absurd hc235 (by omega)) (fun hc235 => ?_)
                  refine g_iconst (v := 1) X346 C at_238 (by decide) rfl ?_
                  refine g_goto (pc' := 243) X346 C at_239 (by decide) (by decide) ?_
                  rw [hRS]
                  refine g_retZ X346 C at_243 ?_ (by decide) (by decide)
                  exact rfl
                refine g_if_ne (a := i207.toInt) X324 C at_142 rfl (by decide) (pT := 149) (by decide) (pF := 145) rfl (fun hc142 => ?_) (fun hc142 => ?_)
                ·
                  refine g_iload X324 C at_149 rfl rfl ?_
                  refine g_iconst (v := 1) X324 C at_151 (by decide) rfl ?_
                  refine g_isub X324 C at_152 rfl ?_
                  refine g_bipush (v := 64) X324 C at_153 (by decide) rfl ?_
                  refine g_idiv X324 C at_155 (by decide) rfl ?_
                  refine g_iconst (v := 1) X324 C at_156 (by decide) rfl ?_
                  refine g_iadd X324 C at_157 rfl ?_
                  exact J158_328 (((i207 - (1 : Int32)) / (64 : Int32)) + (1 : Int32)) (Or.inl (⟨hc142, rfl⟩))
                ·
                  refine g_iconst (v := 0) X324 C at_145 (by decide) rfl ?_
                  refine g_goto (pc' := 158) X324 C at_146 (by decide) (by decide) ?_
                  exact J158_328 (0 : Int32) (Or.inr (⟨hc142, rfl, by decide⟩))
              ·
                refine g_aload X307 C at_114 rfl rfl rfl ?_
                refine g_iconst (v := 2) X307 C at_116 (by decide) rfl ?_
                refine g_iload X307 C at_117 rfl rfl ?_
                refine g_iastore (i := 2) X307 C A_b220 (by decide) (by omega) ga_b220 at_119 rfl (fun T350 h352 X351 A_b220 K353 => ?_)
                have hz354 := Nat.le_trans hz310 K353.1
                have hkk : i208.toInt = 3 := by omega
                obtain ⟨nd, hnd⟩ : ∃ nd : Nat → Int32, nd = fun i => if i = 0 then i210 else if i = 1 then i212 else i214 := ⟨_, rfl⟩
                have A_b220 : Ar Z h352 b220 .int 3 (fun i => .int (nd i)) := by
                  have q := A_b220; rw [show i208.toInt.toNat = 3 by omega] at q
                  refine q.congr (fun j hj => ?_)
                  have hq : j = 0 ∨ j = 1 ∨ j = 2 := by omega
                  rcases hq with rfl | rfl | rfl <;> rw [hnd] <;> rfl
                have n0_ : nd 0 = i210 := by rw [hnd]; rfl
                have n1_ : nd 1 = i212 := by rw [hnd]; rfl
                have n2_ : nd 2 = i214 := by rw [hnd]; rfl
                have hnode : ∀ i, i < 3 → 0 ≤ (nd i).toInt ∧ (nd i).toInt / 64 < ((n + 63) / 64 : Nat) := by
                  intro i hi; have hq : i = 0 ∨ i = 1 ∨ i = 2 := by omega
                  rcases hq with rfl | rfl | rfl <;> first | rw [n0_] | rw [n1_] | rw [n2_]
                  all_goals omega
                refine g_newO (vs := [.null, .null, .null, (.long (0 : Int64)), (.long (0 : Int64)), (.long (0 : Int64)), (.long (0 : Int64)), (.int (0 : Int32)), (.int (0 : Int32)), (.long (0 : Int64)), .null, .null, .null, .null, .null]) X351 C (hw _ (List.mem_of_getElem? (i := 2) rfl)) (CF_CT hw) (hw _ (List.mem_of_getElem? (i := 4) rfl)) (by decide) (by decide) (by decide) at_120 rfl (fun T355 h357 b359 hb360 X356 O_b359 K358 => ?_)
                have ne_b220_b359 : b220 ≠ b359 := Nat.ne_of_lt (hb360 ▸ A_b220.lt)
                have ga_b359 : n0 ≤ b359 := hb360 ▸ hz354
                have A_b220 := A_b220.keep K358 nin0
                have hz361 := Nat.le_trans hz354 K358.1
                refine g_dup X356 C at_123 rfl rfl ?_
                refine g_iload X356 C at_124 rfl rfl ?_
                refine g_special (argsL := [(.int i207)]) (rest := [(.ref b359)]) (W := 1) (a := b359) X356 C (rmI l Z a0 hw b359 i207 n h357 n0 hz361 hn hn256 ga_b359 O_b359 []) rfl rfl (hw _ (List.mem_of_getElem? (i := 5) rfl)) (hw _ (List.mem_of_getElem? (i := 6) rfl)) (hw _ (List.mem_of_getElem? (i := 4) rfl)) (hw _ (List.mem_of_getElem? (i := 7) rfl)) (by decide) pd_1 rfl rfl rfl rfl rfl (by decide) (by decide) (by decide) (by decide) at_126 rfl (fun r365 T362 h364 hQ366 X363 => ?_)
                obtain ⟨rfl, KI, c1, c2, c3, c4, c5, c6, c7, c8, wv, lw, hwv, O_t⟩ := hQ366
                have hzI := Nat.le_trans hz361 KI.1
                have A_b220 := A_b220.keep KI (ninS ne_b220_b359 nin0)
                show Go p e below RS T362 (mkF m 129 #[.val (.int p1), .val (.int p2), .val (.int p3), .val (.int p4), .val (.int p5), .val (.int i207), .val (.int i208), .val (.int i210), .val (.int i212), .val (.int i214), .val (.ref b220), .unset, .unset, .unset] [(.ref b359)])
                refine g_astore (L' := #[.val (.int p1), .val (.int p2), .val (.int p3), .val (.int p4), .val (.int p5), .val (.int i207), .val (.int i208), .val (.int i210), .val (.int i212), .val (.int i214), .val (.ref b220), .val (.ref b359), .unset, .unset]) X363 C at_129 rfl rfl rfl ?_
                refine g_aload X363 C at_131 rfl rfl rfl ?_
                refine g_aload X363 C at_133 rfl rfl rfl ?_
                refine g_virtual (argsL := [(.ref b220)]) (rest := []) (W := 0) (a := b359) X363 C (rmM l Z a0 hw b359 b220 wv (3 : Int32) _ nd ((n + 63) / 64) 3 h364 n0 hzI hwv (by omega) (by decide) (by decide) (by decide) hnode O_t rfl A_b220 []) O_t.1 (hw _ (List.mem_of_getElem? (i := 49) rfl)) (hw _ (List.mem_of_getElem? (i := 50) rfl)) (hw _ (List.mem_of_getElem? (i := 52) rfl)) (hw _ (List.mem_of_getElem? (i := 51) rfl)) (hw _ (List.mem_of_getElem? (i := 4) rfl)) (hw _ (List.mem_of_getElem? (i := 53) rfl)) (by decide) pd_2 rfl rfl rfl rfl rfl (by decide) (by decide) (by decide) (by decide) at_135 rfl (fun r370 T367 h369 hQ371 X368 => ?_)
                obtain ⟨bm, rfl, KM, A_m⟩ := hQ371
                have hzM := Nat.le_trans hzI KM.1
                show Go p e below RS T367 (mkF m 138 #[.val (.int p1), .val (.int p2), .val (.int p3), .val (.int p4), .val (.int p5), .val (.int i207), .val (.int i208), .val (.int i210), .val (.int i212), .val (.int i214), .val (.ref b220), .val (.ref b359), .unset, .unset] [(.ref bm)])
                refine g_astore (L' := #[.val (.int p1), .val (.int p2), .val (.int p3), .val (.int p4), .val (.int p5), .val (.int i207), .val (.int i208), .val (.int i210), .val (.int i212), .val (.int i214), .val (.ref b220), .val (.ref b359), .val (.ref bm), .unset]) X368 C at_138 rfl rfl rfl ?_
                refine g_iload X368 C at_140 rfl rfl ?_
                have J158_372 : ∀ (i372 : Int32) (_ : (i207.toInt ≠ 0 ∧ i372 = (((i207 - (1 : Int32)) / (64 : Int32)) + (1 : Int32))) ∨ (i207.toInt = 0 ∧ i372 = (0 : Int32) ∧ i372.toInt = 0)), Go p e below RS T367 (mkF m 158 #[.val (.int p1), .val (.int p2), .val (.int p3), .val (.int p4), .val (.int p5), .val (.int i207), .val (.int i208), .val (.int i210), .val (.int i212), .val (.int i214), .val (.ref b220), .val (.ref b359), .val (.ref bm), .unset] [(.int i372)]) := by
                  intro i372 hJ158
                  have hew : i372.toInt = ((n + 63) / 64 : Nat) := by
                    rcases hJ158 with ⟨q1, q2⟩ | ⟨q1, q2, q3⟩
                    · have g1 := c_isub i207 1; have g3 := rng32 (i207 - 1); have g6 : (1 : Int32).toInt = 1 := by decide
                      have g7 := (c_idiv (i207 - 1) 64 64 (by decide) (by decide)).1 (by omega); have g8 := c_iadd ((i207 - 1) / 64) 1; have g9 := rng32 ((i207 - 1) / 64 + 1)
                      rw [q2]; omega
                    · omega
                  have hlw : (((n + 63) / 64).toInt32).toInt = ((n + 63) / 64 : Nat) := len_toInt (by omega)
                  refine g_istore (L' := #[.val (.int p1), .val (.int p2), .val (.int p3), .val (.int p4), .val (.int p5), .val (.int i207), .val (.int i208), .val (.int i210), .val (.int i212), .val (.int i214), .val (.ref b220), .val (.ref b359), .val (.ref bm), .val (.int i372)]) X368 C at_158 rfl rfl rfl ?_
                  refine g_aload X368 C at_160 rfl rfl rfl ?_
                  refine g_arrlen (z := (((n + 63) / 64).toInt32)) X368 C A_m rfl at_162 rfl ?_
                  refine g_iload X368 C at_163 rfl rfl ?_
                  refine g_icmp_eq (a := (((n + 63) / 64).toInt32).toInt) (b := i372.toInt) X368 C at_165 rfl rfl (by decide) (pT := 170) (by decide) (pF := 168) rfl (fun hc165 => ?_) (fun hc165 => absurd hc165 (by omega))
                  refine g_aload X368 C at_170 rfl rfl rfl ?_
                  refine g_iconst (v := 0) X368 C at_172 (by decide) rfl ?_
                  refine g_iload X368 C at_173 rfl rfl ?_
                  refine g_iload X368 C at_175 rfl rfl ?_
                  refine g_iload X368 C at_177 rfl rfl ?_
                  refine g_iload X368 C at_179 rfl rfl ?_
                  have hv0 : 0 < (n + 63) / 64 → ∀ f1 f2 f3 : Int32, (f1.toInt = 0 ↔ i208.toInt ≤ 0) → (f2.toInt = 0 ↔ i208.toInt ≤ 1) → (f3.toInt = 0 ↔ i208.toInt ≤ 2) → own_m nd 0 3 = own_bit 0 f1 i210 ||| own_bit 0 f2 i212 ||| own_bit 0 f3 i214 := by
                    intro hl f1 f2 f3 e1 e2 e3
                    have hki : ((0 : Int32)).toInt = 0 := by decide
                    have s1 := own_sl64 i210 hx.1; have s2 := own_sl64 i212 hy_.1; have s3 := own_sl64 i214 hz.1
                    have f1z : ¬ (f1.toInt = 0) := by omega
                    have f2z : ¬ (f2.toInt = 0) := by omega
                    have f3z : ¬ (f3.toInt = 0) := by omega
                    simp only [own_m, own_bit, hki, s1, s2, s3, n0_, n1_, n2_]
                    by_cases q0 : i210.toInt / 64 = 0 <;> by_cases q1 : i212.toInt / 64 = 0 <;> by_cases q2 : i214.toInt / 64 = 0 <;> simp [q0, q1, q2, f1z, f2z, f3z]
                  refine g_static (argsL := [(.ref bm), (.int (0 : Int32)), (.int i208), (.int i210), (.int i212), (.int i214)]) (rest := []) (W := 0) X368 C (rmW l Z a0 hw bm (0 : Int32) i208 i210 i212 i214 (((n + 63) / 64).toInt32) (fun q => own_m nd q 3) 0 ((n + 63) / 64) h369 n0 hzM (by decide) rfl hlw hx.1 hy_.1 hz.1 hv0 A_m []) (hw _ (List.mem_of_getElem? (i := 54) rfl)) (hw _ (List.mem_of_getElem? (i := 55) rfl)) (hw _ (List.mem_of_getElem? (i := 56) rfl)) (hw _ (List.mem_of_getElem? (i := 57) rfl)) (by decide) pd_3 rfl rfl rfl rfl rfl (by decide) (by decide) (by decide) (by decide) at_181 rfl (fun r377 T374 h376 hQ378 X375 => ?_)
                  obtain ⟨rfl, hh⟩ := hQ378; rw [hh] at X375
                  show Go p e below RS T374 (mkF m 184 #[.val (.int p1), .val (.int p2), .val (.int p3), .val (.int p4), .val (.int p5), .val (.int i207), .val (.int i208), .val (.int i210), .val (.int i212), .val (.int i214), .val (.ref b220), .val (.ref b359), .val (.ref bm), .val (.int i372)] [(.int (1 : Int32))])
                  refine g_if_eq (a := 1) X375 C at_184 (by decide) (by decide) (pT := 242) (by decide) (pF := 187) rfl (fun hc184 => absurd hc184 (by omega)) (fun hc184 => ?_)
                  refine g_aload X375 C at_187 rfl rfl rfl ?_
                  refine g_iconst (v := 1) X375 C at_189 (by decide) rfl ?_
                  refine g_iload X375 C at_190 rfl rfl ?_
                  refine g_iload X375 C at_192 rfl rfl ?_
                  refine g_iload X375 C at_194 rfl rfl ?_
                  refine g_iload X375 C at_196 rfl rfl ?_
                  have hv1 : 1 < (n + 63) / 64 → ∀ f1 f2 f3 : Int32, (f1.toInt = 0 ↔ i208.toInt ≤ 0) → (f2.toInt = 0 ↔ i208.toInt ≤ 1) → (f3.toInt = 0 ↔ i208.toInt ≤ 2) → own_m nd 1 3 = own_bit 1 f1 i210 ||| own_bit 1 f2 i212 ||| own_bit 1 f3 i214 := by
                    intro hl f1 f2 f3 e1 e2 e3
                    have hki : ((1 : Int32)).toInt = 1 := by decide
                    have s1 := own_sl64 i210 hx.1; have s2 := own_sl64 i212 hy_.1; have s3 := own_sl64 i214 hz.1
                    have f1z : ¬ (f1.toInt = 0) := by omega
                    have f2z : ¬ (f2.toInt = 0) := by omega
                    have f3z : ¬ (f3.toInt = 0) := by omega
                    simp only [own_m, own_bit, hki, s1, s2, s3, n0_, n1_, n2_]
                    by_cases q0 : i210.toInt / 64 = 1 <;> by_cases q1 : i212.toInt / 64 = 1 <;> by_cases q2 : i214.toInt / 64 = 1 <;> simp [q0, q1, q2, f1z, f2z, f3z]
                  refine g_static (argsL := [(.ref bm), (.int (1 : Int32)), (.int i208), (.int i210), (.int i212), (.int i214)]) (rest := []) (W := 0) X375 C (rmW l Z a0 hw bm (1 : Int32) i208 i210 i212 i214 (((n + 63) / 64).toInt32) (fun q => own_m nd q 3) 1 ((n + 63) / 64) h369 n0 hzM (by decide) rfl hlw hx.1 hy_.1 hz.1 hv1 A_m []) (hw _ (List.mem_of_getElem? (i := 54) rfl)) (hw _ (List.mem_of_getElem? (i := 55) rfl)) (hw _ (List.mem_of_getElem? (i := 56) rfl)) (hw _ (List.mem_of_getElem? (i := 57) rfl)) (by decide) pd_3 rfl rfl rfl rfl rfl (by decide) (by decide) (by decide) (by decide) at_198 rfl (fun r382 T379 h381 hQ383 X380 => ?_)
                  obtain ⟨rfl, hh⟩ := hQ383; rw [hh] at X380
                  show Go p e below RS T379 (mkF m 201 #[.val (.int p1), .val (.int p2), .val (.int p3), .val (.int p4), .val (.int p5), .val (.int i207), .val (.int i208), .val (.int i210), .val (.int i212), .val (.int i214), .val (.ref b220), .val (.ref b359), .val (.ref bm), .val (.int i372)] [(.int (1 : Int32))])
                  refine g_if_eq (a := 1) X380 C at_201 (by decide) (by decide) (pT := 242) (by decide) (pF := 204) rfl (fun hc201 => absurd hc201 (by omega)) (fun hc201 => ?_)
                  refine g_aload X380 C at_204 rfl rfl rfl ?_
                  refine g_iconst (v := 2) X380 C at_206 (by decide) rfl ?_
                  refine g_iload X380 C at_207 rfl rfl ?_
                  refine g_iload X380 C at_209 rfl rfl ?_
                  refine g_iload X380 C at_211 rfl rfl ?_
                  refine g_iload X380 C at_213 rfl rfl ?_
                  have hv2 : 2 < (n + 63) / 64 → ∀ f1 f2 f3 : Int32, (f1.toInt = 0 ↔ i208.toInt ≤ 0) → (f2.toInt = 0 ↔ i208.toInt ≤ 1) → (f3.toInt = 0 ↔ i208.toInt ≤ 2) → own_m nd 2 3 = own_bit 2 f1 i210 ||| own_bit 2 f2 i212 ||| own_bit 2 f3 i214 := by
                    intro hl f1 f2 f3 e1 e2 e3
                    have hki : ((2 : Int32)).toInt = 2 := by decide
                    have s1 := own_sl64 i210 hx.1; have s2 := own_sl64 i212 hy_.1; have s3 := own_sl64 i214 hz.1
                    have f1z : ¬ (f1.toInt = 0) := by omega
                    have f2z : ¬ (f2.toInt = 0) := by omega
                    have f3z : ¬ (f3.toInt = 0) := by omega
                    simp only [own_m, own_bit, hki, s1, s2, s3, n0_, n1_, n2_]
                    by_cases q0 : i210.toInt / 64 = 2 <;> by_cases q1 : i212.toInt / 64 = 2 <;> by_cases q2 : i214.toInt / 64 = 2 <;> simp [q0, q1, q2, f1z, f2z, f3z]
                  refine g_static (argsL := [(.ref bm), (.int (2 : Int32)), (.int i208), (.int i210), (.int i212), (.int i214)]) (rest := []) (W := 0) X380 C (rmW l Z a0 hw bm (2 : Int32) i208 i210 i212 i214 (((n + 63) / 64).toInt32) (fun q => own_m nd q 3) 2 ((n + 63) / 64) h369 n0 hzM (by decide) rfl hlw hx.1 hy_.1 hz.1 hv2 A_m []) (hw _ (List.mem_of_getElem? (i := 54) rfl)) (hw _ (List.mem_of_getElem? (i := 55) rfl)) (hw _ (List.mem_of_getElem? (i := 56) rfl)) (hw _ (List.mem_of_getElem? (i := 57) rfl)) (by decide) pd_3 rfl rfl rfl rfl rfl (by decide) (by decide) (by decide) (by decide) at_215 rfl (fun r387 T384 h386 hQ388 X385 => ?_)
                  obtain ⟨rfl, hh⟩ := hQ388; rw [hh] at X385
                  show Go p e below RS T384 (mkF m 218 #[.val (.int p1), .val (.int p2), .val (.int p3), .val (.int p4), .val (.int p5), .val (.int i207), .val (.int i208), .val (.int i210), .val (.int i212), .val (.int i214), .val (.ref b220), .val (.ref b359), .val (.ref bm), .val (.int i372)] [(.int (1 : Int32))])
                  refine g_if_eq (a := 1) X385 C at_218 (by decide) (by decide) (pT := 242) (by decide) (pF := 221) rfl (fun hc218 => absurd hc218 (by omega)) (fun hc218 => ?_)
                  refine g_aload X385 C at_221 rfl rfl rfl ?_
                  refine g_iconst (v := 3) X385 C at_223 (by decide) rfl ?_
                  refine g_iload X385 C at_224 rfl rfl ?_
                  refine g_iload X385 C at_226 rfl rfl ?_
                  refine g_iload X385 C at_228 rfl rfl ?_
                  refine g_iload X385 C at_230 rfl rfl ?_
                  have hv3 : 3 < (n + 63) / 64 → ∀ f1 f2 f3 : Int32, (f1.toInt = 0 ↔ i208.toInt ≤ 0) → (f2.toInt = 0 ↔ i208.toInt ≤ 1) → (f3.toInt = 0 ↔ i208.toInt ≤ 2) → own_m nd 3 3 = own_bit 3 f1 i210 ||| own_bit 3 f2 i212 ||| own_bit 3 f3 i214 := by
                    intro hl f1 f2 f3 e1 e2 e3
                    have hki : ((3 : Int32)).toInt = 3 := by decide
                    have s1 := own_sl64 i210 hx.1; have s2 := own_sl64 i212 hy_.1; have s3 := own_sl64 i214 hz.1
                    have f1z : ¬ (f1.toInt = 0) := by omega
                    have f2z : ¬ (f2.toInt = 0) := by omega
                    have f3z : ¬ (f3.toInt = 0) := by omega
                    simp only [own_m, own_bit, hki, s1, s2, s3, n0_, n1_, n2_]
                    by_cases q0 : i210.toInt / 64 = 3 <;> by_cases q1 : i212.toInt / 64 = 3 <;> by_cases q2 : i214.toInt / 64 = 3 <;> simp [q0, q1, q2, f1z, f2z, f3z]
                  refine g_static (argsL := [(.ref bm), (.int (3 : Int32)), (.int i208), (.int i210), (.int i212), (.int i214)]) (rest := []) (W := 0) X385 C (rmW l Z a0 hw bm (3 : Int32) i208 i210 i212 i214 (((n + 63) / 64).toInt32) (fun q => own_m nd q 3) 3 ((n + 63) / 64) h369 n0 hzM (by decide) rfl hlw hx.1 hy_.1 hz.1 hv3 A_m []) (hw _ (List.mem_of_getElem? (i := 54) rfl)) (hw _ (List.mem_of_getElem? (i := 55) rfl)) (hw _ (List.mem_of_getElem? (i := 56) rfl)) (hw _ (List.mem_of_getElem? (i := 57) rfl)) (by decide) pd_3 rfl rfl rfl rfl rfl (by decide) (by decide) (by decide) (by decide) at_232 rfl (fun r392 T389 h391 hQ393 X390 => ?_)
                  obtain ⟨rfl, hh⟩ := hQ393; rw [hh] at X390
                  show Go p e below RS T389 (mkF m 235 #[.val (.int p1), .val (.int p2), .val (.int p3), .val (.int p4), .val (.int p5), .val (.int i207), .val (.int i208), .val (.int i210), .val (.int i212), .val (.int i214), .val (.ref b220), .val (.ref b359), .val (.ref bm), .val (.int i372)] [(.int (1 : Int32))])
                  refine g_if_eq (a := 1) X390 C at_235 (by decide) (by decide) (pT := 242) (by decide) (pF := 238) rfl (fun hc235 => absurd hc235 (by omega)) (fun hc235 => ?_)
                  refine g_iconst (v := 1) X390 C at_238 (by decide) rfl ?_
                  refine g_goto (pc' := 243) X390 C at_239 (by decide) (by decide) ?_
                  rw [hRS]
                  refine g_retZ X390 C at_243 ?_ (by decide) (by decide)
                  exact rfl
                refine g_if_ne (a := i207.toInt) X368 C at_142 rfl (by decide) (pT := 149) (by decide) (pF := 145) rfl (fun hc142 => ?_) (fun hc142 => ?_)
                ·
                  refine g_iload X368 C at_149 rfl rfl ?_
                  refine g_iconst (v := 1) X368 C at_151 (by decide) rfl ?_
                  refine g_isub X368 C at_152 rfl ?_
                  refine g_bipush (v := 64) X368 C at_153 (by decide) rfl ?_
                  refine g_idiv X368 C at_155 (by decide) rfl ?_
                  refine g_iconst (v := 1) X368 C at_156 (by decide) rfl ?_
                  refine g_iadd X368 C at_157 rfl ?_
                  exact J158_372 (((i207 - (1 : Int32)) / (64 : Int32)) + (1 : Int32)) (Or.inl (⟨hc142, rfl⟩))
                ·
                  refine g_iconst (v := 0) X368 C at_145 (by decide) rfl ?_
                  refine g_goto (pc' := 158) X368 C at_146 (by decide) (by decide) ?_
                  exact J158_372 (0 : Int32) (Or.inr (⟨hc142, rfl, by decide⟩))
        refine g_if_ne (a := i207.toInt) X0 C at_62 rfl (by decide) (pT := 69) (by decide) (pF := 65) rfl (fun hc62 => ?_) (fun hc62 => ?_)
        ·
          refine g_iload X0 C at_69 rfl rfl ?_
          refine g_ldcI X0 C (hw _ (List.mem_of_getElem? (i := 0) rfl)) at_71 rfl ?_
          refine g_iand X0 C at_73 rfl ?_
          refine g_iload X0 C at_74 rfl rfl ?_
          refine g_irem X0 C at_76 (by intro q; apply hc62; rw [q]; decide) rfl ?_
          exact J77_214 ((p5 &&& (2147483647 : Int32)) % i207) (Or.inl (⟨hc62, rfl⟩))
        ·
          refine g_iconst (v := 0) X0 C at_65 (by decide) rfl ?_
          refine g_goto (pc' := 77) X0 C at_66 (by decide) (by decide) ?_
          exact J77_214 (0 : Int32) (Or.inr (⟨hc62, rfl, by decide⟩))
      refine g_if_ne (a := i207.toInt) X0 C at_44 rfl (by decide) (pT := 51) (by decide) (pF := 47) rfl (fun hc44 => ?_) (fun hc44 => ?_)
      ·
        refine g_iloadN X0 C at_51 rfl rfl ?_
        refine g_ldcI X0 C (hw _ (List.mem_of_getElem? (i := 0) rfl)) at_52 rfl ?_
        refine g_iand X0 C at_54 rfl ?_
        refine g_iload X0 C at_55 rfl rfl ?_
        refine g_irem X0 C at_57 (by intro q; apply hc44; rw [q]; decide) rfl ?_
        exact J58_212 ((p4 &&& (2147483647 : Int32)) % i207) (Or.inl (⟨hc44, rfl⟩))
      ·
        refine g_iconst (v := 0) X0 C at_47 (by decide) rfl ?_
        refine g_goto (pc' := 58) X0 C at_48 (by decide) (by decide) ?_
        exact J58_212 (0 : Int32) (Or.inr (⟨hc44, rfl, by decide⟩))
    refine g_if_ne (a := i207.toInt) X0 C at_26 rfl (by decide) (pT := 33) (by decide) (pF := 29) rfl (fun hc26 => ?_) (fun hc26 => ?_)
    ·
      refine g_iloadN X0 C at_33 rfl rfl ?_
      refine g_ldcI X0 C (hw _ (List.mem_of_getElem? (i := 0) rfl)) at_34 rfl ?_
      refine g_iand X0 C at_36 rfl ?_
      refine g_iload X0 C at_37 rfl rfl ?_
      refine g_irem X0 C at_39 (by intro q; apply hc26; rw [q]; decide) rfl ?_
      exact J40_210 ((p3 &&& (2147483647 : Int32)) % i207) (Or.inl (⟨hc26, rfl⟩))
    ·
      refine g_iconst (v := 0) X0 C at_29 (by decide) rfl ?_
      refine g_goto (pc' := 40) X0 C at_30 (by decide) (by decide) ?_
      exact J40_210 (0 : Int32) (Or.inr (⟨hc26, rfl, by decide⟩))
  refine g_if_ne (a := i207.toInt) X0 C at_12 rfl (by decide) (pT := 19) (by decide) (pF := 15) rfl (fun hc12 => ?_) (fun hc12 => ?_)
  ·
    refine g_iloadN X0 C at_19 rfl rfl ?_
    refine g_iconst (v := 3) X0 C at_20 (by decide) rfl ?_
    refine g_iand X0 C at_21 rfl ?_
    exact J22_208 (p2 &&& (3 : Int32)) (Or.inl (⟨hc12, rfl⟩))
  ·
    refine g_iconst (v := 0) X0 C at_15 (by decide) rfl ?_
    refine g_goto (pc' := 22) X0 C at_16 (by decide) (by decide) ?_
    exact J22_208 (0 : Int32) (Or.inr (⟨hc12, rfl, by decide⟩))
set_option maxRecDepth 65536 in
set_option maxHeartbeats 40000000 in
theorem comes_1 {Post : Tables → Env → Array Value → State → Outcome → State → Prop} (hpost : ∀ tb e args s v u, (limb_1_1.after args s (.returned v) u = true ∧ limb_1_2.after args s (.returned v) u = true ∧ True) → FrameEnd s (.returned v) u (Jvm.fieldLocs frame_1_writes args s ++ Jvm.arrayLocs frame_1_arrays args s ++ Jvm.staticLocs frame_1_statics s) 32 768 → Post tb e args s (.returned v) u) :
    ArmFor flags0 classFile x code maxLocals ret World_1 tables_1 room_1 Calls_1 rest_1 Pre_1 Post := by
  intro l hfl _ _ p e ha hc hk s m args below hf hA hF happ hP
  obtain ⟨hcalls, hrest, hpre⟩ := hP
  obtain ⟨-, -, -, hnamed, -, -, -, hat⟩ := (Spec.applies_iff hf).mp happ
  obtain ⟨hg, hn⟩ := and_e (Cond.before_iff.mp (show (Jvm.Cond.and given_1 narrow_1).before args s = true from hpre))
  obtain ⟨h1, h2⟩ := and_e hg
  obtain ⟨w0, w1, w2, w3, w4, rfl⟩ : ∃ w0 w1 w2 w3 w4 : Value, args = #[w0, w1, w2, w3, w4] := by
    have hs : args.size = 5 := by simpa [Cond.value, given_1] using h1
    obtain ⟨L⟩ := args
    match L, hs with
    | [w0, w1, w2, w3, w4], _ => exact ⟨w0, w1, w2, w3, w4, rfl⟩
  have hw := fun d (hd : d ∈ tables_1) => atoms_spec (ws := Jvm.Cond.code x code maxLocals ret :: tables_1) hat d (List.mem_cons_of_mem _ hd)
  obtain ⟨g0, r0⟩ := and_e h2
  obtain ⟨k0, e0⟩ := is_v g0
  obtain rfl : w0 = (.int k0) := Option.some.inj e0
  obtain ⟨g1, r1⟩ := and_e r0
  obtain ⟨k1, e1⟩ := is_v g1
  obtain rfl : w1 = (.int k1) := Option.some.inj e1
  obtain ⟨g2, r2⟩ := and_e r1
  obtain ⟨k2, e2⟩ := is_v g2
  obtain rfl : w2 = (.int k2) := Option.some.inj e2
  obtain ⟨g3, r3⟩ := and_e r2
  obtain ⟨k3, e3⟩ := is_v g3
  obtain rfl : w3 = (.int k3) := Option.some.inj e3
  obtain ⟨k4, e4⟩ := is_v r3
  obtain rfl : w4 = (.int k4) := Option.some.inj e4
  obtain ⟨n, o, h1, h2, h3, _, L, rfl, ⟨rfl, N⟩, hq⟩ := rm0 l s _ hw k0 k1 k2 k3 k4 s.heap s.heap.size (Nat.le_refl _) tables_1 p e ha hc hk s m _ below hf ((Spec.applies_iff_loose hf).mp happ).1 ⟨rfl, State.Warmed39.refl s, rfl⟩ trivial
  refine ⟨n, _, h1, h2, h3, hpost _ _ _ _ _ _ ⟨Cond.after_iff.mpr rfl, Cond.after_iff.mpr (eq_i res_at (Term.int_eval (1)) rfl), trivial⟩ ⟨hq.1, hq.2.1, (hq.2.2.sift fun y hy => Or.inr (N y hy)).mono (by decide) (by decide)⟩⟩
theorem main_1_1 : Claimed_1_1 := comes_1 fun _ _ _ _ _ _ h hF => ⟨h.1, hF⟩
theorem main_1_2 : Claimed_1_2 := comes_1 fun _ _ _ _ _ _ h hF => ⟨h.2.1, hF⟩
end Jvm.Pilot.@@N@@
namespace Jvm.Pilot.@@N@@
open Jvm Jvm.ClassFile Sem Op Lib Jvm.Free Jvm.Stand Jvm.Pilot.@@N@@.Jvm.D
/-! MADE BY PROGRAM (witnessworld.py) out of the Statement's table words and the real class files: 15 classes; the members and pool entries that the words name. The judged class is class 1, her method 1. -/
namespace start1
open Jvm.ClassFile
def u (s : String) : CpInfo := .utf8 (stringToUtf16 s)
/-- a pool by its gaps: so many unusable entries, then the entry; so many at the end -/
def gap : Nat → List CpInfo → List CpInfo
  | 0, r => r
  | n + 1, r => .unusable :: gap n r
def poolList (es : List (Nat × CpInfo)) (last : Nat) : List CpInfo := es.foldr (fun e r => gap e.1 (e.2 :: r)) (gap last [])
def pool (es : List (Nat × CpInfo)) (last : Nat) : Array CpInfo := ⟨poolList es last⟩
def fileOf (pool : Array CpInfo) (this : Nat) (attrs : Array Attribute := #[]) (ms : Array MethodInfo := #[]) (fl : Nat := 33) (sup : Nat := 0) (ifs : Array Nat := #[]) (fds : Array FieldInfo := #[]) : ClassFile where
  minorVersion := 0
  majorVersion := 65
  constantPool := pool
  accessFlags := fl
  thisClass := this
  superClass := sup
  interfaces := ifs
  fields := fds
  methods := ms
  attributes := attrs
def plain (name : String) (sup : Option ClassId) : Class where
  name := name
  kind := .ordinary
  loader := none
  accessFlags := 33
  super := sup
  interfaces := #[]
  cf := none
  fields := #[]
  methods := #[]
  instanceTypes := #[]
  staticTypes := #[]
  resolved := #[]
  callSites := []
  init := .initialized
  statics := none
  mirror := none

def pool0 : Array CpInfo := pool [(5, u "<init>"), (0, u "()V"), (1, .class_ 10), (1, u "java/lang/Object")] 113

def k0c0 : Code := { maxStack := 0, maxLocals := 1, code := object_method_1_code, exceptionTable := #[], attributes := #[] }
def k0m0 : Method := { name := "<init>", desc := "()V", sig := { parameters := [], returnType := none }, accessFlags := 1, code := some k0c0 }
/-- java/lang/Object -/
def k0 : Class := { plain "java/lang/Object" none with
  accessFlags := 33
  interfaces := #[]
  cf := some (fileOf pool0 8 #[] #[{ accessFlags := 1, nameIndex := 5, descriptorIndex := 6, attributes := #[] }] 33 0 #[] #[])
  fields := #[]
  methods := #[k0m0]
  instanceTypes := #[]
  staticTypes := #[]
  resolved := Array.replicate 124 none
  statics := none }

def pool1 : Array CpInfo := pool [(2, .class_ 4), (1, u "java/lang/Object"), (0, u "<init>"), (0, u "()V"), (0, .integer 2147483647), (0, .class_ 9), (0, u "org/foreslot/planning/ClusterTimeline"), (0, .methodref 8 11), (0, .nameAndType 5 12), (0, u "(I)V"), (0, .methodref 8 14), (0, .nameAndType 15 16), (0, u "maskOf"), (0, u "([I)[J"), (0, .methodref 18 19), (0, .class_ 20), (0, .nameAndType 21 22), (0, u "org/foreslot/planning/ClusterTimelineMaskOfPinLaw"), (0, u "word"), (0, u "([JIIIII)Z"), (0, .methodref 18 24), (0, .nameAndType 25 26), (0, u "bit"), (0, u "(IZI)J"), (2, u "law"), (0, u "(IIIII)Z")] 7

def k1m0 : Method := { name := "<init>", desc := "()V", sig := { parameters := [], returnType := none }, accessFlags := 1, code := none }
def k1c1 : Code := { maxStack := 6, maxLocals := 14, code := code, exceptionTable := #[], attributes := #[] }
def k1m1 : Method := { name := "law", desc := "(IIIII)Z", sig := { parameters := [.int, .int, .int, .int, .int], returnType := some .boolean }, accessFlags := 9, code := some k1c1 }
def k1c2 : Code := { maxStack := 5, maxLocals := 8, code := method_3_code, exceptionTable := #[], attributes := #[] }
def k1m2 : Method := { name := "word", desc := "([JIIIII)Z", sig := { parameters := [(.array .long), .int, .int, .int, .int, .int], returnType := some .boolean }, accessFlags := 10, code := some k1c2 }
def k1c3 : Code := { maxStack := 4, maxLocals := 3, code := method_4_code, exceptionTable := #[], attributes := #[] }
def k1m3 : Method := { name := "bit", desc := "(IZI)J", sig := { parameters := [.int, .boolean, .int], returnType := some .long }, accessFlags := 10, code := some k1c3 }
/-- org/foreslot/planning/ClusterTimelineMaskOfPinLaw -/
def k1 : Class := { plain "org/foreslot/planning/ClusterTimelineMaskOfPinLaw" (some 0) with
  accessFlags := 49
  interfaces := #[]
  cf := some (fileOf pool1 18 #[] #[{ accessFlags := 1, nameIndex := 5, descriptorIndex := 6, attributes := #[] }, { accessFlags := 9, nameIndex := 29, descriptorIndex := 30, attributes := #[] }, { accessFlags := 10, nameIndex := 21, descriptorIndex := 22, attributes := #[] }, { accessFlags := 10, nameIndex := 25, descriptorIndex := 26, attributes := #[] }] 49 2 #[] #[])
  fields := #[]
  methods := #[k1m0, k1m1, k1m2, k1m3]
  instanceTypes := #[]
  staticTypes := #[]
  resolved := Array.replicate 38 none
  statics := none }

def pool2 : Array CpInfo := pool [(1, .methodref 2 3), (0, .class_ 4), (0, .nameAndType 5 6), (0, u "java/lang/Object"), (0, u "<init>"), (0, u "()V"), (0, .fieldref 8 9), (0, .class_ 10), (0, .nameAndType 11 12), (0, u "org/foreslot/planning/ClusterTimeline"), (0, u "times"), (0, u "[J"), (0, .class_ 14), (0, u "org/foreslot/planning/ClusterTimeline$Stretch"), (0, .fieldref 8 16), (0, .nameAndType 17 18), (0, u "stretches"), (0, u "[Lorg/foreslot/planning/ClusterTimeline$Stretch;"), (0, .fieldref 8 20), (0, .nameAndType 21 22), (0, u "unbooked"), (0, u "[I"), (2, .long 9223372036854775808), (1, .fieldref 8 28), (0, .nameAndType 29 30), (0, u "floor"), (0, u "J"), (0, .fieldref 8 32), (0, .nameAndType 33 30), (0, u "losses"), (0, .long 9223372036854775807), (1, .fieldref 8 37), (0, .nameAndType 38 30), (0, u "markedFrom"), (0, .fieldref 8 40), (0, .nameAndType 41 30), (0, u "markedUntil"), (0, .fieldref 8 43), (0, .nameAndType 44 45), (0, u "nodes"), (0, u "I"), (0, .fieldref 8 47), (0, .nameAndType 48 45), (0, u "words"), (0, .long 18446744073709551615), (1, .fieldref 8 52), (0, .nameAndType 53 30), (0, u "lastWord"), (0, .fieldref 8 55), (0, .nameAndType 56 12), (0, u "found"), (0, .fieldref 8 58), (0, .nameAndType 59 12), (0, u "pending"), (0, .fieldref 8 61), (0, .nameAndType 62 12), (0, u "clear"), (0, .fieldref 8 64), (0, .nameAndType 65 12), (0, u "markedNodes"), (0, .class_ 67), (0, u "org/foreslot/planning/ClusterTimeline$Starts"), (0, .fieldref 8 69), (0, .nameAndType 70 71), (0, u "startsFound"), (0, u "[Lorg/foreslot/planning/ClusterTimeline$Starts;"), (2, u "maskOf"), (0, u "([I)[J"), (23, u "(I)V"), (90, u "size"), (2, u "blocked")] 114

def k2c0 : Code := { maxStack := 5, maxLocals := 2, code := prog_29_method_1_code, exceptionTable := #[], attributes := #[] }
def k2m0 : Method := { name := "<init>", desc := "(I)V", sig := { parameters := [.int], returnType := none }, accessFlags := 0, code := some k2c0 }
def k2c1 : Code := { maxStack := 7, maxLocals := 7, code := prog_29_method_7_code, exceptionTable := #[], attributes := #[] }
def k2m1 : Method := { name := "maskOf", desc := "([I)[J", sig := { parameters := [(.array .int)], returnType := some (.array .long) }, accessFlags := 0, code := some k2c1 }
/-- org/foreslot/planning/ClusterTimeline -/
def k2 : Class := { plain "org/foreslot/planning/ClusterTimeline" (some 0) with
  accessFlags := 48
  interfaces := #[]
  cf := some (fileOf pool2 8 #[.nestMembers #[66, 13]] #[{ accessFlags := 0, nameIndex := 5, descriptorIndex := 99, attributes := #[] }, { accessFlags := 0, nameIndex := 74, descriptorIndex := 75, attributes := #[] }] 48 2 #[] #[{ accessFlags := 18, nameIndex := 44, descriptorIndex := 45, attributes := #[] }, { accessFlags := 18, nameIndex := 48, descriptorIndex := 45, attributes := #[] }, { accessFlags := 18, nameIndex := 53, descriptorIndex := 30, attributes := #[] }, { accessFlags := 2, nameIndex := 11, descriptorIndex := 12, attributes := #[] }, { accessFlags := 2, nameIndex := 17, descriptorIndex := 18, attributes := #[] }, { accessFlags := 2, nameIndex := 21, descriptorIndex := 22, attributes := #[] }, { accessFlags := 2, nameIndex := 190, descriptorIndex := 45, attributes := #[] }, { accessFlags := 2, nameIndex := 29, descriptorIndex := 30, attributes := #[] }, { accessFlags := 18, nameIndex := 56, descriptorIndex := 12, attributes := #[] }, { accessFlags := 2, nameIndex := 193, descriptorIndex := 45, attributes := #[] }, { accessFlags := 18, nameIndex := 62, descriptorIndex := 12, attributes := #[] }, { accessFlags := 18, nameIndex := 70, descriptorIndex := 71, attributes := #[] }, { accessFlags := 2, nameIndex := 33, descriptorIndex := 30, attributes := #[] }, { accessFlags := 18, nameIndex := 59, descriptorIndex := 12, attributes := #[] }, { accessFlags := 18, nameIndex := 65, descriptorIndex := 12, attributes := #[] }, { accessFlags := 2, nameIndex := 38, descriptorIndex := 30, attributes := #[] }, { accessFlags := 2, nameIndex := 41, descriptorIndex := 30, attributes := #[] }])
  fields := #[{ name := "nodes", type := .int, accessFlags := 18, slot := 0, constantValue := 0 }, { name := "words", type := .int, accessFlags := 18, slot := 1, constantValue := 0 }, { name := "lastWord", type := .long, accessFlags := 18, slot := 2, constantValue := 0 }, { name := "times", type := (.array .long), accessFlags := 2, slot := 3, constantValue := 0 }, { name := "stretches", type := (.array (.object "org/foreslot/planning/ClusterTimeline$Stretch")), accessFlags := 2, slot := 4, constantValue := 0 }, { name := "unbooked", type := (.array .int), accessFlags := 2, slot := 5, constantValue := 0 }, { name := "size", type := .int, accessFlags := 2, slot := 6, constantValue := 0 }, { name := "floor", type := .long, accessFlags := 2, slot := 7, constantValue := 0 }, { name := "found", type := (.array .long), accessFlags := 18, slot := 8, constantValue := 0 }, { name := "blocked", type := .int, accessFlags := 2, slot := 9, constantValue := 0 }, { name := "clear", type := (.array .long), accessFlags := 18, slot := 10, constantValue := 0 }, { name := "startsFound", type := (.array (.object "org/foreslot/planning/ClusterTimeline$Starts")), accessFlags := 18, slot := 11, constantValue := 0 }, { name := "losses", type := .long, accessFlags := 2, slot := 12, constantValue := 0 }, { name := "pending", type := (.array .long), accessFlags := 18, slot := 13, constantValue := 0 }, { name := "markedNodes", type := (.array .long), accessFlags := 18, slot := 14, constantValue := 0 }, { name := "markedFrom", type := .long, accessFlags := 2, slot := 15, constantValue := 0 }, { name := "markedUntil", type := .long, accessFlags := 2, slot := 16, constantValue := 0 }]
  methods := #[k2m0, k2m1]
  instanceTypes := #[.int, .int, .long, (.array .long), (.array (.object "org/foreslot/planning/ClusterTimeline$Stretch")), (.array .int), .int, .long, (.array .long), .int, (.array .long), (.array (.object "org/foreslot/planning/ClusterTimeline$Starts")), .long, (.array .long), (.array .long), .long, .long]
  staticTypes := #[]
  resolved := Array.replicate 308 none
  statics := none }

def pool3 : Array CpInfo := pool [(2, .class_ 4), (1, u "java/lang/Object"), (3, .class_ 10), (1, u "org/foreslot/planning/ClusterTimeline$Stretch"), (0, u "booked"), (0, u "[J"), (2, u "ends"), (2, u "changed"), (0, u "moments"), (0, u "momentCounts"), (0, u "[I"), (0, u "changedMoments"), (6, .class_ 30), (0, u "org/foreslot/planning/ClusterTimeline")] 2

/-- org/foreslot/planning/ClusterTimeline$Stretch -/
def k3 : Class := { plain "org/foreslot/planning/ClusterTimeline$Stretch" (some 0) with
  accessFlags := 48
  interfaces := #[]
  cf := some (fileOf pool3 8 #[.nestHost 29] #[] 48 2 #[] #[{ accessFlags := 16, nameIndex := 11, descriptorIndex := 12, attributes := #[] }, { accessFlags := 16, nameIndex := 15, descriptorIndex := 12, attributes := #[] }, { accessFlags := 0, nameIndex := 19, descriptorIndex := 12, attributes := #[] }, { accessFlags := 0, nameIndex := 20, descriptorIndex := 21, attributes := #[] }, { accessFlags := 0, nameIndex := 18, descriptorIndex := 12, attributes := #[] }, { accessFlags := 0, nameIndex := 22, descriptorIndex := 12, attributes := #[] }])
  fields := #[{ name := "booked", type := (.array .long), accessFlags := 16, slot := 0, constantValue := 0 }, { name := "ends", type := (.array .long), accessFlags := 16, slot := 1, constantValue := 0 }, { name := "moments", type := (.array .long), accessFlags := 0, slot := 2, constantValue := 0 }, { name := "momentCounts", type := (.array .int), accessFlags := 0, slot := 3, constantValue := 0 }, { name := "changed", type := (.array .long), accessFlags := 0, slot := 4, constantValue := 0 }, { name := "changedMoments", type := (.array .long), accessFlags := 0, slot := 5, constantValue := 0 }]
  methods := #[]
  instanceTypes := #[(.array .long), (.array .long), (.array .long), (.array .int), (.array .long), (.array .long)]
  staticTypes := #[]
  resolved := Array.replicate 33 none
  statics := none }

def pool4 : Array CpInfo := pool [(2, .class_ 4), (1, u "java/lang/Object"), (0, u "<init>"), (0, u "()V"), (0, .class_ 8), (0, u "org/foreslot/planning/ClusterTimeline$Starts"), (2, u "froms"), (0, u "[J"), (2, u "durations"), (2, u "starts"), (2, u "losses"), (0, u "KEPT"), (0, u "I"), (2, u "next"), (5, .class_ 33), (0, u "org/foreslot/planning/ClusterTimeline")] 2

def k4m0 : Method := { name := "<init>", desc := "()V", sig := { parameters := [], returnType := none }, accessFlags := 2, code := none }
/-- org/foreslot/planning/ClusterTimeline$Starts -/
def k4 : Class := { plain "org/foreslot/planning/ClusterTimeline$Starts" (some 0) with
  accessFlags := 48
  interfaces := #[]
  cf := some (fileOf pool4 7 #[.nestHost 32] #[{ accessFlags := 2, nameIndex := 5, descriptorIndex := 6, attributes := #[] }] 48 2 #[] #[{ accessFlags := 24, nameIndex := 22, descriptorIndex := 23, attributes := #[] }, { accessFlags := 16, nameIndex := 11, descriptorIndex := 12, attributes := #[] }, { accessFlags := 16, nameIndex := 15, descriptorIndex := 12, attributes := #[] }, { accessFlags := 16, nameIndex := 18, descriptorIndex := 12, attributes := #[] }, { accessFlags := 16, nameIndex := 21, descriptorIndex := 12, attributes := #[] }, { accessFlags := 0, nameIndex := 26, descriptorIndex := 23, attributes := #[] }])
  fields := #[{ name := "KEPT", type := .int, accessFlags := 24, slot := 0, constantValue := 0 }, { name := "froms", type := (.array .long), accessFlags := 16, slot := 0, constantValue := 0 }, { name := "durations", type := (.array .long), accessFlags := 16, slot := 1, constantValue := 0 }, { name := "starts", type := (.array .long), accessFlags := 16, slot := 2, constantValue := 0 }, { name := "losses", type := (.array .long), accessFlags := 16, slot := 3, constantValue := 0 }, { name := "next", type := .int, accessFlags := 0, slot := 4, constantValue := 0 }]
  methods := #[k4m0]
  instanceTypes := #[(.array .long), (.array .long), (.array .long), (.array .long), .int]
  staticTypes := #[.int]
  resolved := Array.replicate 36 none
  statics := none }

def pool5 : Array CpInfo := pool [(1, u "java/lang/Cloneable"), (0, .class_ 1), (0, u "java/lang/Object"), (0, .class_ 3)] 3

/-- java/lang/Cloneable -/
def k5 : Class := { plain "java/lang/Cloneable" (some 0) with
  accessFlags := 1537
  interfaces := #[]
  cf := some (fileOf pool5 2 #[] #[] 1537 4 #[] #[])
  fields := #[]
  methods := #[]
  instanceTypes := #[]
  staticTypes := #[]
  resolved := Array.replicate 8 none
  statics := none }

def pool6 : Array CpInfo := pool [(1, u "java/io/Serializable"), (0, .class_ 1), (0, u "java/lang/Object"), (0, .class_ 3)] 3

/-- java/io/Serializable -/
def k6 : Class := { plain "java/io/Serializable" (some 0) with
  accessFlags := 1537
  interfaces := #[]
  cf := some (fileOf pool6 2 #[] #[] 1537 4 #[] #[])
  fields := #[]
  methods := #[]
  instanceTypes := #[]
  staticTypes := #[]
  resolved := Array.replicate 8 none
  statics := none }

/-- the primitive byte -/
def k7 : Class := { plain "byte" none with kind := .primitive 'B', accessFlags := 0x411 }
/-- [B -/
def k8 : Class := { plain "[B" (some 0) with kind := .array 7 .byte, interfaces := #[5, 6], accessFlags := 1041 }

/-- the primitive int -/
def k9 : Class := { plain "int" none with kind := .primitive 'I', accessFlags := 0x411 }
/-- [I -/
def k10 : Class := { plain "[I" (some 0) with kind := .array 9 .int, interfaces := #[5, 6], accessFlags := 1041 }

/-- the primitive long -/
def k11 : Class := { plain "long" none with kind := .primitive 'J', accessFlags := 0x411 }
/-- [J -/
def k12 : Class := { plain "[J" (some 0) with kind := .array 11 .long, interfaces := #[5, 6], accessFlags := 1041 }

/-- [Lorg/foreslot/planning/ClusterTimeline$Starts; -/
def k13 : Class := { plain "[Lorg/foreslot/planning/ClusterTimeline$Starts;" (some 0) with kind := .array 4 (.object "org/foreslot/planning/ClusterTimeline$Starts"), interfaces := #[5, 6], accessFlags := 1041 }

/-- [Lorg/foreslot/planning/ClusterTimeline$Stretch; -/
def k14 : Class := { plain "[Lorg/foreslot/planning/ClusterTimeline$Stretch;" (some 0) with kind := .array 3 (.object "org/foreslot/planning/ClusterTimeline$Stretch"), interfaces := #[5, 6], accessFlags := 1041 }

def heap : Heap := #[]
def classes : Array Class := #[k0, k1, k2, k3, k4, k5, k6, k7, k8, k9, k10, k11, k12, k13, k14]
def interned : List (Array UInt16 × Addr) := []
def slotsUsed : Nat := 0
def theMethod : MethodId := ⟨1, 1⟩
def args0 : Array Value := #[.int 5, .int 7, .int 9, .int 3, .int 4]
def aboutOver (below : List Frame) : State where
  vm := { classes := classes, interned := interned.toArray }
  heap := heap
  slotsUsed := slotsUsed
  threads := #[{ frames := .invoking theMethod args0 :: below }]
def below0 : List Frame := [.native { method := ⟨0, 0⟩, args := #[] }]
def about1 : State := aboutOver below0
def p0 : Program := .bare "" "" ""
def e0 : Env := launch0.env 0 0 0
theorem w_frames : about1.frames = Frame.invoking theMethod args0 :: below0 := rfl
set_option maxRecDepth 65536 in
theorem w_args : argsFit about1.vm theMethod args0 = true := by decide +kernel
set_option maxRecDepth 65536 in
theorem w_heap : heapFits about1 = true := by decide +kernel
set_option maxRecDepth 65536 in
theorem w_runnable : about1.curStatus? = some .runnable := by decide +kernel
set_option maxRecDepth 65536 in
theorem w_alone : about1.alone = true := by decide +kernel
set_option maxRecDepth 65536 in
theorem w_named : about1.methodNamed? x = some theMethod := by decide +kernel
set_option maxRecDepth 65536 in
theorem w_hears : about1.hears theMethod below0 = true := by decide +kernel
set_option maxRecDepth 65536 in
theorem w_ripe : about1.ripe theMethod args0 below0 = true := by decide +kernel
theorem w_running : about1.status = .running := rfl
set_option maxRecDepth 65536 in
theorem w_room : about1.hasRoom e0.platform room_1 = true :=
  launch0.hasRoom_least _ room_1 (by decide +kernel) (by decide +kernel) (by decide +kernel) (by decide +kernel) (by decide +kernel) (by decide +kernel)
theorem allAtoms_all (ts : List Jvm.Cond) (a : Array Jvm.Value) (st : Jvm.State) : (allAtoms ts).before a st = ts.all (fun c => c.before a st) := by
  induction ts with
  | nil => rfl
  | cons c t ih =>
    show (Jvm.Cond.and c (allAtoms t)).before a st = _
    rw [Jvm.Cond.before_and, ih, List.all_cons]
def words1 : List Jvm.Cond := Jvm.Cond.code x code maxLocals ret :: tables_1
/-- a 'code' word, met by the world's own term for the bytes: nothing is compared byte by byte -/
theorem code_word {y : MethodName} {bytes : ByteArray} {mx : Nat} {rt : Option FieldType} {a : Array Value} {s : State} {m : MethodId} {meth : Method} {c : Code} (h1 : s.methodNamed? y = some m) (h2 : s.vm.method? m = some meth) (h3 : meth.code = some c) (h4 : c.code = bytes)
    (h5 : (c.maxLocals == mx && c.exceptionTable.isEmpty && decide (c.maxStack ≤ mostOperands) && decide (meth.sig.returnType = rt) && !meth.locks && decide (parseMethodDescriptor y.desc = some meth.sig)) = true) : (Jvm.Cond.code y bytes mx rt).before a s = true := by
  simp only [Bool.and_eq_true, beq_iff_eq, Bool.not_eq_true', decide_eq_true_eq] at h5
  obtain ⟨⟨⟨⟨⟨g1, g2⟩, g3⟩, g4⟩, g5⟩, g6⟩ := h5
  simp [Cond.before, Cond.holds, Cond.value, h1, h2, h3, h4, g1, g2, g3, g4, g5, g6]
def isCode : Jvm.Cond → Bool
  | .code _ _ _ _ => true
  | _ => false
theorem all_split {L : List Jvm.Cond} {P : Jvm.Cond → Bool} (h1 : L.all (fun c => isCode c || P c) = true) (h2 : ∀ c ∈ L.filter isCode, P c = true) : L.all P = true := by
  refine List.all_eq_true.mpr fun c hc => ?_
  have h := List.all_eq_true.mp h1 c hc
  rcases Bool.eq_false_or_eq_true (isCode c) with hi | hi
  · exact h2 c (List.mem_filter.mpr ⟨hc, hi⟩)
  · simpa [hi] using h
set_option maxRecDepth 65536 in
theorem w_c0 : (Jvm.Cond.code x code maxLocals ret).before args0 about1 = true := code_word (m := ⟨1, 1⟩) (meth := k1m1) (c := k1c1) (by decide +kernel) rfl rfl rfl (by decide +kernel)
set_option maxRecDepth 65536 in
theorem w_c1 : (Jvm.Cond.code ({ cls := "org/foreslot/planning/ClusterTimeline", name := "<init>", desc := "(I)V" } : Jvm.MethodName) prog_29_method_1_code (2 : Nat) (Option.none : Option Jvm.ClassFile.FieldType)).before args0 about1 = true := code_word (m := ⟨2, 0⟩) (meth := k2m0) (c := k2c0) (by decide +kernel) rfl rfl rfl (by decide +kernel)
set_option maxRecDepth 65536 in
theorem w_c2 : (Jvm.Cond.code ({ cls := "java/lang/Object", name := "<init>", desc := "()V" } : Jvm.MethodName) object_method_1_code (1 : Nat) (Option.none : Option Jvm.ClassFile.FieldType)).before args0 about1 = true := code_word (m := ⟨0, 0⟩) (meth := k0m0) (c := k0c0) (by decide +kernel) rfl rfl rfl (by decide +kernel)
set_option maxRecDepth 65536 in
theorem w_c3 : (Jvm.Cond.code ({ cls := "org/foreslot/planning/ClusterTimeline", name := "maskOf", desc := "([I)[J" } : Jvm.MethodName) prog_29_method_7_code (7 : Nat) (Option.some (Jvm.ClassFile.FieldType.array Jvm.ClassFile.FieldType.long))).before args0 about1 = true := code_word (m := ⟨2, 1⟩) (meth := k2m1) (c := k2c1) (by decide +kernel) rfl rfl rfl (by decide +kernel)
set_option maxRecDepth 65536 in
theorem w_c4 : (Jvm.Cond.code ({ cls := "org/foreslot/planning/ClusterTimelineMaskOfPinLaw", name := "word", desc := "([JIIIII)Z" } : Jvm.MethodName) method_3_code (8 : Nat) (Option.some Jvm.ClassFile.FieldType.boolean)).before args0 about1 = true := code_word (m := ⟨1, 2⟩) (meth := k1m2) (c := k1c2) (by decide +kernel) rfl rfl rfl (by decide +kernel)
set_option maxRecDepth 65536 in
theorem w_c5 : (Jvm.Cond.code ({ cls := "org/foreslot/planning/ClusterTimelineMaskOfPinLaw", name := "bit", desc := "(IZI)J" } : Jvm.MethodName) method_4_code (3 : Nat) (Option.some Jvm.ClassFile.FieldType.long)).before args0 about1 = true := code_word (m := ⟨1, 3⟩) (meth := k1m3) (c := k1c3) (by decide +kernel) rfl rfl rfl (by decide +kernel)
def codes1 : List Jvm.Cond := [Jvm.Cond.code x code maxLocals ret, Jvm.Cond.code ({ cls := "org/foreslot/planning/ClusterTimeline", name := "<init>", desc := "(I)V" } : Jvm.MethodName) prog_29_method_1_code (2 : Nat) (Option.none : Option Jvm.ClassFile.FieldType), Jvm.Cond.code ({ cls := "java/lang/Object", name := "<init>", desc := "()V" } : Jvm.MethodName) object_method_1_code (1 : Nat) (Option.none : Option Jvm.ClassFile.FieldType), Jvm.Cond.code ({ cls := "org/foreslot/planning/ClusterTimeline", name := "maskOf", desc := "([I)[J" } : Jvm.MethodName) prog_29_method_7_code (7 : Nat) (Option.some (Jvm.ClassFile.FieldType.array Jvm.ClassFile.FieldType.long)), Jvm.Cond.code ({ cls := "org/foreslot/planning/ClusterTimelineMaskOfPinLaw", name := "word", desc := "([JIIIII)Z" } : Jvm.MethodName) method_3_code (8 : Nat) (Option.some Jvm.ClassFile.FieldType.boolean), Jvm.Cond.code ({ cls := "org/foreslot/planning/ClusterTimelineMaskOfPinLaw", name := "bit", desc := "(IZI)J" } : Jvm.MethodName) method_4_code (3 : Nat) (Option.some Jvm.ClassFile.FieldType.long)]
set_option maxRecDepth 65536 in
theorem codes_eq : words1.filter isCode = codes1 := rfl
theorem w_codes : ∀ c ∈ words1.filter isCode, c.before args0 about1 = true := by
  rw [codes_eq]
  intro c hc
  simp only [codes1, List.mem_cons, List.not_mem_nil, or_false] at hc
  rcases hc with rfl | rfl | rfl | rfl | rfl | rfl
  · exact w_c0
  · exact w_c1
  · exact w_c2
  · exact w_c3
  · exact w_c4
  · exact w_c5
set_option maxRecDepth 65536 in
theorem w_t1 : (words1.take 24).all (fun c => isCode c || c.before args0 about1) = true := by decide +kernel
set_option maxRecDepth 65536 in
theorem w_t2 : ((words1.drop 24).take 24).all (fun c => isCode c || c.before args0 about1) = true := by decide +kernel
set_option maxRecDepth 65536 in
theorem w_t3 : ((words1.drop 24).drop 24).all (fun c => isCode c || c.before args0 about1) = true := by decide +kernel
theorem w_tables : (allAtoms (Jvm.Cond.code x code maxLocals ret :: tables_1)).before args0 about1 = true := by
  rw [allAtoms_all]
  show words1.all (fun c => c.before args0 about1) = true
  refine all_split ?_ w_codes
  rw [← List.take_append_drop 24 words1, List.all_append, w_t1, ← List.take_append_drop 24 (words1.drop 24), List.all_append, w_t2, w_t3]
  rfl
set_option maxRecDepth 65536 in
theorem w_case : (Jvm.Cond.and given_1 narrow_1).before args0 about1 = true := by decide +kernel
theorem w_applies : (headSpec (Jvm.Cond.code x code maxLocals ret :: tables_1) room_1).applies x e0.platform about1 = true :=
  (Spec.applies_iff w_frames).mpr ⟨w_running, w_runnable, w_alone, w_named, w_hears, w_ripe, w_room, w_tables⟩
theorem atStart : AtStart classFile x code maxLocals ret World_1 tables_1 room_1 Calls_1 rest_1 Pre_1 launch0 p0 e0 about1 theMethod args0 below0 :=
  ⟨lists_1, trivial, launch0.admits_env _ _ _, launch0.least_env, fairChoices_fair.cas, fairChoices_fair.clock, w_frames, w_args, w_heap, w_applies, trivial, trivial, w_case⟩
end start1
theorem witness_1 : WitnessClaimed_1 := ⟨start1.p0, start1.e0, start1.about1, start1.theMethod, start1.args0, start1.below0, start1.atStart⟩
end Jvm.Pilot.@@N@@
