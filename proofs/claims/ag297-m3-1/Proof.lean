import JvmDerived
import JvmDerived.Pilot.@@N@@Statement
import JvmDerived.Pilot.@@N@@Code
set_option linter.unusedVariables false
set_option linter.unusedSimpArgs false
namespace Jvm.Own
open Sem ClassFile Op Lib Jvm.Stand Jvm.Free Jvm.LawKit Jvm.RoadKit
section Lay
variable {p : Program} {l : Launch} {e : Env} {R : Room} {s : State} {m : MethodId} {args : Array Value} {below : List Frame} {meth : Method} {c : Code} {T T' : State} {cells slots n0 : Nat} {Z : State} {a0 : Array Value} {h h' : Heap} {Rest : State → Outcome → Prop} {pc pc' : Nat} {L L' : Array Slot} {S : List Value} {f f' : JFrame} {bytes : ByteArray} {maxL : Nat} {ret : Option FieldType} {own nme : String}
/-- the run stands here: a Stand whose written places are all new -/
def St (p : Program) (l : Launch) (e : Env) (R : Room) (s : State) (m : MethodId) (args : Array Value) (below : List Frame) (meth : Method) (c : Code) (n0 : Nat) (T : State) (h : Heap) (cells slots : Nat) : Prop := ∃ locs, Stand p l e R s m args below meth c T locs cells slots ∧ Fr n0 locs ∧ T.heap = h
def Cx (p : Program) (s : State) (m : MethodId) (meth : Method) (c : Code) (Z : State) (bytes : ByteArray) (maxL : Nat) (ret : Option FieldType) (own nme : String) : Prop := p.tables.exec = Jvm.exec ∧ c.code = bytes ∧ c.maxLocals = maxL ∧ meth.sig.returnType = ret ∧ meth.locks = false ∧ s.vm.findClass own = some m.cls ∧ meth.name = nme ∧ Z.Warmed39 s.vm
def Go (p : Program) (e : Env) (below : List Frame) (Rest : State → Outcome → Prop) (T : State) (f : JFrame) : Prop := ∃ t o, Steps p.tables e below (T.setTop f) t ∧ Rest t o
theorem go_by (st : ∀ t, Steps p.tables e below (T'.setTop f') t → Steps p.tables e below (T.setTop f) t) (k : Go p e below Rest T' f') : Go p e below Rest T f := by
  obtain ⟨t, o, h1, h2⟩ := k; exact ⟨t, o, st t h1, h2⟩
theorem go_tr (st : Steps p.tables e below (T.setTop f) (T'.setTop f')) (k : Go p e below Rest T' f') : Go p e below Rest T f := by
  obtain ⟨t, o, h1, h2⟩ := k; exact ⟨t, o, st.trans h1, h2⟩
theorem go_cast (q : f = f') (k : Go p e below Rest T f') : Go p e below Rest T f := q ▸ k
abbrev Rs (s : State) (below : List Frame) (n0 : Nat) (Q : Option Value → Heap → Prop) (k n : Nat) : State → Outcome → Prop := fun t o => t.status = .running ∧ Ended t below o ∧ ∃ v L, o = .returned v ∧ (Q v t.heap ∧ Fr n0 L) ∧ FrameEnd s o t L k n
abbrev Ctr (l : Launch) (y : MethodName) (bytes : ByteArray) (maxL : Nat) (ret : Option FieldType) (rm : Room) (Z : State) (n0 : Nat) (as : Array Value) (h : Heap) (Q : Option Value → Heap → Prop) (ws : List Jvm.Cond) : Prop :=
  MetFree l y (head1 (Jvm.Cond.code y bytes maxL ret :: ws) rm) (fun a U => a = as ∧ Z.Warmed39 U.vm ∧ U.heap = h) (fun _ _ _ _ _ => True) (fun _ U o U' => ∃ v L, o = .returned v ∧ (Q v U'.heap ∧ Fr n0 L) ∧ FrameEnd U o U' L rm.cells rm.slots)
theorem ctr_of {y : MethodName} {rm : Room} {as : Array Value} {Q : Option Value → Heap → Prop} {ws : List Jvm.Cond} (hpn : plainFor y = true)
    (body : ∀ p e s m below meth c s₁, St p l e rm s m as below meth c n0 s₁ h 0 0 → Cx p s m meth c Z bytes maxL ret y.cls y.name → Go p e below (Rs s below n0 Q rm.cells rm.slots) s₁ (entryFrame m as maxL)) :
    Ctr l y bytes maxL ret rm Z n0 as h Q ws := by
  refine MetFree.of_bodySF hpn hisR ?_
  intro p e s m args below meth c s₁ Bd hml0 hP hK
  obtain ⟨rfl, hZ, hh⟩ := hP
  have hown := findClass_of_methodNamed Bd.named
  have hnm := (name_of_methodNamed Bd.named Bd.method).1
  have X0 : Stand p l e rm s m args below meth c s₁ [] 0 0 := Stand.of_body Bd
  have e0 : s₁.heap = h := by rw [← hh, Bd.state]; rfl
  obtain ⟨t, o, h1, h2, h3, h4⟩ := body p e s m below meth c s₁ ⟨[], X0, Fr.nil n0, e0⟩ ⟨Bd.exec, Bd.bytes, hml0, Bd.returns, Bd.notSynchronized, hown, hnm, hZ⟩
  exact ⟨t, o, h1, h2, h3, h4⟩
theorem g_iload (X : St p l e R s m args below meth c n0 T h cells slots) (C : Cx p s m meth c Z bytes maxL ret own nme) {k : Nat} {v : Int32} (hd : decode bytes pc = .ok (.iload k, 2)) (hl : L[k]? = some (.val (.int v))) (hp : pc + 2 = pc') (r : Go p e below Rest T (mkF m pc' L (.int v :: S))) : Go p e below Rest T (mkF m pc L S) := by
  obtain ⟨_, X, -, -⟩ := X; obtain ⟨hx, hby, -⟩ := C; subst hp
  exact go_by (fun t k => XS.iload X.here hx rfl (hb hby hd) hl k) r
theorem g_iloadN (X : St p l e R s m args below meth c n0 T h cells slots) (C : Cx p s m meth c Z bytes maxL ret own nme) {k : Fin 4} {v : Int32} (hd : decode bytes pc = .ok (.iload_n k, 1)) (hl : L[k.val]? = some (.val (.int v))) (hp : pc + 1 = pc') (r : Go p e below Rest T (mkF m pc' L (.int v :: S))) : Go p e below Rest T (mkF m pc L S) := by
  obtain ⟨_, X, -, -⟩ := X; obtain ⟨hx, hby, -⟩ := C; subst hp
  exact go_by (fun t k => XS.iloadN X.here hx rfl (hb hby hd) hl k) r
theorem g_istore (X : St p l e R s m args below meth c n0 T h cells slots) (C : Cx p s m meth c Z bytes maxL ret own nme) {k : Nat} {v v' : Int32} (hd : decode bytes pc = .ok (.istore k, 2)) (hv : v' = v) (hl : storeLocals L k (.int v') = some L') (hp : pc + 2 = pc') (r : Go p e below Rest T (mkF m pc' L' S)) : Go p e below Rest T (mkF m pc L (.int v :: S)) := by
  obtain ⟨_, X, -, -⟩ := X; obtain ⟨hx, hby, -⟩ := C; subst hp
  exact go_by (fun t k => XS.istore X.here hx rfl (hb hby hd) rfl (hv ▸ hl) k) r
theorem g_istoreN (X : St p l e R s m args below meth c n0 T h cells slots) (C : Cx p s m meth c Z bytes maxL ret own nme) {k : Fin 4} {v v' : Int32} (hd : decode bytes pc = .ok (.istore_n k, 1)) (hv : v' = v) (hl : storeLocals L k.val (.int v') = some L') (hp : pc + 1 = pc') (r : Go p e below Rest T (mkF m pc' L' S)) : Go p e below Rest T (mkF m pc L (.int v :: S)) := by
  obtain ⟨_, X, -, -⟩ := X; obtain ⟨hx, hby, -⟩ := C; subst hp
  exact go_by (fun t k => XS.istoreN X.here hx rfl (hb hby hd) rfl (hv ▸ hl) k) r
theorem g_lload (X : St p l e R s m args below meth c n0 T h cells slots) (C : Cx p s m meth c Z bytes maxL ret own nme) {k : Nat} {v : Int64} (hd : decode bytes pc = .ok (.lload k, 2)) (hl : L[k]? = some (.val (.long v))) (hp : pc + 2 = pc') (r : Go p e below Rest T (mkF m pc' L (.long v :: S))) : Go p e below Rest T (mkF m pc L S) := by
  obtain ⟨_, X, -, -⟩ := X; obtain ⟨hx, hby, -⟩ := C; subst hp
  exact go_by (fun t k => XS.lload X.here hx rfl (hb hby hd) hl k) r
theorem g_lloadN (X : St p l e R s m args below meth c n0 T h cells slots) (C : Cx p s m meth c Z bytes maxL ret own nme) {k : Fin 4} {v : Int64} (hd : decode bytes pc = .ok (.lload_n k, 1)) (hl : L[k.val]? = some (.val (.long v))) (hp : pc + 1 = pc') (r : Go p e below Rest T (mkF m pc' L (.long v :: S))) : Go p e below Rest T (mkF m pc L S) := by
  obtain ⟨_, X, -, -⟩ := X; obtain ⟨hx, hby, -⟩ := C; subst hp
  exact go_by (fun t k => XS.lloadN X.here hx rfl (hb hby hd) hl k) r
theorem g_lstore (X : St p l e R s m args below meth c n0 T h cells slots) (C : Cx p s m meth c Z bytes maxL ret own nme) {k : Nat} {v v' : Int64} (hd : decode bytes pc = .ok (.lstore k, 2)) (hv : v' = v) (hl : storeLocals L k (.long v') = some L') (hp : pc + 2 = pc') (r : Go p e below Rest T (mkF m pc' L' S)) : Go p e below Rest T (mkF m pc L (.long v :: S)) := by
  obtain ⟨_, X, -, -⟩ := X; obtain ⟨hx, hby, -⟩ := C; subst hp
  exact go_by (fun t k => XS.lstore X.here hx rfl (hb hby hd) rfl (hv ▸ hl) k) r
theorem g_lstoreN (X : St p l e R s m args below meth c n0 T h cells slots) (C : Cx p s m meth c Z bytes maxL ret own nme) {k : Fin 4} {v v' : Int64} (hd : decode bytes pc = .ok (.lstore_n k, 1)) (hv : v' = v) (hl : storeLocals L k.val (.long v') = some L') (hp : pc + 1 = pc') (r : Go p e below Rest T (mkF m pc' L' S)) : Go p e below Rest T (mkF m pc L (.long v :: S)) := by
  obtain ⟨_, X, -, -⟩ := X; obtain ⟨hx, hby, -⟩ := C; subst hp
  exact go_by (fun t k => XS.lstoreN X.here hx rfl (hb hby hd) rfl (hv ▸ hl) k) r
theorem g_aload (X : St p l e R s m args below meth c n0 T h cells slots) (C : Cx p s m meth c Z bytes maxL ret own nme) {k : Nat} {v : Value} (hd : decode bytes pc = .ok (.aload k, 2)) (hl : L[k]? = some (.val v)) (hv : v.isRef = true) (hp : pc + 2 = pc') (r : Go p e below Rest T (mkF m pc' L (v :: S))) : Go p e below Rest T (mkF m pc L S) := by
  obtain ⟨_, X, -, -⟩ := X; obtain ⟨hx, hby, -⟩ := C; subst hp
  exact go_by (fun t k => XS.aload X.here hx rfl (hb hby hd) hl hv k) r
theorem g_aloadN (X : St p l e R s m args below meth c n0 T h cells slots) (C : Cx p s m meth c Z bytes maxL ret own nme) {k : Fin 4} {v : Value} (hd : decode bytes pc = .ok (.aload_n k, 1)) (hl : L[k.val]? = some (.val v)) (hv : v.isRef = true) (hp : pc + 1 = pc') (r : Go p e below Rest T (mkF m pc' L (v :: S))) : Go p e below Rest T (mkF m pc L S) := by
  obtain ⟨_, X, -, -⟩ := X; obtain ⟨hx, hby, -⟩ := C; subst hp
  exact go_by (fun t k => XS.aloadN X.here hx rfl (hb hby hd) hl hv k) r
theorem g_astore (X : St p l e R s m args below meth c n0 T h cells slots) (C : Cx p s m meth c Z bytes maxL ret own nme) {k : Nat} {v : Value} (hd : decode bytes pc = .ok (.astore k, 2)) (hv : v.isRef = true) (hl : storeLocals L k v = some L') (hp : pc + 2 = pc') (r : Go p e below Rest T (mkF m pc' L' S)) : Go p e below Rest T (mkF m pc L (v :: S)) := by
  obtain ⟨_, X, -, -⟩ := X; obtain ⟨hx, hby, -⟩ := C; subst hp
  exact go_by (fun t k => XS.astore X.here hx rfl (hb hby hd) rfl hv hl k) r
theorem g_astoreN (X : St p l e R s m args below meth c n0 T h cells slots) (C : Cx p s m meth c Z bytes maxL ret own nme) {k : Fin 4} {v : Value} (hd : decode bytes pc = .ok (.astore_n k, 1)) (hv : v.isRef = true) (hl : storeLocals L k.val v = some L') (hp : pc + 1 = pc') (r : Go p e below Rest T (mkF m pc' L' S)) : Go p e below Rest T (mkF m pc L (v :: S)) := by
  obtain ⟨_, X, -, -⟩ := X; obtain ⟨hx, hby, -⟩ := C; subst hp
  exact go_by (fun t k => XS.astoreN X.here hx rfl (hb hby hd) rfl hv hl k) r
theorem g_iconst (X : St p l e R s m args below meth c n0 T h cells slots) (C : Cx p s m meth c Z bytes maxL ret own nme) {i : Int} {v : Int32} (hd : decode bytes pc = .ok (.iconst i, 1)) (hv : Int32.ofInt i = v) (hp : pc + 1 = pc') (r : Go p e below Rest T (mkF m pc' L (.int v :: S))) : Go p e below Rest T (mkF m pc L S) := by
  obtain ⟨_, X, -, -⟩ := X; obtain ⟨hx, hby, -⟩ := C; subst hp hv
  exact go_by (fun t k => XS.iconst X.here hx rfl (hb hby hd) k) r
theorem g_bipush (X : St p l e R s m args below meth c n0 T h cells slots) (C : Cx p s m meth c Z bytes maxL ret own nme) {i : Int} {v : Int32} (hd : decode bytes pc = .ok (.bipush i, 2)) (hv : (Int8.ofInt i).toInt32 = v) (hp : pc + 2 = pc') (r : Go p e below Rest T (mkF m pc' L (.int v :: S))) : Go p e below Rest T (mkF m pc L S) := by
  obtain ⟨_, X, -, -⟩ := X; obtain ⟨hx, hby, -⟩ := C; subst hp hv
  exact go_by (fun t k => XS.bipush X.here hx rfl (hb hby hd) k) r
theorem g_sipush (X : St p l e R s m args below meth c n0 T h cells slots) (C : Cx p s m meth c Z bytes maxL ret own nme) {i : Int} {v : Int32} (hd : decode bytes pc = .ok (.sipush i, 3)) (hv : (Int16.ofInt i).toInt32 = v) (hp : pc + 3 = pc') (r : Go p e below Rest T (mkF m pc' L (.int v :: S))) : Go p e below Rest T (mkF m pc L S) := by
  obtain ⟨_, X, -, -⟩ := X; obtain ⟨hx, hby, -⟩ := C; subst hp hv
  exact go_by (fun t k => XS.sipush X.here hx rfl (hb hby hd) k) r
theorem g_lconst (X : St p l e R s m args below meth c n0 T h cells slots) (C : Cx p s m meth c Z bytes maxL ret own nme) {i : Fin 2} {v : Int64} (hd : decode bytes pc = .ok (.lconst i, 1)) (hv : Int64.ofNat i = v) (hp : pc + 1 = pc') (r : Go p e below Rest T (mkF m pc' L (.long v :: S))) : Go p e below Rest T (mkF m pc L S) := by
  obtain ⟨_, X, -, -⟩ := X; obtain ⟨hx, hby, -⟩ := C; subst hp hv
  exact go_by (fun t k => XS.lconst X.here hx rfl (hb hby hd) k) r
theorem g_aconst (X : St p l e R s m args below meth c n0 T h cells slots) (C : Cx p s m meth c Z bytes maxL ret own nme)  (hd : decode bytes pc = .ok (.aconst_null, 1))  (hp : pc + 1 = pc') (r : Go p e below Rest T (mkF m pc' L (.null :: S))) : Go p e below Rest T (mkF m pc L S) := by
  obtain ⟨_, X, -, -⟩ := X; obtain ⟨hx, hby, -⟩ := C; subst hp
  exact go_by (fun t k => XS.aconstNull X.here hx rfl (hb hby hd)  k) r
theorem g_iadd (X : St p l e R s m args below meth c n0 T h cells slots) (C : Cx p s m meth c Z bytes maxL ret own nme) {x y : Int32} (hd : decode bytes pc = .ok (.iadd, 1))  (hp : pc + 1 = pc') (r : Go p e below Rest T (mkF m pc' L (.int (x + y) :: S))) : Go p e below Rest T (mkF m pc L (.int y :: .int x :: S)) := by
  obtain ⟨_, X, -, -⟩ := X; obtain ⟨hx, hby, -⟩ := C; subst hp
  exact go_by (fun t k => XS.iadd X.here hx rfl (hb hby hd) rfl k) r
theorem g_ladd (X : St p l e R s m args below meth c n0 T h cells slots) (C : Cx p s m meth c Z bytes maxL ret own nme) {x y : Int64} (hd : decode bytes pc = .ok (.ladd, 1))  (hp : pc + 1 = pc') (r : Go p e below Rest T (mkF m pc' L (.long (x + y) :: S))) : Go p e below Rest T (mkF m pc L (.long y :: .long x :: S)) := by
  obtain ⟨_, X, -, -⟩ := X; obtain ⟨hx, hby, -⟩ := C; subst hp
  exact go_by (fun t k => XS.ladd X.here hx rfl (hb hby hd) rfl k) r
theorem g_isub (X : St p l e R s m args below meth c n0 T h cells slots) (C : Cx p s m meth c Z bytes maxL ret own nme) {x y : Int32} (hd : decode bytes pc = .ok (.isub, 1))  (hp : pc + 1 = pc') (r : Go p e below Rest T (mkF m pc' L (.int (x - y) :: S))) : Go p e below Rest T (mkF m pc L (.int y :: .int x :: S)) := by
  obtain ⟨_, X, -, -⟩ := X; obtain ⟨hx, hby, -⟩ := C; subst hp
  exact go_by (fun t k => XS.isub X.here hx rfl (hb hby hd) rfl k) r
theorem g_lsub (X : St p l e R s m args below meth c n0 T h cells slots) (C : Cx p s m meth c Z bytes maxL ret own nme) {x y : Int64} (hd : decode bytes pc = .ok (.lsub, 1))  (hp : pc + 1 = pc') (r : Go p e below Rest T (mkF m pc' L (.long (x - y) :: S))) : Go p e below Rest T (mkF m pc L (.long y :: .long x :: S)) := by
  obtain ⟨_, X, -, -⟩ := X; obtain ⟨hx, hby, -⟩ := C; subst hp
  exact go_by (fun t k => XS.lsub X.here hx rfl (hb hby hd) rfl k) r
theorem g_imul (X : St p l e R s m args below meth c n0 T h cells slots) (C : Cx p s m meth c Z bytes maxL ret own nme) {x y : Int32} (hd : decode bytes pc = .ok (.imul, 1))  (hp : pc + 1 = pc') (r : Go p e below Rest T (mkF m pc' L (.int (x * y) :: S))) : Go p e below Rest T (mkF m pc L (.int y :: .int x :: S)) := by
  obtain ⟨_, X, -, -⟩ := X; obtain ⟨hx, hby, -⟩ := C; subst hp
  exact go_by (fun t k => XS.imul X.here hx rfl (hb hby hd) rfl k) r
theorem g_lmul (X : St p l e R s m args below meth c n0 T h cells slots) (C : Cx p s m meth c Z bytes maxL ret own nme) {x y : Int64} (hd : decode bytes pc = .ok (.lmul, 1))  (hp : pc + 1 = pc') (r : Go p e below Rest T (mkF m pc' L (.long (x * y) :: S))) : Go p e below Rest T (mkF m pc L (.long y :: .long x :: S)) := by
  obtain ⟨_, X, -, -⟩ := X; obtain ⟨hx, hby, -⟩ := C; subst hp
  exact go_by (fun t k => XS.lmul X.here hx rfl (hb hby hd) rfl k) r
theorem g_iand (X : St p l e R s m args below meth c n0 T h cells slots) (C : Cx p s m meth c Z bytes maxL ret own nme) {x y : Int32} (hd : decode bytes pc = .ok (.iand, 1))  (hp : pc + 1 = pc') (r : Go p e below Rest T (mkF m pc' L (.int (x &&& y) :: S))) : Go p e below Rest T (mkF m pc L (.int y :: .int x :: S)) := by
  obtain ⟨_, X, -, -⟩ := X; obtain ⟨hx, hby, -⟩ := C; subst hp
  exact go_by (fun t k => XS.iand X.here hx rfl (hb hby hd) rfl k) r
theorem g_land (X : St p l e R s m args below meth c n0 T h cells slots) (C : Cx p s m meth c Z bytes maxL ret own nme) {x y : Int64} (hd : decode bytes pc = .ok (.land, 1))  (hp : pc + 1 = pc') (r : Go p e below Rest T (mkF m pc' L (.long (x &&& y) :: S))) : Go p e below Rest T (mkF m pc L (.long y :: .long x :: S)) := by
  obtain ⟨_, X, -, -⟩ := X; obtain ⟨hx, hby, -⟩ := C; subst hp
  exact go_by (fun t k => XS.land X.here hx rfl (hb hby hd) rfl k) r
theorem g_ior (X : St p l e R s m args below meth c n0 T h cells slots) (C : Cx p s m meth c Z bytes maxL ret own nme) {x y : Int32} (hd : decode bytes pc = .ok (.ior, 1))  (hp : pc + 1 = pc') (r : Go p e below Rest T (mkF m pc' L (.int (x ||| y) :: S))) : Go p e below Rest T (mkF m pc L (.int y :: .int x :: S)) := by
  obtain ⟨_, X, -, -⟩ := X; obtain ⟨hx, hby, -⟩ := C; subst hp
  exact go_by (fun t k => XS.ior X.here hx rfl (hb hby hd) rfl k) r
theorem g_lor (X : St p l e R s m args below meth c n0 T h cells slots) (C : Cx p s m meth c Z bytes maxL ret own nme) {x y : Int64} (hd : decode bytes pc = .ok (.lor, 1))  (hp : pc + 1 = pc') (r : Go p e below Rest T (mkF m pc' L (.long (x ||| y) :: S))) : Go p e below Rest T (mkF m pc L (.long y :: .long x :: S)) := by
  obtain ⟨_, X, -, -⟩ := X; obtain ⟨hx, hby, -⟩ := C; subst hp
  exact go_by (fun t k => XS.lor X.here hx rfl (hb hby hd) rfl k) r
theorem g_ixor (X : St p l e R s m args below meth c n0 T h cells slots) (C : Cx p s m meth c Z bytes maxL ret own nme) {x y : Int32} (hd : decode bytes pc = .ok (.ixor, 1))  (hp : pc + 1 = pc') (r : Go p e below Rest T (mkF m pc' L (.int (x ^^^ y) :: S))) : Go p e below Rest T (mkF m pc L (.int y :: .int x :: S)) := by
  obtain ⟨_, X, -, -⟩ := X; obtain ⟨hx, hby, -⟩ := C; subst hp
  exact go_by (fun t k => XS.ixor X.here hx rfl (hb hby hd) rfl k) r
theorem g_lxor (X : St p l e R s m args below meth c n0 T h cells slots) (C : Cx p s m meth c Z bytes maxL ret own nme) {x y : Int64} (hd : decode bytes pc = .ok (.lxor, 1))  (hp : pc + 1 = pc') (r : Go p e below Rest T (mkF m pc' L (.long (x ^^^ y) :: S))) : Go p e below Rest T (mkF m pc L (.long y :: .long x :: S)) := by
  obtain ⟨_, X, -, -⟩ := X; obtain ⟨hx, hby, -⟩ := C; subst hp
  exact go_by (fun t k => XS.lxor X.here hx rfl (hb hby hd) rfl k) r
theorem g_ishl (X : St p l e R s m args below meth c n0 T h cells slots) (C : Cx p s m meth c Z bytes maxL ret own nme) {x : Int32} {y : Int32} (hd : decode bytes pc = .ok (.ishl, 1))  (hp : pc + 1 = pc') (r : Go p e below Rest T (mkF m pc' L (.int (x <<< (y &&& 31)) :: S))) : Go p e below Rest T (mkF m pc L (.int y :: .int x :: S)) := by
  obtain ⟨_, X, -, -⟩ := X; obtain ⟨hx, hby, -⟩ := C; subst hp
  exact go_by (fun t k => XS.ishl X.here hx rfl (hb hby hd) rfl k) r
theorem g_ishr (X : St p l e R s m args below meth c n0 T h cells slots) (C : Cx p s m meth c Z bytes maxL ret own nme) {x : Int32} {y : Int32} (hd : decode bytes pc = .ok (.ishr, 1))  (hp : pc + 1 = pc') (r : Go p e below Rest T (mkF m pc' L (.int (x >>> (y &&& 31)) :: S))) : Go p e below Rest T (mkF m pc L (.int y :: .int x :: S)) := by
  obtain ⟨_, X, -, -⟩ := X; obtain ⟨hx, hby, -⟩ := C; subst hp
  exact go_by (fun t k => XS.ishr X.here hx rfl (hb hby hd) rfl k) r
theorem g_iushr (X : St p l e R s m args below meth c n0 T h cells slots) (C : Cx p s m meth c Z bytes maxL ret own nme) {x : Int32} {y : Int32} (hd : decode bytes pc = .ok (.iushr, 1))  (hp : pc + 1 = pc') (r : Go p e below Rest T (mkF m pc' L (.int ((x.toUInt32 >>> (y &&& 31).toUInt32).toInt32) :: S))) : Go p e below Rest T (mkF m pc L (.int y :: .int x :: S)) := by
  obtain ⟨_, X, -, -⟩ := X; obtain ⟨hx, hby, -⟩ := C; subst hp
  exact go_by (fun t k => XS.iushr X.here hx rfl (hb hby hd) rfl k) r
theorem g_lshl (X : St p l e R s m args below meth c n0 T h cells slots) (C : Cx p s m meth c Z bytes maxL ret own nme) {x : Int64} {y : Int32} (hd : decode bytes pc = .ok (.lshl, 1))  (hp : pc + 1 = pc') (r : Go p e below Rest T (mkF m pc' L (.long (x <<< (y &&& 0x3f).toInt64) :: S))) : Go p e below Rest T (mkF m pc L (.int y :: .long x :: S)) := by
  obtain ⟨_, X, -, -⟩ := X; obtain ⟨hx, hby, -⟩ := C; subst hp
  exact go_by (fun t k => XS.lshl X.here hx rfl (hb hby hd) rfl k) r
theorem g_lshr (X : St p l e R s m args below meth c n0 T h cells slots) (C : Cx p s m meth c Z bytes maxL ret own nme) {x : Int64} {y : Int32} (hd : decode bytes pc = .ok (.lshr, 1))  (hp : pc + 1 = pc') (r : Go p e below Rest T (mkF m pc' L (.long (x >>> (y &&& 0x3f).toInt64) :: S))) : Go p e below Rest T (mkF m pc L (.int y :: .long x :: S)) := by
  obtain ⟨_, X, -, -⟩ := X; obtain ⟨hx, hby, -⟩ := C; subst hp
  exact go_by (fun t k => XS.lshr X.here hx rfl (hb hby hd) rfl k) r
theorem g_lushr (X : St p l e R s m args below meth c n0 T h cells slots) (C : Cx p s m meth c Z bytes maxL ret own nme) {x : Int64} {y : Int32} (hd : decode bytes pc = .ok (.lushr, 1))  (hp : pc + 1 = pc') (r : Go p e below Rest T (mkF m pc' L (.long ((x.toUInt64 >>> (y &&& 0x3f).toInt64.toUInt64).toInt64) :: S))) : Go p e below Rest T (mkF m pc L (.int y :: .long x :: S)) := by
  obtain ⟨_, X, -, -⟩ := X; obtain ⟨hx, hby, -⟩ := C; subst hp
  exact go_by (fun t k => XS.lushr X.here hx rfl (hb hby hd) rfl k) r
theorem g_idiv (X : St p l e R s m args below meth c n0 T h cells slots) (C : Cx p s m meth c Z bytes maxL ret own nme) {x y : Int32} (hd : decode bytes pc = .ok (.idiv, 1)) (hy : y ≠ 0) (hp : pc + 1 = pc') (r : Go p e below Rest T (mkF m pc' L (.int (x / y) :: S))) : Go p e below Rest T (mkF m pc L (.int y :: .int x :: S)) := by
  obtain ⟨_, X, -, -⟩ := X; obtain ⟨hx, hby, -⟩ := C; subst hp
  exact go_by (fun t k => XS.idiv X.here hx rfl (hb hby hd) rfl hy k) r
theorem g_ldiv (X : St p l e R s m args below meth c n0 T h cells slots) (C : Cx p s m meth c Z bytes maxL ret own nme) {x y : Int64} (hd : decode bytes pc = .ok (.ldiv, 1)) (hy : y ≠ 0) (hp : pc + 1 = pc') (r : Go p e below Rest T (mkF m pc' L (.long (x / y) :: S))) : Go p e below Rest T (mkF m pc L (.long y :: .long x :: S)) := by
  obtain ⟨_, X, -, -⟩ := X; obtain ⟨hx, hby, -⟩ := C; subst hp
  exact go_by (fun t k => XS.ldiv X.here hx rfl (hb hby hd) rfl hy k) r
theorem g_ineg (X : St p l e R s m args below meth c n0 T h cells slots) (C : Cx p s m meth c Z bytes maxL ret own nme) {x : Int32} (hd : decode bytes pc = .ok (.ineg, 1))  (hp : pc + 1 = pc') (r : Go p e below Rest T (mkF m pc' L (.int ((-x)) :: S))) : Go p e below Rest T (mkF m pc L (.int x :: S)) := by
  obtain ⟨_, X, -, -⟩ := X; obtain ⟨hx, hby, -⟩ := C; subst hp
  exact go_by (fun t k => XS.ineg X.here hx rfl (hb hby hd) rfl k) r
theorem g_lneg (X : St p l e R s m args below meth c n0 T h cells slots) (C : Cx p s m meth c Z bytes maxL ret own nme) {x : Int64} (hd : decode bytes pc = .ok (.lneg, 1))  (hp : pc + 1 = pc') (r : Go p e below Rest T (mkF m pc' L (.long ((-x)) :: S))) : Go p e below Rest T (mkF m pc L (.long x :: S)) := by
  obtain ⟨_, X, -, -⟩ := X; obtain ⟨hx, hby, -⟩ := C; subst hp
  exact go_by (fun t k => XS.lneg X.here hx rfl (hb hby hd) rfl k) r
theorem g_i2l (X : St p l e R s m args below meth c n0 T h cells slots) (C : Cx p s m meth c Z bytes maxL ret own nme) {x : Int32} (hd : decode bytes pc = .ok (.i2l, 1))  (hp : pc + 1 = pc') (r : Go p e below Rest T (mkF m pc' L (.long (x.toInt64) :: S))) : Go p e below Rest T (mkF m pc L (.int x :: S)) := by
  obtain ⟨_, X, -, -⟩ := X; obtain ⟨hx, hby, -⟩ := C; subst hp
  exact go_by (fun t k => XS.i2l X.here hx rfl (hb hby hd) rfl k) r
theorem g_l2i (X : St p l e R s m args below meth c n0 T h cells slots) (C : Cx p s m meth c Z bytes maxL ret own nme) {x : Int64} (hd : decode bytes pc = .ok (.l2i, 1))  (hp : pc + 1 = pc') (r : Go p e below Rest T (mkF m pc' L (.int (x.toInt32) :: S))) : Go p e below Rest T (mkF m pc L (.long x :: S)) := by
  obtain ⟨_, X, -, -⟩ := X; obtain ⟨hx, hby, -⟩ := C; subst hp
  exact go_by (fun t k => XS.l2i X.here hx rfl (hb hby hd) rfl k) r
theorem g_i2b (X : St p l e R s m args below meth c n0 T h cells slots) (C : Cx p s m meth c Z bytes maxL ret own nme) {x : Int32} (hd : decode bytes pc = .ok (.i2b, 1))  (hp : pc + 1 = pc') (r : Go p e below Rest T (mkF m pc' L (.int (x.toInt8.toInt32) :: S))) : Go p e below Rest T (mkF m pc L (.int x :: S)) := by
  obtain ⟨_, X, -, -⟩ := X; obtain ⟨hx, hby, -⟩ := C; subst hp
  exact go_by (fun t k => XS.i2b X.here hx rfl (hb hby hd) rfl k) r
theorem g_i2s (X : St p l e R s m args below meth c n0 T h cells slots) (C : Cx p s m meth c Z bytes maxL ret own nme) {x : Int32} (hd : decode bytes pc = .ok (.i2s, 1))  (hp : pc + 1 = pc') (r : Go p e below Rest T (mkF m pc' L (.int (x.toInt16.toInt32) :: S))) : Go p e below Rest T (mkF m pc L (.int x :: S)) := by
  obtain ⟨_, X, -, -⟩ := X; obtain ⟨hx, hby, -⟩ := C; subst hp
  exact go_by (fun t k => XS.i2s X.here hx rfl (hb hby hd) rfl k) r
theorem g_i2c (X : St p l e R s m args below meth c n0 T h cells slots) (C : Cx p s m meth c Z bytes maxL ret own nme) {x : Int32} (hd : decode bytes pc = .ok (.i2c, 1))  (hp : pc + 1 = pc') (r : Go p e below Rest T (mkF m pc' L (.int (x.toUInt32.toUInt16.toUInt32.toInt32) :: S))) : Go p e below Rest T (mkF m pc L (.int x :: S)) := by
  obtain ⟨_, X, -, -⟩ := X; obtain ⟨hx, hby, -⟩ := C; subst hp
  exact go_by (fun t k => XS.i2c X.here hx rfl (hb hby hd) rfl k) r
theorem g_lcmp (X : St p l e R s m args below meth c n0 T h cells slots) (C : Cx p s m meth c Z bytes maxL ret own nme) {x y : Int64} (hd : decode bytes pc = .ok (.lcmp, 1))  (hp : pc + 1 = pc') (r : Go p e below Rest T (mkF m pc' L (.int (lcmpW x y) :: S))) : Go p e below Rest T (mkF m pc L (.long y :: .long x :: S)) := by
  obtain ⟨_, X, -, -⟩ := X; obtain ⟨hx, hby, -⟩ := C; subst hp
  exact go_by (fun t k => XS.lcmp X.here hx rfl (hb hby hd) rfl k) r
theorem g_dup (X : St p l e R s m args below meth c n0 T h cells slots) (C : Cx p s m meth c Z bytes maxL ret own nme) {x : Value} (hd : decode bytes pc = .ok (.dup, 1)) (hc : x.category = 1) (hp : pc + 1 = pc') (r : Go p e below Rest T (mkF m pc' L (x :: x :: S))) : Go p e below Rest T (mkF m pc L (x :: S)) := by
  obtain ⟨_, X, -, -⟩ := X; obtain ⟨hx, hby, -⟩ := C; subst hp
  exact go_by (fun t k => XS.dup X.here hx rfl (hb hby hd) rfl hc k) r
theorem g_pop (X : St p l e R s m args below meth c n0 T h cells slots) (C : Cx p s m meth c Z bytes maxL ret own nme) {x : Value} (hd : decode bytes pc = .ok (.pop, 1)) (hc : x.category = 1) (hp : pc + 1 = pc') (r : Go p e below Rest T (mkF m pc' L S)) : Go p e below Rest T (mkF m pc L (x :: S)) := by
  obtain ⟨_, X, -, -⟩ := X; obtain ⟨hx, hby, -⟩ := C; subst hp
  exact go_by (fun t k => XS.pop X.here hx rfl (hb hby hd) rfl hc k) r
theorem g_dupx1 (X : St p l e R s m args below meth c n0 T h cells slots) (C : Cx p s m meth c Z bytes maxL ret own nme) {x y : Value} (hd : decode bytes pc = .ok (.dup_x1, 1)) (hc : x.category = 1) (hc' : y.category = 1) (hp : pc + 1 = pc') (r : Go p e below Rest T (mkF m pc' L (x :: y :: x :: S))) : Go p e below Rest T (mkF m pc L (x :: y :: S)) := by
  obtain ⟨_, X, -, -⟩ := X; obtain ⟨hx, hby, -⟩ := C; subst hp
  exact go_by (fun t k => XS.dupX1 X.here hx rfl (hb hby hd) rfl hc hc' k) r
theorem g_dup2 (X : St p l e R s m args below meth c n0 T h cells slots) (C : Cx p s m meth c Z bytes maxL ret own nme) {x y : Value} (hd : decode bytes pc = .ok (.dup2, 1)) (hc : x.category = 1) (hc' : y.category = 1) (hp : pc + 1 = pc') (r : Go p e below Rest T (mkF m pc' L (x :: y :: x :: y :: S))) : Go p e below Rest T (mkF m pc L (x :: y :: S)) := by
  obtain ⟨_, X, -, -⟩ := X; obtain ⟨hx, hby, -⟩ := C; subst hp
  exact go_by (fun t k => XT.dup2 X.here hx rfl (hb hby hd) rfl hc hc' k) r
theorem g_dup2L (X : St p l e R s m args below meth c n0 T h cells slots) (C : Cx p s m meth c Z bytes maxL ret own nme) {x : Int64} (hd : decode bytes pc = .ok (.dup2, 1))  (hp : pc + 1 = pc') (r : Go p e below Rest T (mkF m pc' L (.long x :: .long x :: S))) : Go p e below Rest T (mkF m pc L (.long x :: S)) := by
  obtain ⟨_, X, -, -⟩ := X; obtain ⟨hx, hby, -⟩ := C; subst hp
  exact go_by (fun t k => XT.dup2L X.here hx rfl (hb hby hd) rfl k) r
theorem g_iinc (X : St p l e R s m args below meth c n0 T h cells slots) (C : Cx p s m meth c Z bytes maxL ret own nme) {k : Nat} {i : Int} {v v' : Int32} (hd : decode bytes pc = .ok (.iinc k i, 3)) (hl : L[k]? = some (.val (.int v))) (hv : v' = v + Int32.ofInt i) (hs : storeLocals L k (.int v') = some L') (hp : pc + 3 = pc') (r : Go p e below Rest T (mkF m pc' L' S)) : Go p e below Rest T (mkF m pc L S) := by
  obtain ⟨_, X, -, -⟩ := X; obtain ⟨hx, hby, -⟩ := C; subst hp
  exact go_by (fun t k => XS.iinc X.here hx rfl (hb hby hd) hl (hv ▸ hs) k) r
theorem g_goto (X : St p l e R s m args below meth c n0 T h cells slots) (C : Cx p s m meth c Z bytes maxL ret own nme) {o : Int} (hd : decode bytes pc = .ok (.goto o, 3)) (h0 : 0 ≤ (pc : Int) + o) (hp : ((pc : Int) + o).toNat = pc') (r : Go p e below Rest T (mkF m pc' L S)) : Go p e below Rest T (mkF m pc L S) := by
  obtain ⟨_, X, -, -⟩ := X; obtain ⟨hx, hby, -⟩ := C
  exact go_by (fun t k => XS.goto X.here hx rfl (pc0 := pc) rfl (hb hby hd) h0 hp k) r
theorem g_icmp (X : St p l e R s m args below meth c n0 T h cells slots) (C : Cx p s m meth c Z bytes maxL ret own nme) {cd : ClassFile.Cond} {o : Int} {x y : Int32} {pT pF : Nat} (hd : decode bytes pc = .ok (.if_icmp cd o, 3)) (h0 : 0 ≤ (pc : Int) + o) (hT : ((pc : Int) + o).toNat = pT) (hF : pc + 3 = pF) (r1 : if_icmp.holds cd x y = true → Go p e below Rest T (mkF m pT L S)) (r2 : if_icmp.holds cd x y = false → Go p e below Rest T (mkF m pF L S)) : Go p e below Rest T (mkF m pc L (.int y :: .int x :: S)) := by
  obtain ⟨_, X, -, -⟩ := X; obtain ⟨hx, hby, -⟩ := C
  rcases Bool.eq_false_or_eq_true (if_icmp.holds cd x y) with q | q
  · exact go_by (fun t k => XS.icmpYes X.here hx rfl (pc0 := pc) rfl (hb hby hd) rfl q h0 hT k) (r1 q)
  · subst hF; exact go_by (fun t k => XS.icmpNo X.here hx rfl (hb hby hd) rfl q k) (r2 q)
theorem g_if (X : St p l e R s m args below meth c n0 T h cells slots) (C : Cx p s m meth c Z bytes maxL ret own nme) {cd : ClassFile.Cond} {o : Int} {x : Int32} {pT pF : Nat} (hd : decode bytes pc = .ok (.ifCond cd o, 3)) (h0 : 0 ≤ (pc : Int) + o) (hT : ((pc : Int) + o).toNat = pT) (hF : pc + 3 = pF) (r1 : if_icmp.holds cd x 0 = true → Go p e below Rest T (mkF m pT L S)) (r2 : if_icmp.holds cd x 0 = false → Go p e below Rest T (mkF m pF L S)) : Go p e below Rest T (mkF m pc L (.int x :: S)) := by
  obtain ⟨_, X, -, -⟩ := X; obtain ⟨hx, hby, -⟩ := C
  rcases Bool.eq_false_or_eq_true (if_icmp.holds cd x 0) with q | q
  · exact go_by (fun t k => XS.ifYes X.here hx rfl (pc0 := pc) rfl (hb hby hd) rfl ((if0 _ _).trans q) h0 hT k) (r1 q)
  · subst hF; exact go_by (fun t k => XS.ifNo X.here hx rfl (hb hby hd) rfl ((if0 _ _).trans q) k) (r2 q)
theorem hold_lt {x y : Int32} {a b : Int} (ha : x.toInt = a) (hb' : y.toInt = b) : (if_icmp.holds .lt x y = true → a < b) ∧ (if_icmp.holds .lt x y = false → b ≤ a) := by
  subst ha hb'
  constructor <;> intro q <;> simp [if_icmp.holds, Int32.lt_iff_toInt_lt, Int32.le_iff_toInt_le, ← Int32.toInt_inj] at q <;> omega
theorem g_icmp_lt (X : St p l e R s m args below meth c n0 T h cells slots) (C : Cx p s m meth c Z bytes maxL ret own nme) {o : Int} {x y : Int32} {a b : Int} {pT pF : Nat} (hd : decode bytes pc = .ok (.if_icmp .lt o, 3)) (ha : x.toInt = a) (hb' : y.toInt = b) (h0 : 0 ≤ (pc : Int) + o) (hT : ((pc : Int) + o).toNat = pT) (hF : pc + 3 = pF) (r1 : a < b → Go p e below Rest T (mkF m pT L S)) (r2 : b ≤ a → Go p e below Rest T (mkF m pF L S)) : Go p e below Rest T (mkF m pc L (.int y :: .int x :: S)) :=
  g_icmp X C hd h0 hT hF (fun q => r1 ((hold_lt ha hb').1 q)) (fun q => r2 ((hold_lt ha hb').2 q))
theorem g_if_lt (X : St p l e R s m args below meth c n0 T h cells slots) (C : Cx p s m meth c Z bytes maxL ret own nme) {o : Int} {x : Int32} {a : Int} {pT pF : Nat} (hd : decode bytes pc = .ok (.ifCond .lt o, 3)) (ha : x.toInt = a) (h0 : 0 ≤ (pc : Int) + o) (hT : ((pc : Int) + o).toNat = pT) (hF : pc + 3 = pF) (r1 : a < 0 → Go p e below Rest T (mkF m pT L S)) (r2 : 0 ≤ a → Go p e below Rest T (mkF m pF L S)) : Go p e below Rest T (mkF m pc L (.int x :: S)) :=
  g_if X C hd h0 hT hF (fun q => r1 ((hold_lt ha (by decide)).1 q)) (fun q => r2 ((hold_lt ha (by decide)).2 q))
theorem hlc_lt {x y : Int64} {a b : Int} (ha : x.toInt = a) (hb' : y.toInt = b) : (if_icmp.holds .lt (lcmpW x y) 0 = true → a < b) ∧ (if_icmp.holds .lt (lcmpW x y) 0 = false → b ≤ a) := by
  have h1 := c_lcmp x y; subst ha hb'
  have h3 := hold_lt (x := lcmpW x y) (y := 0) rfl (b := 0) (by decide)
  refine ⟨fun q => ?_, fun q => ?_⟩
  · have := h3.1 q; omega
  · have := h3.2 q; omega
theorem g_lif_lt (X : St p l e R s m args below meth c n0 T h cells slots) (C : Cx p s m meth c Z bytes maxL ret own nme) {o : Int} {x y : Int64} {a b : Int} {pT pF : Nat} (hd : decode bytes pc = .ok (.ifCond .lt o, 3)) (ha : x.toInt = a) (hb' : y.toInt = b) (h0 : 0 ≤ (pc : Int) + o) (hT : ((pc : Int) + o).toNat = pT) (hF : pc + 3 = pF) (r1 : a < b → Go p e below Rest T (mkF m pT L S)) (r2 : b ≤ a → Go p e below Rest T (mkF m pF L S)) : Go p e below Rest T (mkF m pc L (.int (lcmpW x y) :: S)) :=
  g_if X C hd h0 hT hF (fun q => r1 ((hlc_lt ha hb').1 q)) (fun q => r2 ((hlc_lt ha hb').2 q))
theorem hold_ge {x y : Int32} {a b : Int} (ha : x.toInt = a) (hb' : y.toInt = b) : (if_icmp.holds .ge x y = true → b ≤ a) ∧ (if_icmp.holds .ge x y = false → a < b) := by
  subst ha hb'
  constructor <;> intro q <;> simp [if_icmp.holds, Int32.lt_iff_toInt_lt, Int32.le_iff_toInt_le, ← Int32.toInt_inj] at q <;> omega
theorem g_icmp_ge (X : St p l e R s m args below meth c n0 T h cells slots) (C : Cx p s m meth c Z bytes maxL ret own nme) {o : Int} {x y : Int32} {a b : Int} {pT pF : Nat} (hd : decode bytes pc = .ok (.if_icmp .ge o, 3)) (ha : x.toInt = a) (hb' : y.toInt = b) (h0 : 0 ≤ (pc : Int) + o) (hT : ((pc : Int) + o).toNat = pT) (hF : pc + 3 = pF) (r1 : b ≤ a → Go p e below Rest T (mkF m pT L S)) (r2 : a < b → Go p e below Rest T (mkF m pF L S)) : Go p e below Rest T (mkF m pc L (.int y :: .int x :: S)) :=
  g_icmp X C hd h0 hT hF (fun q => r1 ((hold_ge ha hb').1 q)) (fun q => r2 ((hold_ge ha hb').2 q))
theorem g_if_ge (X : St p l e R s m args below meth c n0 T h cells slots) (C : Cx p s m meth c Z bytes maxL ret own nme) {o : Int} {x : Int32} {a : Int} {pT pF : Nat} (hd : decode bytes pc = .ok (.ifCond .ge o, 3)) (ha : x.toInt = a) (h0 : 0 ≤ (pc : Int) + o) (hT : ((pc : Int) + o).toNat = pT) (hF : pc + 3 = pF) (r1 : 0 ≤ a → Go p e below Rest T (mkF m pT L S)) (r2 : a < 0 → Go p e below Rest T (mkF m pF L S)) : Go p e below Rest T (mkF m pc L (.int x :: S)) :=
  g_if X C hd h0 hT hF (fun q => r1 ((hold_ge ha (by decide)).1 q)) (fun q => r2 ((hold_ge ha (by decide)).2 q))
theorem hlc_ge {x y : Int64} {a b : Int} (ha : x.toInt = a) (hb' : y.toInt = b) : (if_icmp.holds .ge (lcmpW x y) 0 = true → b ≤ a) ∧ (if_icmp.holds .ge (lcmpW x y) 0 = false → a < b) := by
  have h1 := c_lcmp x y; subst ha hb'
  have h3 := hold_ge (x := lcmpW x y) (y := 0) rfl (b := 0) (by decide)
  refine ⟨fun q => ?_, fun q => ?_⟩
  · have := h3.1 q; omega
  · have := h3.2 q; omega
theorem g_lif_ge (X : St p l e R s m args below meth c n0 T h cells slots) (C : Cx p s m meth c Z bytes maxL ret own nme) {o : Int} {x y : Int64} {a b : Int} {pT pF : Nat} (hd : decode bytes pc = .ok (.ifCond .ge o, 3)) (ha : x.toInt = a) (hb' : y.toInt = b) (h0 : 0 ≤ (pc : Int) + o) (hT : ((pc : Int) + o).toNat = pT) (hF : pc + 3 = pF) (r1 : b ≤ a → Go p e below Rest T (mkF m pT L S)) (r2 : a < b → Go p e below Rest T (mkF m pF L S)) : Go p e below Rest T (mkF m pc L (.int (lcmpW x y) :: S)) :=
  g_if X C hd h0 hT hF (fun q => r1 ((hlc_ge ha hb').1 q)) (fun q => r2 ((hlc_ge ha hb').2 q))
theorem hold_gt {x y : Int32} {a b : Int} (ha : x.toInt = a) (hb' : y.toInt = b) : (if_icmp.holds .gt x y = true → b < a) ∧ (if_icmp.holds .gt x y = false → a ≤ b) := by
  subst ha hb'
  constructor <;> intro q <;> simp [if_icmp.holds, Int32.lt_iff_toInt_lt, Int32.le_iff_toInt_le, ← Int32.toInt_inj] at q <;> omega
theorem g_icmp_gt (X : St p l e R s m args below meth c n0 T h cells slots) (C : Cx p s m meth c Z bytes maxL ret own nme) {o : Int} {x y : Int32} {a b : Int} {pT pF : Nat} (hd : decode bytes pc = .ok (.if_icmp .gt o, 3)) (ha : x.toInt = a) (hb' : y.toInt = b) (h0 : 0 ≤ (pc : Int) + o) (hT : ((pc : Int) + o).toNat = pT) (hF : pc + 3 = pF) (r1 : b < a → Go p e below Rest T (mkF m pT L S)) (r2 : a ≤ b → Go p e below Rest T (mkF m pF L S)) : Go p e below Rest T (mkF m pc L (.int y :: .int x :: S)) :=
  g_icmp X C hd h0 hT hF (fun q => r1 ((hold_gt ha hb').1 q)) (fun q => r2 ((hold_gt ha hb').2 q))
theorem g_if_gt (X : St p l e R s m args below meth c n0 T h cells slots) (C : Cx p s m meth c Z bytes maxL ret own nme) {o : Int} {x : Int32} {a : Int} {pT pF : Nat} (hd : decode bytes pc = .ok (.ifCond .gt o, 3)) (ha : x.toInt = a) (h0 : 0 ≤ (pc : Int) + o) (hT : ((pc : Int) + o).toNat = pT) (hF : pc + 3 = pF) (r1 : 0 < a → Go p e below Rest T (mkF m pT L S)) (r2 : a ≤ 0 → Go p e below Rest T (mkF m pF L S)) : Go p e below Rest T (mkF m pc L (.int x :: S)) :=
  g_if X C hd h0 hT hF (fun q => r1 ((hold_gt ha (by decide)).1 q)) (fun q => r2 ((hold_gt ha (by decide)).2 q))
theorem hlc_gt {x y : Int64} {a b : Int} (ha : x.toInt = a) (hb' : y.toInt = b) : (if_icmp.holds .gt (lcmpW x y) 0 = true → b < a) ∧ (if_icmp.holds .gt (lcmpW x y) 0 = false → a ≤ b) := by
  have h1 := c_lcmp x y; subst ha hb'
  have h3 := hold_gt (x := lcmpW x y) (y := 0) rfl (b := 0) (by decide)
  refine ⟨fun q => ?_, fun q => ?_⟩
  · have := h3.1 q; omega
  · have := h3.2 q; omega
theorem g_lif_gt (X : St p l e R s m args below meth c n0 T h cells slots) (C : Cx p s m meth c Z bytes maxL ret own nme) {o : Int} {x y : Int64} {a b : Int} {pT pF : Nat} (hd : decode bytes pc = .ok (.ifCond .gt o, 3)) (ha : x.toInt = a) (hb' : y.toInt = b) (h0 : 0 ≤ (pc : Int) + o) (hT : ((pc : Int) + o).toNat = pT) (hF : pc + 3 = pF) (r1 : b < a → Go p e below Rest T (mkF m pT L S)) (r2 : a ≤ b → Go p e below Rest T (mkF m pF L S)) : Go p e below Rest T (mkF m pc L (.int (lcmpW x y) :: S)) :=
  g_if X C hd h0 hT hF (fun q => r1 ((hlc_gt ha hb').1 q)) (fun q => r2 ((hlc_gt ha hb').2 q))
theorem hold_le {x y : Int32} {a b : Int} (ha : x.toInt = a) (hb' : y.toInt = b) : (if_icmp.holds .le x y = true → a ≤ b) ∧ (if_icmp.holds .le x y = false → b < a) := by
  subst ha hb'
  constructor <;> intro q <;> simp [if_icmp.holds, Int32.lt_iff_toInt_lt, Int32.le_iff_toInt_le, ← Int32.toInt_inj] at q <;> omega
theorem g_icmp_le (X : St p l e R s m args below meth c n0 T h cells slots) (C : Cx p s m meth c Z bytes maxL ret own nme) {o : Int} {x y : Int32} {a b : Int} {pT pF : Nat} (hd : decode bytes pc = .ok (.if_icmp .le o, 3)) (ha : x.toInt = a) (hb' : y.toInt = b) (h0 : 0 ≤ (pc : Int) + o) (hT : ((pc : Int) + o).toNat = pT) (hF : pc + 3 = pF) (r1 : a ≤ b → Go p e below Rest T (mkF m pT L S)) (r2 : b < a → Go p e below Rest T (mkF m pF L S)) : Go p e below Rest T (mkF m pc L (.int y :: .int x :: S)) :=
  g_icmp X C hd h0 hT hF (fun q => r1 ((hold_le ha hb').1 q)) (fun q => r2 ((hold_le ha hb').2 q))
theorem g_if_le (X : St p l e R s m args below meth c n0 T h cells slots) (C : Cx p s m meth c Z bytes maxL ret own nme) {o : Int} {x : Int32} {a : Int} {pT pF : Nat} (hd : decode bytes pc = .ok (.ifCond .le o, 3)) (ha : x.toInt = a) (h0 : 0 ≤ (pc : Int) + o) (hT : ((pc : Int) + o).toNat = pT) (hF : pc + 3 = pF) (r1 : a ≤ 0 → Go p e below Rest T (mkF m pT L S)) (r2 : 0 < a → Go p e below Rest T (mkF m pF L S)) : Go p e below Rest T (mkF m pc L (.int x :: S)) :=
  g_if X C hd h0 hT hF (fun q => r1 ((hold_le ha (by decide)).1 q)) (fun q => r2 ((hold_le ha (by decide)).2 q))
theorem hlc_le {x y : Int64} {a b : Int} (ha : x.toInt = a) (hb' : y.toInt = b) : (if_icmp.holds .le (lcmpW x y) 0 = true → a ≤ b) ∧ (if_icmp.holds .le (lcmpW x y) 0 = false → b < a) := by
  have h1 := c_lcmp x y; subst ha hb'
  have h3 := hold_le (x := lcmpW x y) (y := 0) rfl (b := 0) (by decide)
  refine ⟨fun q => ?_, fun q => ?_⟩
  · have := h3.1 q; omega
  · have := h3.2 q; omega
theorem g_lif_le (X : St p l e R s m args below meth c n0 T h cells slots) (C : Cx p s m meth c Z bytes maxL ret own nme) {o : Int} {x y : Int64} {a b : Int} {pT pF : Nat} (hd : decode bytes pc = .ok (.ifCond .le o, 3)) (ha : x.toInt = a) (hb' : y.toInt = b) (h0 : 0 ≤ (pc : Int) + o) (hT : ((pc : Int) + o).toNat = pT) (hF : pc + 3 = pF) (r1 : a ≤ b → Go p e below Rest T (mkF m pT L S)) (r2 : b < a → Go p e below Rest T (mkF m pF L S)) : Go p e below Rest T (mkF m pc L (.int (lcmpW x y) :: S)) :=
  g_if X C hd h0 hT hF (fun q => r1 ((hlc_le ha hb').1 q)) (fun q => r2 ((hlc_le ha hb').2 q))
theorem hold_eq {x y : Int32} {a b : Int} (ha : x.toInt = a) (hb' : y.toInt = b) : (if_icmp.holds .eq x y = true → a = b) ∧ (if_icmp.holds .eq x y = false → a ≠ b) := by
  subst ha hb'
  constructor <;> intro q <;> simp [if_icmp.holds, Int32.lt_iff_toInt_lt, Int32.le_iff_toInt_le, ← Int32.toInt_inj] at q <;> omega
theorem g_icmp_eq (X : St p l e R s m args below meth c n0 T h cells slots) (C : Cx p s m meth c Z bytes maxL ret own nme) {o : Int} {x y : Int32} {a b : Int} {pT pF : Nat} (hd : decode bytes pc = .ok (.if_icmp .eq o, 3)) (ha : x.toInt = a) (hb' : y.toInt = b) (h0 : 0 ≤ (pc : Int) + o) (hT : ((pc : Int) + o).toNat = pT) (hF : pc + 3 = pF) (r1 : a = b → Go p e below Rest T (mkF m pT L S)) (r2 : a ≠ b → Go p e below Rest T (mkF m pF L S)) : Go p e below Rest T (mkF m pc L (.int y :: .int x :: S)) :=
  g_icmp X C hd h0 hT hF (fun q => r1 ((hold_eq ha hb').1 q)) (fun q => r2 ((hold_eq ha hb').2 q))
theorem g_if_eq (X : St p l e R s m args below meth c n0 T h cells slots) (C : Cx p s m meth c Z bytes maxL ret own nme) {o : Int} {x : Int32} {a : Int} {pT pF : Nat} (hd : decode bytes pc = .ok (.ifCond .eq o, 3)) (ha : x.toInt = a) (h0 : 0 ≤ (pc : Int) + o) (hT : ((pc : Int) + o).toNat = pT) (hF : pc + 3 = pF) (r1 : a = 0 → Go p e below Rest T (mkF m pT L S)) (r2 : a ≠ 0 → Go p e below Rest T (mkF m pF L S)) : Go p e below Rest T (mkF m pc L (.int x :: S)) :=
  g_if X C hd h0 hT hF (fun q => r1 ((hold_eq ha (by decide)).1 q)) (fun q => r2 ((hold_eq ha (by decide)).2 q))
theorem hlc_eq {x y : Int64} {a b : Int} (ha : x.toInt = a) (hb' : y.toInt = b) : (if_icmp.holds .eq (lcmpW x y) 0 = true → a = b) ∧ (if_icmp.holds .eq (lcmpW x y) 0 = false → a ≠ b) := by
  have h1 := c_lcmp x y; subst ha hb'
  have h3 := hold_eq (x := lcmpW x y) (y := 0) rfl (b := 0) (by decide)
  refine ⟨fun q => ?_, fun q => ?_⟩
  · have := h3.1 q; omega
  · have := h3.2 q; omega
theorem g_lif_eq (X : St p l e R s m args below meth c n0 T h cells slots) (C : Cx p s m meth c Z bytes maxL ret own nme) {o : Int} {x y : Int64} {a b : Int} {pT pF : Nat} (hd : decode bytes pc = .ok (.ifCond .eq o, 3)) (ha : x.toInt = a) (hb' : y.toInt = b) (h0 : 0 ≤ (pc : Int) + o) (hT : ((pc : Int) + o).toNat = pT) (hF : pc + 3 = pF) (r1 : a = b → Go p e below Rest T (mkF m pT L S)) (r2 : a ≠ b → Go p e below Rest T (mkF m pF L S)) : Go p e below Rest T (mkF m pc L (.int (lcmpW x y) :: S)) :=
  g_if X C hd h0 hT hF (fun q => r1 ((hlc_eq ha hb').1 q)) (fun q => r2 ((hlc_eq ha hb').2 q))
theorem hold_ne {x y : Int32} {a b : Int} (ha : x.toInt = a) (hb' : y.toInt = b) : (if_icmp.holds .ne x y = true → a ≠ b) ∧ (if_icmp.holds .ne x y = false → a = b) := by
  subst ha hb'
  constructor <;> intro q <;> simp [if_icmp.holds, Int32.lt_iff_toInt_lt, Int32.le_iff_toInt_le, ← Int32.toInt_inj] at q <;> omega
theorem g_icmp_ne (X : St p l e R s m args below meth c n0 T h cells slots) (C : Cx p s m meth c Z bytes maxL ret own nme) {o : Int} {x y : Int32} {a b : Int} {pT pF : Nat} (hd : decode bytes pc = .ok (.if_icmp .ne o, 3)) (ha : x.toInt = a) (hb' : y.toInt = b) (h0 : 0 ≤ (pc : Int) + o) (hT : ((pc : Int) + o).toNat = pT) (hF : pc + 3 = pF) (r1 : a ≠ b → Go p e below Rest T (mkF m pT L S)) (r2 : a = b → Go p e below Rest T (mkF m pF L S)) : Go p e below Rest T (mkF m pc L (.int y :: .int x :: S)) :=
  g_icmp X C hd h0 hT hF (fun q => r1 ((hold_ne ha hb').1 q)) (fun q => r2 ((hold_ne ha hb').2 q))
theorem g_if_ne (X : St p l e R s m args below meth c n0 T h cells slots) (C : Cx p s m meth c Z bytes maxL ret own nme) {o : Int} {x : Int32} {a : Int} {pT pF : Nat} (hd : decode bytes pc = .ok (.ifCond .ne o, 3)) (ha : x.toInt = a) (h0 : 0 ≤ (pc : Int) + o) (hT : ((pc : Int) + o).toNat = pT) (hF : pc + 3 = pF) (r1 : a ≠ 0 → Go p e below Rest T (mkF m pT L S)) (r2 : a = 0 → Go p e below Rest T (mkF m pF L S)) : Go p e below Rest T (mkF m pc L (.int x :: S)) :=
  g_if X C hd h0 hT hF (fun q => r1 ((hold_ne ha (by decide)).1 q)) (fun q => r2 ((hold_ne ha (by decide)).2 q))
theorem hlc_ne {x y : Int64} {a b : Int} (ha : x.toInt = a) (hb' : y.toInt = b) : (if_icmp.holds .ne (lcmpW x y) 0 = true → a ≠ b) ∧ (if_icmp.holds .ne (lcmpW x y) 0 = false → a = b) := by
  have h1 := c_lcmp x y; subst ha hb'
  have h3 := hold_ne (x := lcmpW x y) (y := 0) rfl (b := 0) (by decide)
  refine ⟨fun q => ?_, fun q => ?_⟩
  · have := h3.1 q; omega
  · have := h3.2 q; omega
theorem g_lif_ne (X : St p l e R s m args below meth c n0 T h cells slots) (C : Cx p s m meth c Z bytes maxL ret own nme) {o : Int} {x y : Int64} {a b : Int} {pT pF : Nat} (hd : decode bytes pc = .ok (.ifCond .ne o, 3)) (ha : x.toInt = a) (hb' : y.toInt = b) (h0 : 0 ≤ (pc : Int) + o) (hT : ((pc : Int) + o).toNat = pT) (hF : pc + 3 = pF) (r1 : a ≠ b → Go p e below Rest T (mkF m pT L S)) (r2 : a = b → Go p e below Rest T (mkF m pF L S)) : Go p e below Rest T (mkF m pc L (.int (lcmpW x y) :: S)) :=
  g_if X C hd h0 hT hF (fun q => r1 ((hlc_ne ha hb').1 q)) (fun q => r2 ((hlc_ne ha hb').2 q))
theorem g_nullY (X : St p l e R s m args below meth c n0 T h cells slots) (C : Cx p s m meth c Z bytes maxL ret own nme) {o : Int} {pT : Nat} (hd : decode bytes pc = .ok (.ifnull o, 3)) (h0 : 0 ≤ (pc : Int) + o) (hT : ((pc : Int) + o).toNat = pT) (r : Go p e below Rest T (mkF m pT L S)) : Go p e below Rest T (mkF m pc L (.null :: S)) := by
  obtain ⟨_, X, -, -⟩ := X; obtain ⟨hx, hby, -⟩ := C
  exact go_by (fun t k => XS.ifnullYes X.here hx rfl (pc0 := pc) rfl (hb hby hd) rfl h0 hT k) r
theorem g_nullN (X : St p l e R s m args below meth c n0 T h cells slots) (C : Cx p s m meth c Z bytes maxL ret own nme) {o : Int} {b : Addr} {pF : Nat} (hd : decode bytes pc = .ok (.ifnull o, 3)) (hF : pc + 3 = pF) (r : Go p e below Rest T (mkF m pF L S)) : Go p e below Rest T (mkF m pc L (.ref b :: S)) := by
  obtain ⟨_, X, -, -⟩ := X; obtain ⟨hx, hby, -⟩ := C; subst hF
  exact go_by (fun t k => XS.ifnullNo X.here hx rfl (hb hby hd) rfl k) r
theorem g_nonnullY (X : St p l e R s m args below meth c n0 T h cells slots) (C : Cx p s m meth c Z bytes maxL ret own nme) {o : Int} {b : Addr} {pT : Nat} (hd : decode bytes pc = .ok (.ifnonnull o, 3)) (h0 : 0 ≤ (pc : Int) + o) (hT : ((pc : Int) + o).toNat = pT) (r : Go p e below Rest T (mkF m pT L S)) : Go p e below Rest T (mkF m pc L (.ref b :: S)) := by
  obtain ⟨_, X, -, -⟩ := X; obtain ⟨hx, hby, -⟩ := C
  exact go_by (fun t k => XS.ifnonnullYes X.here hx rfl (pc0 := pc) rfl (hb hby hd) rfl h0 hT k) r
theorem g_nonnullN (X : St p l e R s m args below meth c n0 T h cells slots) (C : Cx p s m meth c Z bytes maxL ret own nme) {o : Int} {pF : Nat} (hd : decode bytes pc = .ok (.ifnonnull o, 3)) (hF : pc + 3 = pF) (r : Go p e below Rest T (mkF m pF L S)) : Go p e below Rest T (mkF m pc L (.null :: S)) := by
  obtain ⟨_, X, -, -⟩ := X; obtain ⟨hx, hby, -⟩ := C; subst hF
  exact go_by (fun t k => XS.ifnonnullNo X.here hx rfl (hb hby hd) rfl k) r
theorem g_irem (X : St p l e R s m args below meth c n0 T h cells slots) (C : Cx p s m meth c Z bytes maxL ret own nme) {x y : Int32} (hd : decode bytes pc = .ok (.irem, 1)) (hy : y ≠ 0) (hp : pc + 1 = pc') (r : Go p e below Rest T (mkF m pc' L (.int (x % y) :: S))) : Go p e below Rest T (mkF m pc L (.int y :: .int x :: S)) := by
  obtain ⟨_, X, -, -⟩ := X; obtain ⟨hx, hby, -⟩ := C; subst hp
  exact go_by (fun t k => iremM X hx rfl (hb hby hd) rfl hy k) r
theorem g_lrem (X : St p l e R s m args below meth c n0 T h cells slots) (C : Cx p s m meth c Z bytes maxL ret own nme) {x y : Int64} (hd : decode bytes pc = .ok (.lrem, 1)) (hy : y ≠ 0) (hp : pc + 1 = pc') (r : Go p e below Rest T (mkF m pc' L (.long (x % y) :: S))) : Go p e below Rest T (mkF m pc L (.long y :: .long x :: S)) := by
  obtain ⟨_, X, -, -⟩ := X; obtain ⟨hx, hby, -⟩ := C; subst hp
  rw [← lrem_mod] at r
  exact go_by (fun t k => XS.lrem X.here hx rfl (hb hby hd) rfl hy k) r
theorem g_ldcI (X : St p l e R s m args below meth c n0 T h cells slots) (C : Cx p s m meth c Z bytes maxL ret own nme) {index : Nat} {v : Int32} (w : (Jvm.Cond.constant own index v).before a0 Z = true) (hd : decode bytes pc = .ok (.ldc index, 2)) (hp : pc + 2 = pc') (r : Go p e below Rest T (mkF m pc' L (.int v :: S))) : Go p e below Rest T (mkF m pc L S) := by
  obtain ⟨_, X, -, -⟩ := X; obtain ⟨hx, hby, -, -, -, hown, -, hZ⟩ := C; subst hp
  exact go_by (X.ldcInt hx hown (mvT hZ w) (g := mkF m pc L S) rfl (hb hby hd)) r
theorem g_ldcJ (X : St p l e R s m args below meth c n0 T h cells slots) (C : Cx p s m meth c Z bytes maxL ret own nme) {index : Nat} {v : Int64} (w : (Jvm.Cond.constantLong own index v).before a0 Z = true) (hd : decode bytes pc = .ok (.ldc2_w index, 3)) (hp : pc + 3 = pc') (r : Go p e below Rest T (mkF m pc' L (.long v :: S))) : Go p e below Rest T (mkF m pc L S) := by
  obtain ⟨_, X, -, -⟩ := X; obtain ⟨hx, hby, -, -, -, hown, -, hZ⟩ := C; subst hp
  exact go_by (X.ldc2Long hx hown (mvT hZ w) (g := mkF m pc L S) rfl (hb hby hd)) r
/-- an array: its kind, its length, what each place holds -/
def Ar (Z : State) (h : Heap) (a : Addr) (ty : FieldType) (n : Nat) (fn : Nat → Value) : Prop := ∃ cl : Cell, Arr Z h a cl ty ∧ cl.slots.size = n ∧ ∀ j, j < n → cl.slots[j]? = some (fn j)
theorem Ar.lt {a : Addr} {ty : FieldType} {n : Nat} {fn : Nat → Value} (A : Ar Z h a ty n fn) : a < h.size := by obtain ⟨_, A, -⟩ := A; exact A.lt
theorem Ar.keep {a : Addr} {ty : FieldType} {n : Nat} {fn : Nat → Value} {ws : List Addr} (A : Ar Z h a ty n fn) (K : Keep h h' ws) (q : a ∉ ws) : Ar Z h' a ty n fn := by
  obtain ⟨cl, A, r⟩ := A; exact ⟨cl, ⟨K.2.1 a cl A.1 q, A.2⟩, r⟩
theorem Ar.congr {a : Addr} {ty : FieldType} {n : Nat} {fn gn : Nat → Value} (A : Ar Z h a ty n fn) (q : ∀ j, j < n → fn j = gn j) : Ar Z h a ty n gn := by
  obtain ⟨cl, A, r1, r2⟩ := A; exact ⟨cl, A, r1, fun j hj => by rw [r2 j hj, q j hj]⟩
theorem Ar.set {a : Addr} {ty : FieldType} {n i : Nat} {fn : Nat → Value} {v : Value} (A : Ar Z h a ty n fn) (hi : i < n) (W : Wr h h' a i v) : Ar Z h' a ty n (fun k => if k = i then v else fn k) := by
  obtain ⟨cl, A, r1, r2⟩ := A
  refine ⟨_, A.same W, by rw [sz_set]; exact r1, fun j hj => ?_⟩
  by_cases q : j = i
  · subst q; simp [Cell.setSlot, Array.getElem?_setIfInBounds, r1, hi]
  · have := r2 j hj; simp [Cell.setSlot, Array.getElem?_setIfInBounds, q, Ne.symm q, this]
theorem keepE (E : Ext h h') : Keep h h' [] := (Keep.refl _ _).ext E
theorem keepE' {ws : List Addr} (E : Ext h h') : Keep h h' ws := (Keep.refl _ _).ext E
theorem nneg {z : Int32} {n : Nat} (hz : z.toInt = n) : ¬ z < 0 := by
  rw [Int32.lt_iff_toInt_lt, hz]; have : (0 : Int32).toInt = 0 := by decide
  omega
theorem addn {x y : Int32} {i k : Nat} (hx : x.toInt = i) (hy : y.toInt = k) (hb : i + k < 2147483648) : (x + y).toInt = (i + k : Nat) := by
  have g1 := c_iadd x y; have g2 := rng32 (x + y); omega
theorem clamp_of {j : Int32} {i : Nat} (hi : j.toInt = i) : j.toNatClampNeg = i := by
  rw [Int32.toNatClampNeg, hi]; simp
theorem inb {j : Int32} {i n : Nat} {cl : Cell} (hi : j.toInt = i) (hlt : i < n) (hs : cl.slots.size = n) : ¬ (j < 0 ∨ cl.slots.size ≤ j.toNatClampNeg) := by
  rw [clamp_of hi, hs]
  rintro (q | q)
  · rw [Int32.lt_iff_toInt_lt, hi] at q; have : (0 : Int32).toInt = 0 := by decide
    omega
  · omega
def Ob (Z : State) (h : Heap) (a : Addr) (K : String) (NS : List (String × String)) (vs : List Value) : Prop := Exa Z h a K ∧ ∀ (i : Nat) (n d : String) (v : Value), NS[i]? = some (n, d) → vs[i]? = some v → Fld Z h a K n d v
def CF (Z : State) (a0 : Array Value) (K : String) (NS : List (String × String)) (k : Nat) : Prop := (NS.map (·.1)).Nodup ∧ (∀ x ∈ NS, Laid Z a0 K K x.1 x.2 ∧ (parseFieldDescriptor x.2).isSome = true) ∧ (Jvm.Cond.instantiable K k).before a0 Z = true
theorem Ob.lt {a : Addr} {K : String} {NS : List (String × String)} {vs : List Value} (O : Ob Z h a K NS vs) : a < h.size := O.1.lt
theorem Ob.keep {a : Addr} {K : String} {NS : List (String × String)} {vs : List Value} {ws : List Addr} (O : Ob Z h a K NS vs) (K' : Keep h h' ws) (q : a ∉ ws) : Ob Z h' a K NS vs := ⟨O.1.keep K', fun i n d v h1 h2 => (O.2 i n d v h1 h2).keep K' q⟩
theorem Ob.put {a : Addr} {K : String} {NS : List (String × String)} {vs vs' : List Value} {k i : Nat} {n d : String} {v old : Value} (O : Ob Z h a K NS vs) (F : CF Z a0 K NS k) (hN : NS[i]? = some (n, d)) (ho : vs[i]? = some old) (hvs : vs.set i v = vs') (W : Wr h h' a (Jvm.RoadKit.slotOf Z K n d) v) : Ob Z h' a K NS vs' := by
  subst hvs
  refine ⟨O.1.wr W, fun j n' d' w h1 h2 => ?_⟩
  by_cases q : j = i
  · subst q
    rw [hN] at h1; obtain ⟨rfl, rfl⟩ := Prod.mk.inj (Option.some.inj h1)
    rw [List.getElem?_set_self (by exact (List.getElem?_eq_some_iff.mp ho).1)] at h2
    obtain rfl := Option.some.inj h2
    exact (O.2 _ _ _ _ hN ho).same W
  · rw [List.getElem?_set_ne (Ne.symm q)] at h2
    have hne : n' ≠ n := by
      intro e
      have h3 : (NS.map (·.1))[j]? = some n' := by rw [List.getElem?_map, h1]; rfl
      have h4 : (NS.map (·.1))[i]? = some n := by rw [List.getElem?_map, hN]; rfl
      obtain ⟨l1, e1⟩ := List.getElem?_eq_some_iff.mp h3
      obtain ⟨l2, e2⟩ := List.getElem?_eq_some_iff.mp h4
      rcases Nat.lt_or_gt_of_ne q with u | u
      · exact (List.pairwise_iff_getElem.mp F.1) j i l1 l2 u (by rw [e1, e2, e])
      · exact (List.pairwise_iff_getElem.mp F.1) i j l2 l1 u (by rw [e1, e2, e])
    obtain ⟨p1, p2⟩ := F.2.1 _ (List.mem_of_getElem? h1)
    obtain ⟨p3, p4⟩ := F.2.1 _ (List.mem_of_getElem? hN)
    obtain ⟨t1, q1⟩ := Option.isSome_iff_exists.mp p2
    obtain ⟨t2, q2⟩ := Option.isSome_iff_exists.mp p4
    exact (O.2 _ _ _ _ h1 h2).other W (Or.inr (slot_ne p1 p3 hne q1 q2))
theorem g_getO (X : St p l e R s m args below meth c n0 T h cells slots) (C : Cx p s m meth c Z bytes maxL ret own nme) {a : Addr} {K n d host : String} {NS : List (String × String)} {vs : List Value} {i index : Nat} {v : Value} (O : Ob Z h a K NS vs) (hN : NS[i]? = some (n, d)) (hv : vs[i]? = some v) (w : (Jvm.Cond.fieldLink own index K n d).before a0 Z = true ∨ (Jvm.Cond.fieldLinkNest own index K n d host).before a0 Z = true) (hd : decode bytes pc = .ok (.getfield index, 3)) (hp : pc + 3 = pc') (r : ∀ T', St p l e R s m args below meth c n0 T' h cells slots → Go p e below Rest T' (mkF m pc' L (v :: S))) : Go p e below Rest T (mkF m pc L (.ref a :: S)) := by
  obtain ⟨locs, X, N, eT⟩ := X; obtain ⟨hx, hby, -, -, -, hown, -, hZ⟩ := C; subst hp
  obtain ⟨T', X', e', st⟩ := getF X hx hZ hown w Via.refl eT (O.2 _ _ _ _ hN hv) (g := mkF m pc L (.ref a :: S)) rfl rfl (hb hby hd)
  exact go_by st (r T' ⟨locs, X', N, e'⟩)
theorem g_putO (X : St p l e R s m args below meth c n0 T h cells slots) (C : Cx p s m meth c Z bytes maxL ret own nme) {a : Addr} {K n d host : String} {NS : List (String × String)} {vs vs' : List Value} {i k index : Nat} {v old : Value} {ty : FieldType} (O : Ob Z h a K NS vs) (F : CF Z a0 K NS k) (hN : NS[i]? = some (n, d)) (ho : vs[i]? = some old) (hvs : vs.set i v = vs') (ga : n0 ≤ a) (w : (Jvm.Cond.fieldLink own index K n d).before a0 Z = true ∨ (Jvm.Cond.fieldLinkNest own index K n d host).before a0 Z = true) (Ly : (Jvm.Cond.lays K K n d).before a0 Z = true ∨ ((Jvm.Cond.laysFinal K K n d).before a0 Z = true ∧ own = K ∧ nme = "<init>")) (hty : parseFieldDescriptor d = some ty) (hn : narrow ty v = v) (hf : fits ty v = true) (hd : decode bytes pc = .ok (.putfield index, 3)) (hp : pc + 3 = pc') (r : ∀ T' h', St p l e R s m args below meth c n0 T' h' cells slots → Ob Z h' a K NS vs' → Keep h h' [a] → Go p e below Rest T' (mkF m pc' L S)) : Go p e below Rest T (mkF m pc L (v :: .ref a :: S)) := by
  obtain ⟨locs, X, N, eT⟩ := X; obtain ⟨hx, hby, -, -, -, hown, hnm, hZ⟩ := C; subst hp
  obtain ⟨T', h', X', e', W, st⟩ := putF X hx hZ hown w Via.refl eT (O.2 _ _ _ _ hN ho) O.1 (Ly.imp id fun q => ⟨q.1, q.2.1, by rw [hnm]; exact q.2.2⟩) F.2.2 hty hn hf (g := mkF m pc L (v :: .ref a :: S)) rfl rfl (hb hby hd)
  exact go_by st (r T' h' ⟨_, X', Fr.snoc X' N ga, e'⟩ (O.put F hN ho hvs W) (Keep.of_wr W))
theorem g_putN (X : St p l e R s m args below meth c n0 T h cells slots) (C : Cx p s m meth c Z bytes maxL ret own nme) {a : Addr} {K n d : String} {NS : List (String × String)} {vs vs' : List Value} {i k index : Nat} {v v' old : Value} {ty : FieldType} (O : Ob Z h a K NS vs) (F : CF Z a0 K NS k) (hN : NS[i]? = some (n, d)) (ho : vs[i]? = some old) (hvs : vs.set i v' = vs') (ga : n0 ≤ a) (w : (Jvm.Cond.fieldLink own index K n d).before a0 Z = true) (Ly : (Jvm.Cond.lays K K n d).before a0 Z = true ∨ ((Jvm.Cond.laysFinal K K n d).before a0 Z = true ∧ own = K ∧ nme = "<init>")) (hty : parseFieldDescriptor d = some ty) (hn : narrow ty v = v') (hf : fits ty v' = true) (hd : decode bytes pc = .ok (.putfield index, 3)) (hp : pc + 3 = pc') (r : ∀ T' h', St p l e R s m args below meth c n0 T' h' cells slots → Ob Z h' a K NS vs' → Keep h h' [a] → Go p e below Rest T' (mkF m pc' L S)) : Go p e below Rest T (mkF m pc L (v :: .ref a :: S)) := by
  obtain ⟨locs, X, N, eT⟩ := X; obtain ⟨hx, hby, -, -, -, hown, hnm, hZ⟩ := C; subst hp
  obtain ⟨T', h', X', e', W, st⟩ := putFN X hx hZ hown w Via.refl eT (O.2 _ _ _ _ hN ho) O.1 (Ly.imp id fun q => ⟨q.1, q.2.1, by rw [hnm]; exact q.2.2⟩) F.2.2 hty hn hf (g := mkF m pc L (v :: .ref a :: S)) rfl rfl (hb hby hd)
  exact go_by st (r T' h' ⟨_, X', Fr.snoc X' N ga, e'⟩ (O.put F hN ho hvs W) (Keep.of_wr W))
def NE (a b : Addr) : Prop := a ≠ b
def Lo (n a : Nat) : Prop := n ≤ a
def Sz (b : Addr) (h : Heap) : Prop := b = h.size
theorem NE.symm {a b : Addr} (q : NE a b) : NE b a := Ne.symm q
theorem Sz.ne {a b : Addr} (q : Sz b h) (r : a < h.size) : NE a b := Nat.ne_of_lt (by rw [show b = h.size from q]; exact r)
theorem Sz.lo {b : Addr} {n : Nat} (q : Sz b h) (r : Lo n h.size) : Lo n b := by rw [show b = h.size from q]; exact r
theorem Lo.keep {n : Nat} {ws : List Addr} (q : Lo n h.size) (K : Keep h h' ws) : Lo n h'.size := Nat.le_trans q K.1
theorem Lo.ne {a b : Addr} (q : Lo h.size b) (r : a < h.size) : NE a b := Nat.ne_of_lt (Nat.lt_of_lt_of_le r q)
theorem lone {a b : Addr} (r : a < h.size) (q : Lo h.size b) : NE a b := Nat.ne_of_lt (Nat.lt_of_lt_of_le r q)
theorem Lo.tr {a b c : Nat} (p : Lo a b) (q : Lo b c) : Lo a c := Nat.le_trans p q
theorem Lo.kt {a : Addr} {h0 : Heap} {ws : List Addr} (K : Keep h0 h ws) (q : Lo h.size a) : Lo h0.size a := Nat.le_trans K.1 q
theorem ninN {x y : Addr} {L : List Addr} (q : NE x y) (r : x ∉ L) : x ∉ y :: L := ninS q r
def dflt (d : String) : Value := match parseFieldDescriptor d with | some ty => defaultValue ty | none => .null
theorem g_newO (X : St p l e R s m args below meth c n0 T h cells slots) (C : Cx p s m meth c Z bytes maxL ret own nme) {K : String} {NS : List (String × String)} {vs : List Value} {index k : Nat} (w : (Jvm.Cond.classLink own index K).before a0 Z = true) (F : CF Z a0 K NS k) (wz : (Jvm.Cond.initialized K).before a0 Z = true) (hvs : NS.map (fun x => dflt x.2) = vs) (hc : cells + 1 ≤ R.cells) (hl : slots + k ≤ R.slots) (hd : decode bytes pc = .ok (.new index, 3)) (hp : pc + 3 = pc') (r : ∀ T' h' b, Sz b h → St p l e R s m args below meth c n0 T' h' (cells + 1) (slots + k) → Ob Z h' b K NS vs → Keep h h' [] → Go p e below Rest T' (mkF m pc' L (.ref b :: S))) : Go p e below Rest T (mkF m pc L S) := by
  obtain ⟨locs, X, N, eT⟩ := X; obtain ⟨hx, hby, -, -, -, hown, hnm, hZ⟩ := C; subst hp hvs
  obtain ⟨T', h', X', e', E, A, D, -, st⟩ := newO X hx hZ hown w F.2.2 wz eT (g := mkF m pc L S) rfl (hb hby hd) hc hl
  refine go_by st (r T' h' _ rfl ⟨_, X', N, e'⟩ ⟨A, fun i n d v h1 h2 => ?_⟩ (keepE E))
  obtain ⟨p1, p2⟩ := F.2.1 _ (List.mem_of_getElem? h1)
  obtain ⟨t1, q1⟩ := Option.isSome_iff_exists.mp p2
  rw [List.getElem?_map, h1] at h2
  obtain rfl := Option.some.inj h2
  have := D p1 q1
  simp only [dflt, q1]
  exact this
theorem g_newarr (X : St p l e R s m args below meth c n0 T h cells slots) (C : Cx p s m meth c Z bytes maxL ret own nme) {aty : ArrayType} {z : Int32} {n cap : Nat} (w : (Jvm.Cond.arrayClass (newarray.typeOf aty)).before a0 Z = true) (hz : z.toInt = n) (hcap : n ≤ cap) (hcb : cap * 8 ≤ 536870912) (hc : cells + 1 ≤ R.cells) (hl : slots + cap ≤ R.slots) (hd : decode bytes pc = .ok (.newarray aty, 2)) (hp : pc + 2 = pc') (r : ∀ T' h' b, Sz b h → St p l e R s m args below meth c n0 T' h' (cells + 1) (slots + cap) → Ar Z h' b (newarray.typeOf aty) n (fun _ => defaultValue (newarray.typeOf aty)) → Keep h h' [] → Go p e below Rest T' (mkF m pc' L (.ref b :: S))) : Go p e below Rest T (mkF m pc L (.int z :: S)) := by
  obtain ⟨locs, X, N, eT⟩ := X; obtain ⟨hx, hby, -, -, -, hown, hnm, hZ⟩ := C; subst hp
  have hneg : ¬ z < 0 := nneg hz
  obtain ⟨T', h', cA, X', e', E, A, st⟩ := newP X hx hZ w eT (g := mkF m pc L (.int z :: S)) rfl (hb hby hd) rfl hneg (cap := cap) (by rw [clamp_of hz]; exact hcap) hcb hc hl
  refine go_by st (r T' h' _ rfl ⟨_, X', N, e'⟩ ⟨_, A, by rw [sz_new, clamp_of hz], fun j hj => ?_⟩ (keepE E))
  simp [newA, clamp_of hz, hj]
def ArR (Z : State) (h : Heap) (a : Addr) (K : String) (n : Nat) (fn : Nat → Value) : Prop := ∃ cl : Cell, Arr Z h a cl (.object K) ∧ Ovr Z cl.cls K ∧ cl.slots.size = n ∧ ∀ j, j < n → cl.slots[j]? = some (fn j)
theorem ArR.lt {a : Addr} {K : String} {n : Nat} {fn : Nat → Value} (A : ArR Z h a K n fn) : a < h.size := by obtain ⟨_, A, -⟩ := A; exact A.lt
theorem ArR.keep {a : Addr} {K : String} {n : Nat} {fn : Nat → Value} {ws : List Addr} (A : ArR Z h a K n fn) (K' : Keep h h' ws) (q : a ∉ ws) : ArR Z h' a K n fn := by
  obtain ⟨cl, A, r⟩ := A; exact ⟨cl, ⟨K'.2.1 a cl A.1 q, A.2⟩, r⟩
theorem g_newR (X : St p l e R s m args below meth c n0 T h cells slots) (C : Cx p s m meth c Z bytes maxL ret own nme) {K : String} {index : Nat} {z : Int32} {n cap : Nat} (w1 : (Jvm.Cond.classLink own index K).before a0 Z = true) (w2 : (Jvm.Cond.arrayOver (.object K)).before a0 Z = true) (hz : z.toInt = n) (hcap : n ≤ cap) (hcb : cap * 8 ≤ 536870912) (hc : cells + 1 ≤ R.cells) (hl : slots + cap ≤ R.slots) (hd : decode bytes pc = .ok (.anewarray index, 3)) (hp : pc + 3 = pc') (r : ∀ T' h' b, Sz b h → St p l e R s m args below meth c n0 T' h' (cells + 1) (slots + cap) → ArR Z h' b K n (fun _ => .null) → Keep h h' [] → Go p e below Rest T' (mkF m pc' L (.ref b :: S))) : Go p e below Rest T (mkF m pc L (.int z :: S)) := by
  obtain ⟨locs, X, N, eT⟩ := X; obtain ⟨hx, hby, -, -, -, hown, hnm, hZ⟩ := C; subst hp
  have hneg : ¬ z < 0 := nneg hz
  obtain ⟨T', h', cA, X', e', E, A, Ov, st⟩ := newR X hx hZ hown w1 w2 eT (g := mkF m pc L (.int z :: S)) rfl (hb hby hd) rfl hneg (cap := cap) (by rw [clamp_of hz]; exact hcap) hcb hc hl
  refine go_by st (r T' h' _ rfl ⟨_, X', N, e'⟩ ⟨_, A, Ov, by rw [sz_new, clamp_of hz], fun j hj => ?_⟩ (keepE E))
  simp [newA, clamp_of hz, hj, defaultValue]
theorem g_arrlen (X : St p l e R s m args below meth c n0 T h cells slots) (C : Cx p s m meth c Z bytes maxL ret own nme) {a : Addr} {ty : FieldType} {n : Nat} {fn : Nat → Value} {z : Int32} (A : Ar Z h a ty n fn) (hz : n.toInt32 = z) (hd : decode bytes pc = .ok (.arraylength, 1)) (hp : pc + 1 = pc') (r : Go p e below Rest T (mkF m pc' L (.int z :: S))) : Go p e below Rest T (mkF m pc L (.ref a :: S)) := by
  obtain ⟨locs, X, N, eT⟩ := X; obtain ⟨hx, hby, -, -, -, hown, hnm, hZ⟩ := C; subst hp hz
  obtain ⟨cl, A, r1, r2⟩ := A; subst r1
  exact go_by (fun t k => X.arraylength hx (by rw [eT]; exact A.1) (State.isArrayOf_alike hZ.alike A.2.1) (g := mkF m pc L (.ref a :: S)) rfl rfl (hb hby hd) t k) r
theorem g_iaload (X : St p l e R s m args below meth c n0 T h cells slots) (C : Cx p s m meth c Z bytes maxL ret own nme) {a : Addr} {n i : Nat} {fn : Nat → Value} {j : Int32} {v : Value} (A : Ar Z h a .int n fn) (hi : j.toInt = i) (hlt : i < n) (hv : fn i = v) (hd : decode bytes pc = .ok (.iaload, 1)) (hp : pc + 1 = pc') (r : Go p e below Rest T (mkF m pc' L (v :: S))) : Go p e below Rest T (mkF m pc L (.int j :: .ref a :: S)) := by
  obtain ⟨locs, X, N, eT⟩ := X; obtain ⟨hx, hby, -, -, -, hown, hnm, hZ⟩ := C; subst hp hv
  obtain ⟨cl, A, r1, r2⟩ := A
  exact go_by (fun t k => X.iaload hx (j := j) (by rw [eT]; exact A.1) (State.isArrayOf_alike hZ.alike A.2.1) A.2.2 (inb hi hlt r1) (by rw [clamp_of hi]; exact r2 i hlt) (g := mkF m pc L (.int j :: .ref a :: S)) rfl rfl (hb hby hd) t k) r
theorem g_laload (X : St p l e R s m args below meth c n0 T h cells slots) (C : Cx p s m meth c Z bytes maxL ret own nme) {a : Addr} {n i : Nat} {fn : Nat → Value} {j : Int32} {v : Value} (A : Ar Z h a .long n fn) (hi : j.toInt = i) (hlt : i < n) (hv : fn i = v) (hd : decode bytes pc = .ok (.laload, 1)) (hp : pc + 1 = pc') (r : Go p e below Rest T (mkF m pc' L (v :: S))) : Go p e below Rest T (mkF m pc L (.int j :: .ref a :: S)) := by
  obtain ⟨locs, X, N, eT⟩ := X; obtain ⟨hx, hby, -, -, -, hown, hnm, hZ⟩ := C; subst hp hv
  obtain ⟨cl, A, r1, r2⟩ := A
  exact go_by (fun t k => X.laload hx (j := j) (by rw [eT]; exact A.1) (State.isArrayOf_alike hZ.alike A.2.1) A.2.2 (inb hi hlt r1) (by rw [clamp_of hi]; exact r2 i hlt) (g := mkF m pc L (.int j :: .ref a :: S)) rfl rfl (hb hby hd) t k) r
theorem g_baloadB (X : St p l e R s m args below meth c n0 T h cells slots) (C : Cx p s m meth c Z bytes maxL ret own nme) {a : Addr} {n i : Nat} {fn : Nat → Value} {j : Int32} {v : Value} (A : Ar Z h a .byte n fn) (hi : j.toInt = i) (hlt : i < n) (hv : fn i = v) (hd : decode bytes pc = .ok (.baload, 1)) (hp : pc + 1 = pc') (r : Go p e below Rest T (mkF m pc' L (v :: S))) : Go p e below Rest T (mkF m pc L (.int j :: .ref a :: S)) := by
  obtain ⟨locs, X, N, eT⟩ := X; obtain ⟨hx, hby, -, -, -, hown, hnm, hZ⟩ := C; subst hp hv
  obtain ⟨cl, A, r1, r2⟩ := A
  exact go_by (fun t k => X.baloadBytes hx (j := j) (by rw [eT]; exact A.1) (State.isArrayOf_alike hZ.alike A.2.1) A.2.2 (inb hi hlt r1) (by rw [clamp_of hi]; exact r2 i hlt) (g := mkF m pc L (.int j :: .ref a :: S)) rfl rfl (hb hby hd) t k) r
theorem g_baloadZ (X : St p l e R s m args below meth c n0 T h cells slots) (C : Cx p s m meth c Z bytes maxL ret own nme) {a : Addr} {n i : Nat} {fn : Nat → Value} {j : Int32} {v : Value} (A : Ar Z h a .boolean n fn) (hi : j.toInt = i) (hlt : i < n) (hv : fn i = v) (hd : decode bytes pc = .ok (.baload, 1)) (hp : pc + 1 = pc') (r : Go p e below Rest T (mkF m pc' L (v :: S))) : Go p e below Rest T (mkF m pc L (.int j :: .ref a :: S)) := by
  obtain ⟨locs, X, N, eT⟩ := X; obtain ⟨hx, hby, -, -, -, hown, hnm, hZ⟩ := C; subst hp hv
  obtain ⟨cl, A, r1, r2⟩ := A
  exact go_by (fun t k => X.baloadBooleans hx (j := j) (by rw [eT]; exact A.1) (State.isArrayOf_alike hZ.alike A.2.1) A.2.2 (inb hi hlt r1) (by rw [clamp_of hi]; exact r2 i hlt) (g := mkF m pc L (.int j :: .ref a :: S)) rfl rfl (hb hby hd) t k) r
theorem g_aaload (X : St p l e R s m args below meth c n0 T h cells slots) (C : Cx p s m meth c Z bytes maxL ret own nme) {a : Addr} {n i : Nat} {K : String} {fn : Nat → Value} {j : Int32} {v : Value} (A : ArR Z h a K n fn) (hi : j.toInt = i) (hlt : i < n) (hv : fn i = v) (hd : decode bytes pc = .ok (.aaload, 1)) (hp : pc + 1 = pc') (r : Go p e below Rest T (mkF m pc' L (v :: S))) : Go p e below Rest T (mkF m pc L (.int j :: .ref a :: S)) := by
  obtain ⟨locs, X, N, eT⟩ := X; obtain ⟨hx, hby, -, -, -, hown, hnm, hZ⟩ := C; subst hp hv
  obtain ⟨cl, A, -, r1, r2⟩ := A
  exact go_by (fun t k => X.aaload hx (j := j) (by rw [eT]; exact A.1) (State.isArrayOf_alike hZ.alike A.2.1) rfl A.2.2 (inb hi hlt r1) (by rw [clamp_of hi]; exact r2 i hlt) (g := mkF m pc L (.int j :: .ref a :: S)) rfl rfl (hb hby hd) t k) r
theorem g_iastore (X : St p l e R s m args below meth c n0 T h cells slots) (C : Cx p s m meth c Z bytes maxL ret own nme) {a : Addr} {n i : Nat} {fn : Nat → Int32} {j : Int32} {x : Int32} (A : Ar Z h a .int n (fun k => .int (fn k))) (hi : j.toInt = i) (hlt : i < n) (ga : n0 ≤ a) (hd : decode bytes pc = .ok (.iastore, 1)) (hp : pc + 1 = pc') (r : ∀ T' h', St p l e R s m args below meth c n0 T' h' cells slots → Ar Z h' a .int n (fun k => .int (if k = i then x else fn k)) → Keep h h' [a] → Go p e below Rest T' (mkF m pc' L S)) : Go p e below Rest T (mkF m pc L (.int x :: .int j :: .ref a :: S)) := by
  obtain ⟨locs, X, N, eT⟩ := X; obtain ⟨hx, hby, -, -, -, hown, hnm, hZ⟩ := C; subst hp
  have A0 := A
  obtain ⟨cl, A, r1, r2⟩ := A
  obtain ⟨T', h', X', e', W, st⟩ := stI X hx hZ eT A (j := j) (inb hi hlt r1) (g := mkF m pc L (.int x :: .int j :: .ref a :: S)) rfl rfl (hb hby hd)
  rw [clamp_of hi] at W
  exact go_by st (r T' h' ⟨_, X', Fr.snoc X' N ga, e'⟩ ((A0.set hlt W).congr (fun k hk => by (try dsimp only); split <;> rfl)) (Keep.of_wr W))
theorem g_lastore (X : St p l e R s m args below meth c n0 T h cells slots) (C : Cx p s m meth c Z bytes maxL ret own nme) {a : Addr} {n i : Nat} {fn : Nat → Int64} {j : Int32} {x : Int64} (A : Ar Z h a .long n (fun k => .long (fn k))) (hi : j.toInt = i) (hlt : i < n) (ga : n0 ≤ a) (hd : decode bytes pc = .ok (.lastore, 1)) (hp : pc + 1 = pc') (r : ∀ T' h', St p l e R s m args below meth c n0 T' h' cells slots → Ar Z h' a .long n (fun k => .long (if k = i then x else fn k)) → Keep h h' [a] → Go p e below Rest T' (mkF m pc' L S)) : Go p e below Rest T (mkF m pc L (.long x :: .int j :: .ref a :: S)) := by
  obtain ⟨locs, X, N, eT⟩ := X; obtain ⟨hx, hby, -, -, -, hown, hnm, hZ⟩ := C; subst hp
  have A0 := A
  obtain ⟨cl, A, r1, r2⟩ := A
  obtain ⟨T', h', X', e', W, st⟩ := stJ X hx hZ eT A (j := j) (inb hi hlt r1) (g := mkF m pc L (.long x :: .int j :: .ref a :: S)) rfl rfl (hb hby hd)
  rw [clamp_of hi] at W
  exact go_by st (r T' h' ⟨_, X', Fr.snoc X' N ga, e'⟩ ((A0.set hlt W).congr (fun k hk => by (try dsimp only); split <;> rfl)) (Keep.of_wr W))
theorem g_bastoreB (X : St p l e R s m args below meth c n0 T h cells slots) (C : Cx p s m meth c Z bytes maxL ret own nme) {a : Addr} {n i : Nat} {fn : Nat → Int32} {j : Int32} {x : Int32} (A : Ar Z h a .byte n (fun k => .int (fn k))) (hi : j.toInt = i) (hlt : i < n) (ga : n0 ≤ a) (hd : decode bytes pc = .ok (.bastore, 1)) (hp : pc + 1 = pc') (r : ∀ T' h', St p l e R s m args below meth c n0 T' h' cells slots → Ar Z h' a .byte n (fun k => .int (if k = i then (nar .byte x) else fn k)) → Keep h h' [a] → Go p e below Rest T' (mkF m pc' L S)) : Go p e below Rest T (mkF m pc L (.int x :: .int j :: .ref a :: S)) := by
  obtain ⟨locs, X, N, eT⟩ := X; obtain ⟨hx, hby, -, -, -, hown, hnm, hZ⟩ := C; subst hp
  have A0 := A
  obtain ⟨cl, A, r1, r2⟩ := A
  obtain ⟨T', h', X', e', W, st⟩ := stB X hx hZ eT A (j := j) (inb hi hlt r1) (g := mkF m pc L (.int x :: .int j :: .ref a :: S)) rfl rfl (hb hby hd)
  rw [clamp_of hi] at W
  exact go_by st (r T' h' ⟨_, X', Fr.snoc X' N ga, e'⟩ ((A0.set hlt W).congr (fun k hk => by (try dsimp only); split <;> rfl)) (Keep.of_wr W))
theorem g_bastoreZ (X : St p l e R s m args below meth c n0 T h cells slots) (C : Cx p s m meth c Z bytes maxL ret own nme) {a : Addr} {n i : Nat} {fn : Nat → Int32} {j : Int32} {x : Int32} (A : Ar Z h a .boolean n (fun k => .int (fn k))) (hi : j.toInt = i) (hlt : i < n) (ga : n0 ≤ a) (hd : decode bytes pc = .ok (.bastore, 1)) (hp : pc + 1 = pc') (r : ∀ T' h', St p l e R s m args below meth c n0 T' h' cells slots → Ar Z h' a .boolean n (fun k => .int (if k = i then (nar .boolean x) else fn k)) → Keep h h' [a] → Go p e below Rest T' (mkF m pc' L S)) : Go p e below Rest T (mkF m pc L (.int x :: .int j :: .ref a :: S)) := by
  obtain ⟨locs, X, N, eT⟩ := X; obtain ⟨hx, hby, -, -, -, hown, hnm, hZ⟩ := C; subst hp
  have A0 := A
  obtain ⟨cl, A, r1, r2⟩ := A
  obtain ⟨T', h', X', e', W, st⟩ := stZ X hx hZ eT A (j := j) (inb hi hlt r1) (g := mkF m pc L (.int x :: .int j :: .ref a :: S)) rfl rfl (hb hby hd)
  rw [clamp_of hi] at W
  exact go_by st (r T' h' ⟨_, X', Fr.snoc X' N ga, e'⟩ ((A0.set hlt W).congr (fun k hk => by (try dsimp only); split <;> rfl)) (Keep.of_wr W))
theorem g_initO (X : St p l e R s m args below meth c n0 T h cells slots) (C : Cx p s m meth c Z bytes maxL ret own nme) {index : Nat} {a : Addr} {W : Nat} (w1 : (Jvm.Cond.methodLink own index Lib.objectInit).before a0 Z = true) (w2 : (Jvm.Cond.instanceMethod Lib.objectInit).before a0 Z = true) (w3 : (Jvm.Cond.code Lib.objectInit ⟨#[0xb1]⟩ 1 none).before a0 Z = true) (hsz : L.size = maxL) (hW : (S.map fun v => v.category).sum = W) (hf : 1 ≤ R.frames) (hl : W + 12 ≤ R.locals) (hd : decode bytes pc = .ok (.invokespecial index, 3)) (hp : pc + 3 = pc') (r : ∀ T', St p l e R s m args below meth c n0 T' h cells slots → Go p e below Rest T' (mkF m pc' L S)) : Go p e below Rest T (mkF m pc L (.ref a :: S)) := by
  obtain ⟨locs, X, N, eT⟩ := X; obtain ⟨hx, hby, hml, -, -, hown, hnm, hZ⟩ := C; subst hp
  obtain ⟨T', X', e', st⟩ := initO X hx hZ hown w1 w2 w3 eT (g := mkF m pc L (.ref a :: S)) rfl (by rw [hml]; exact hsz) rfl (hb hby hd) hf (W := W) (by show 2 * 0 + _ ≤ _; omega) hl
  exact go_by st (r T' ⟨locs, X', N, e'⟩)
theorem g_static (X : St p l e R s m args below meth c n0 T h cells slots) (C : Cx p s m meth c Z bytes maxL ret own nme) {y : MethodName} {bytes' : ByteArray} {maxL' : Nat} {ret' : Option FieldType} {rm : Room} {as : Array Value} {Q : Option Value → Heap → Prop} {index : Nat} {W : Nat} {argsL rest : List Value} {ps : List FieldType} {rt : Option FieldType} (hM : Ctr l y bytes' maxL' ret' rm Z n0 as h Q []) (w1 : (Jvm.Cond.methodLink own index y).before a0 Z = true) (w2 : (Jvm.Cond.static y).before a0 Z = true) (w3 : (Jvm.Cond.initialized y.cls).before a0 Z = true) (w4 : (Jvm.Cond.code y bytes' maxL' ret').before a0 Z = true) (hy : y.cls ≠ "java/lang/invoke/MethodHandle" ∧ y.cls ≠ "java/lang/invoke/VarHandle") (pd : parseMethodDescriptor y.desc = some ⟨ps, rt⟩) (hal : argsL.length = ps.length) (has : argsL.toArray = as) (hs : S = argsL.reverse ++ rest) (hsz : L.size = maxL) (hW : (rest.map fun v => v.category).sum = W) (hf : rm.frames + 1 ≤ R.frames) (hl : W + (maxL' + 11) + rm.locals ≤ R.locals) (hc : cells + rm.cells ≤ R.cells) (hsl : slots + rm.slots ≤ R.slots) (hd : decode bytes pc = .ok (.invokestatic index, 3)) (hp : pc + 3 = pc') (r : ∀ v T' h', Q v h' → St p l e R s m args below meth c n0 T' h' (cells + rm.cells) (slots + rm.slots) → Go p e below Rest T' (mkF m pc' L (v.toList ++ rest))) : Go p e below Rest T (mkF m pc L S) := by
  obtain ⟨locs, X, N, eT⟩ := X; obtain ⟨hx, hby, hml, -, -, hown, hnm, hZ⟩ := C; subst hp
  obtain ⟨v, _, ⟨T', L1, k1, n1⟩, -, X', ⟨Lc, ⟨hQ, hN⟩, l1, y1, z1⟩, st⟩ := Jvm.LawKit.callS X hx (y := y) hown (mvT hZ w1) (mvT hZ w2) (mvT hZ w3) (mvT hZ w4) hy (backOf (W := W) (Q := fun v h L => Q v h ∧ Fr n0 L) hM hZ w4 w3 hf hl) (g := mkF m pc L S) rfl (by rw [hml]; exact hsz) (argsL := argsL) (rest := rest) (lenOf pd hal) hs (by show 2 * 0 + _ ≤ _; omega) (hb hby hd) (fun _ _ => ⟨has, eT, hc, hsl⟩)
  dsimp only [Pt.U, Pt.locs, Pt.cells, Pt.slots] at X' l1 y1 z1 st hQ
  subst l1 y1 z1
  exact go_by st (r v T' _ hQ ⟨_, X', Fr.app N hN, rfl⟩)
theorem g_special (X : St p l e R s m args below meth c n0 T h cells slots) (C : Cx p s m meth c Z bytes maxL ret own nme) {y : MethodName} {bytes' : ByteArray} {maxL' : Nat} {ret' : Option FieldType} {rm : Room} {as : Array Value} {Q : Option Value → Heap → Prop} {index : Nat} {W : Nat} {argsL rest : List Value} {ps : List FieldType} {rt : Option FieldType} (hM : Ctr l y bytes' maxL' ret' rm Z n0 as h Q []) {a : Addr} (hy1 : y.name = "<init>") (hret : ret' = none) (w1 : (Jvm.Cond.methodLink own index y).before a0 Z = true) (w2 : (Jvm.Cond.instanceMethod y).before a0 Z = true) (w3 : (Jvm.Cond.initialized y.cls).before a0 Z = true) (w4 : (Jvm.Cond.code y bytes' maxL' ret').before a0 Z = true) (hy : y.cls ≠ "java/lang/invoke/MethodHandle" ∧ y.cls ≠ "java/lang/invoke/VarHandle") (pd : parseMethodDescriptor y.desc = some ⟨ps, rt⟩) (hal : argsL.length = ps.length) (has : (.ref a :: argsL).toArray = as) (hs : S = argsL.reverse ++ .ref a :: rest) (hsz : L.size = maxL) (hW : (rest.map fun v => v.category).sum = W) (hf : rm.frames + 1 ≤ R.frames) (hl : W + (maxL' + 11) + rm.locals ≤ R.locals) (hc : cells + rm.cells ≤ R.cells) (hsl : slots + rm.slots ≤ R.slots) (hd : decode bytes pc = .ok (.invokespecial index, 3)) (hp : pc + 3 = pc') (r : ∀ v T' h', Q v h' → St p l e R s m args below meth c n0 T' h' (cells + rm.cells) (slots + rm.slots) → Go p e below Rest T' (mkF m pc' L (v.toList ++ rest))) : Go p e below Rest T (mkF m pc L S) := by
  obtain ⟨locs, X, N, eT⟩ := X; obtain ⟨hx, hby, hml, -, -, hown, hnm, hZ⟩ := C; subst hp hret
  obtain ⟨v, _, ⟨T', L1, k1, n1⟩, -, X', ⟨Lc, ⟨hQ, hN⟩, l1, y1, z1⟩, st⟩ := X.specialBack hx (y := y) hy1 hown (mvT hZ w1) (mvT hZ w2) (mvT hZ w4) hy (backOf (W := W) (Q := fun v h L => Q v h ∧ Fr n0 L) hM hZ w4 w3 hf hl) (g := mkF m pc L S) rfl (by rw [hml]; exact hsz) (Steps.refl _) (a := a) (argsL := argsL) (rest := rest) (lenOf pd hal) hs (by show 2 * 0 + _ ≤ _; omega) (hb hby hd) (fun _ _ => ⟨has, eT, hc, hsl⟩)
  dsimp only [Pt.U, Pt.locs, Pt.cells, Pt.slots] at X' l1 y1 z1 st hQ
  subst l1 y1 z1
  exact go_tr st (r v T' _ hQ ⟨_, X', Fr.app N hN, rfl⟩)
theorem g_virtual (X : St p l e R s m args below meth c n0 T h cells slots) (C : Cx p s m meth c Z bytes maxL ret own nme) {y : MethodName} {bytes' : ByteArray} {maxL' : Nat} {ret' : Option FieldType} {rm : Room} {as : Array Value} {Q : Option Value → Heap → Prop} {index : Nat} {W : Nat} {argsL rest : List Value} {ps : List FieldType} {rt : Option FieldType} (hM : Ctr l y bytes' maxL' ret' rm Z n0 as h Q []) {a : Addr} (Ex : Exa Z h a y.cls) (w1 : (Jvm.Cond.methodLink own index y).before a0 Z = true) (w2 : (Jvm.Cond.declares y).before a0 Z = true) (ws : (Jvm.Cond.selects y.cls y y).before a0 Z = true) (wi : (Jvm.Cond.instanceMethod y).before a0 Z = true) (w3 : (Jvm.Cond.initialized y.cls).before a0 Z = true) (w4 : (Jvm.Cond.code y bytes' maxL' ret').before a0 Z = true) (hy : y.cls ≠ "java/lang/invoke/MethodHandle" ∧ y.cls ≠ "java/lang/invoke/VarHandle") (pd : parseMethodDescriptor y.desc = some ⟨ps, rt⟩) (hal : argsL.length = ps.length) (has : (.ref a :: argsL).toArray = as) (hs : S = argsL.reverse ++ .ref a :: rest) (hsz : L.size = maxL) (hW : (rest.map fun v => v.category).sum = W) (hf : rm.frames + 1 ≤ R.frames) (hl : W + (maxL' + 11) + rm.locals ≤ R.locals) (hc : cells + rm.cells ≤ R.cells) (hsl : slots + rm.slots ≤ R.slots) (hd : decode bytes pc = .ok (.invokevirtual index, 3)) (hp : pc + 3 = pc') (r : ∀ v T' h', Q v h' → St p l e R s m args below meth c n0 T' h' (cells + rm.cells) (slots + rm.slots) → Go p e below Rest T' (mkF m pc' L (v.toList ++ rest))) : Go p e below Rest T (mkF m pc L S) := by
  obtain ⟨locs, X, N, eT⟩ := X; obtain ⟨hx, hby, hml, -, -, hown, hnm, hZ⟩ := C; subst hp
  obtain ⟨cq, kq, qa, qb, qc⟩ := isOf hZ eT Ex
  obtain ⟨v, _, ⟨T', L1, k1, n1⟩, -, X', ⟨Lc, ⟨hQ, hN⟩, l1, y1, z1⟩, st⟩ := X.virtualBack hx (y := y) (z := y) hown (mvT hZ w1) (mvT hZ w2) (notFace_of_selects (args := #[]) (mvT hZ ws)) (mvT hZ ws) (mvT hZ wi) hy (backOf (W := W) (Q := fun v h L => Q v h ∧ Fr n0 L) hM hZ w4 w3 hf hl) qa qc (g := mkF m pc L S) rfl (by rw [hml]; exact hsz) (Steps.refl _) (argsL := argsL) (rest := rest) (lenOf pd hal) hs (by show 2 * 0 + _ ≤ _; omega) (hb hby hd) (fun _ _ => ⟨has, eT, hc, hsl⟩)
  dsimp only [Pt.U, Pt.locs, Pt.cells, Pt.slots] at X' l1 y1 z1 st hQ
  subst l1 y1 z1
  exact go_tr st (r v T' _ hQ ⟨_, X', Fr.app N hN, rfl⟩)
theorem g_retI {z : Int32} (X : St p l e R s m args below meth c n0 T h cells slots) (C : Cx p s m meth c Z bytes maxL (some .int) own nme) {Q : Option Value → Heap → Prop} {k n : Nat} (hd : decode bytes pc = .ok (.ireturn, 1)) (hQ : Q (some (.int z)) h) (hk : cells ≤ k) (hn : slots ≤ n) : Go p e below (Rs s below n0 Q k n) T (mkF m pc L (.int z :: S)) := by
  obtain ⟨locs, X, N, eT⟩ := X; obtain ⟨hx, hby, -, hret, hlk, -⟩ := C
  obtain ⟨fs, hr, hrun, hended, hW, hsame⟩ := X.leave (v := (some (.int z))) (fun q => by first | rfl | (rw [hret] at q; cases q)) hlk
  refine ⟨_, _, ?_, hrun, hended, _, _, rfl, ⟨?_, N⟩, ⟨_, rfl⟩, hW, hsame.mono hk hn⟩
  · exact retOut X hx hret rfl (Or.inl ⟨rfl, Or.inl rfl, z, rfl⟩) (hb hby hd) hr
  · show Q _ T.heap; rw [eT]; exact hQ
theorem g_retJ {z : Int64} (X : St p l e R s m args below meth c n0 T h cells slots) (C : Cx p s m meth c Z bytes maxL (some .long) own nme) {Q : Option Value → Heap → Prop} {k n : Nat} (hd : decode bytes pc = .ok (.lreturn, 1)) (hQ : Q (some (.long z)) h) (hk : cells ≤ k) (hn : slots ≤ n) : Go p e below (Rs s below n0 Q k n) T (mkF m pc L (.long z :: S)) := by
  obtain ⟨locs, X, N, eT⟩ := X; obtain ⟨hx, hby, -, hret, hlk, -⟩ := C
  obtain ⟨fs, hr, hrun, hended, hW, hsame⟩ := X.leave (v := (some (.long z))) (fun q => by first | rfl | (rw [hret] at q; cases q)) hlk
  refine ⟨_, _, ?_, hrun, hended, _, _, rfl, ⟨?_, N⟩, ⟨_, rfl⟩, hW, hsame.mono hk hn⟩
  · exact retOut X hx hret rfl (Or.inr (Or.inl ⟨rfl, rfl, z, rfl⟩)) (hb hby hd) hr
  · show Q _ T.heap; rw [eT]; exact hQ
theorem g_retZ {z : Int32} (X : St p l e R s m args below meth c n0 T h cells slots) (C : Cx p s m meth c Z bytes maxL (some .boolean) own nme) {Q : Option Value → Heap → Prop} {k n : Nat} (hd : decode bytes pc = .ok (.ireturn, 1)) (hQ : Q (some (.int (nar .boolean z))) h) (hk : cells ≤ k) (hn : slots ≤ n) : Go p e below (Rs s below n0 Q k n) T (mkF m pc L (.int z :: S)) := by
  obtain ⟨locs, X, N, eT⟩ := X; obtain ⟨hx, hby, -, hret, hlk, -⟩ := C
  obtain ⟨fs, hr, hrun, hended, hW, hsame⟩ := X.leave (v := (some (.int (nar .boolean z)))) (fun q => by first | rfl | (rw [hret] at q; cases q)) hlk
  refine ⟨_, _, ?_, hrun, hended, _, _, rfl, ⟨?_, N⟩, ⟨_, rfl⟩, hW, hsame.mono hk hn⟩
  · exact retN X hx (t := .boolean) hret (by simp) (hb hby hd) hr
  · show Q _ T.heap; rw [eT]; exact hQ
theorem g_retB {z : Int32} (X : St p l e R s m args below meth c n0 T h cells slots) (C : Cx p s m meth c Z bytes maxL (some .byte) own nme) {Q : Option Value → Heap → Prop} {k n : Nat} (hd : decode bytes pc = .ok (.ireturn, 1)) (hQ : Q (some (.int (nar .byte z))) h) (hk : cells ≤ k) (hn : slots ≤ n) : Go p e below (Rs s below n0 Q k n) T (mkF m pc L (.int z :: S)) := by
  obtain ⟨locs, X, N, eT⟩ := X; obtain ⟨hx, hby, -, hret, hlk, -⟩ := C
  obtain ⟨fs, hr, hrun, hended, hW, hsame⟩ := X.leave (v := (some (.int (nar .byte z)))) (fun q => by first | rfl | (rw [hret] at q; cases q)) hlk
  refine ⟨_, _, ?_, hrun, hended, _, _, rfl, ⟨?_, N⟩, ⟨_, rfl⟩, hW, hsame.mono hk hn⟩
  · exact retN X hx (t := .byte) hret (by simp) (hb hby hd) hr
  · show Q _ T.heap; rw [eT]; exact hQ
theorem g_retV  (X : St p l e R s m args below meth c n0 T h cells slots) (C : Cx p s m meth c Z bytes maxL none own nme) {Q : Option Value → Heap → Prop} {k n : Nat} (hd : decode bytes pc = .ok (.return_, 1)) (hQ : Q none h) (hk : cells ≤ k) (hn : slots ≤ n) : Go p e below (Rs s below n0 Q k n) T (mkF m pc L []) := by
  obtain ⟨locs, X, N, eT⟩ := X; obtain ⟨hx, hby, -, hret, hlk, -⟩ := C
  obtain ⟨fs, hr, hrun, hended, hW, hsame⟩ := X.leave (v := none) (fun q => by first | rfl | (rw [hret] at q; cases q)) hlk
  refine ⟨_, _, ?_, hrun, hended, _, _, rfl, ⟨?_, N⟩, ⟨_, rfl⟩, hW, hsame.mono hk hn⟩
  · exact X.returnOut hx hret (hb hby hd) hr
  · show Q _ T.heap; rw [eT]; exact hQ
theorem g_retA {v : Value} {ty : FieldType} (X : St p l e R s m args below meth c n0 T h cells slots) (C : Cx p s m meth c Z bytes maxL (some ty) own nme) {Q : Option Value → Heap → Prop} {k n : Nat} (hd : decode bytes pc = .ok (.areturn, 1)) (ht : ty.isReference = true) (hv : v.isRef = true) (hQ : Q (some v) h) (hk : cells ≤ k) (hn : slots ≤ n) : Go p e below (Rs s below n0 Q k n) T (mkF m pc L (v :: S)) := by
  obtain ⟨locs, X, N, eT⟩ := X; obtain ⟨hx, hby, -, hret, hlk, -⟩ := C
  obtain ⟨fs, hr, hrun, hended, hW, hsame⟩ := X.leave (v := (some v)) (fun q => by first | rfl | (rw [hret] at q; cases q)) hlk
  refine ⟨_, _, ?_, hrun, hended, _, _, rfl, ⟨?_, N⟩, ⟨_, rfl⟩, hW, hsame.mono hk hn⟩
  · exact retOut X hx hret (by cases ty <;> cases v <;> simp_all [narrow, FieldType.isReference, Value.isRef]) (Or.inr (Or.inr (Or.inr (Or.inr ⟨rfl, ht, hv⟩)))) (hb hby hd) hr
  · show Q _ T.heap; rw [eT]; exact hQ
theorem refReady {locs : List Loc} (X : Stand p l e R s m args below meth c T locs cells slots) (hZ : Z.Warmed39 s.vm) {R0 n d : String} {index : Nat} (hown : s.vm.findClass own = some m.cls) (w : (Jvm.Cond.fieldRef own index R0 n d).before a0 Z = true) {cf i : Nat} {k : Class} {fd : Field} (h2 : Z.fieldFound? R0 n d = some (cf, k, i, fd)) : T.vm.fieldReady m.cls index cf fd := by
  have hT : Z.Warmed39 T.vm := wtrans hZ X.warmed
  have h3 := Cond.fieldRef_warmed39 hT w
  have hcur : (Z.setVm T.vm).vm.findClass own = some m.cls := by
    show T.vm.findClass own = _
    rw [X.warmed.alike.findClass]; exact hown
  obtain ⟨c', k', i', f', e1, e2⟩ := Cond.fieldRef_spec hcur h3
  obtain ⟨k'', hi, -⟩ := State.fieldFound?_setVm (s := Z) hT.alike h2
  cases e1.symm.trans hi
  exact e2
theorem g_getRef (X : St p l e R s m args below meth c n0 T h cells slots) (C : Cx p s m meth c Z bytes maxL ret own nme) {a : Addr} {K n d : String} {NS : List (String × String)} {vs : List Value} {i index : Nat} {v : Value} (O : Ob Z h a K NS vs) (hN : NS[i]? = some (n, d)) (hv : vs[i]? = some v) (w : (Jvm.Cond.fieldRef own index K n d).before a0 Z = true) (hd : decode bytes pc = .ok (.getfield index, 3)) (hp : pc + 3 = pc') (r : Go p e below Rest T (mkF m pc' L (v :: S))) : Go p e below Rest T (mkF m pc L (.ref a :: S)) := by
  obtain ⟨locs, X, N, eT⟩ := X; obtain ⟨hx, hby, -, -, -, hown, -, hZ⟩ := C; subst hp
  obtain ⟨cell, cf, k, i', fd, h1, h2, h3, h4, -, -, h7⟩ := O.2 _ _ _ _ hN hv
  have hr := refReady X hZ hown w h2
  refine go_by (fun t kt => ?_) r
  have hd' : decode c.code pc = _ := hb hby hd
  jvm_step X.here [hx, hd', getfield.wp_ready (e := e) (s := T) (f := mkF m pc L (.ref a :: S)) X.here.top hr h3 rfl (by rw [eT]; exact h1) h4 h7]
  exact kt
theorem g_putRef (X : St p l e R s m args below meth c n0 T h cells slots) (C : Cx p s m meth c Z bytes maxL ret own nme) {a : Addr} {K n d : String} {NS : List (String × String)} {vs vs' : List Value} {i k index : Nat} {v old : Value} {ty : FieldType} (O : Ob Z h a K NS vs) (F : CF Z a0 K NS k) (hN : NS[i]? = some (n, d)) (ho : vs[i]? = some old) (hvs : vs.set i v = vs') (ga : n0 ≤ a) (w : (Jvm.Cond.fieldRef own index K n d).before a0 Z = true) (Ly : (Jvm.Cond.lays K K n d).before a0 Z = true) (hty : parseFieldDescriptor d = some ty) (hn : narrow ty v = v) (hf : fits ty v = true) (hd : decode bytes pc = .ok (.putfield index, 3)) (hp : pc + 3 = pc') (r : ∀ T' h', St p l e R s m args below meth c n0 T' h' cells slots → Ob Z h' a K NS vs' → Keep h h' [a] → Go p e below Rest T' (mkF m pc' L S)) : Go p e below Rest T (mkF m pc L (v :: .ref a :: S)) := by
  obtain ⟨locs, X, N, eT⟩ := X; obtain ⟨hx, hby, -, -, -, hown, -, hZ⟩ := C; subst hp
  have F0 := O.2 _ _ _ _ hN ho
  obtain ⟨cell, cf, kf, i', fd, h1, h2, h3, h4, h5, -, h7⟩ := F0
  obtain ⟨cell', kc, e1, e2, e3, -⟩ := O.1
  cases h1.symm.trans e1
  obtain ⟨c1, k1, cf1, kf1, i1, f1, a1, a2, a3, -, -, a6, -⟩ := Laid.spec (Or.inl Ly)
  cases h2.symm.trans a3
  cases e2.symm.trans a1
  obtain ⟨c2, k2, j1, j2, j3, -⟩ := Cond.instantiable_spec F.2.2
  cases e2.symm.trans j1
  cases a2.symm.trans j2
  have ht := (State.fieldFound?_type h2 hty).2
  have hr := refReady X hZ hown w h2
  have hTh : T.heap[a]? = some cell := by rw [eT]; exact h1
  have q : Z.slotType? cell.cls cell.vm fd.slot = some ty := by
    simp only [State.slotType?, a2, Option.bind_eq_bind, Option.bind_some, j3]
    cases hq : cell.vm <;> first | (rw [hq] at h5; exact Bool.noConfusion h5) | (rw [a6, ht])
  have hfit : T.fitsSlot cell.cls cell.vm fd.slot v = true := by
    have hT : Z.Warmed39 T.vm := wtrans hZ X.warmed
    have h0 : Z.fitsSlot cell.cls cell.vm fd.slot v = true := by simp [State.fitsSlot, q, hf]
    rw [← State.fitsSlot_setVm hT.alike] at h0; exact h0
  have hlt : fd.slot < cell.slots.size := (Array.getElem?_eq_some_iff.mp h7).1
  have hnf : hasFlag fd.accessFlags Acc.final = false := by
    obtain ⟨_, _, _, _, _, _, -, -, b3, -, b5, -⟩ := Cond.lays_spec Ly
    cases h2.symm.trans b3; exact b5
  have hna : narrow fd.type v = v := by rw [ht]; exact hn
  have X' := X.stored hTh fd.slot v
  have hsl : Jvm.RoadKit.slotOf Z K n d = fd.slot := by simp [Jvm.RoadKit.slotOf, h2]
  have W : Wr h (T.setCell a (cell.setSlot fd.slot v)).heap a (Jvm.RoadKit.slotOf Z K n d) v := ⟨cell, h1, h5, by rw [hsl]; exact hlt, by rw [hsl, ← eT]; rfl⟩
  refine go_by (T' := T.setCell a (cell.setSlot fd.slot v)) (f' := mkF m (pc + 3) L S) (fun t kt => ?_) (r _ _ ⟨_, X', Fr.snoc X' N ga, rfl⟩ (O.put F hN ho hvs W) (Keep.of_wr W))
  have hd' : decode c.code pc = _ := hb hby hd
  jvm_step X.here [hx, hd', putfield.wp_ready (e := e) (s := T) (f := mkF m pc L (v :: .ref a :: S)) X.here.top hr h3 hnf rfl hTh h4, hna, hlt, hfit]
  exact kt
theorem g_specialRef (X : St p l e R s m args below meth c n0 T h cells slots) (C : Cx p s m meth c Z bytes maxL ret own nme) {y : MethodName} {bytes' : ByteArray} {maxL' : Nat} {ret' : Option FieldType} {rm : Room} {as : Array Value} {Q : Option Value → Heap → Prop} {index : Nat} {W : Nat} {argsL rest : List Value} {ps : List FieldType} {rt : Option FieldType} (hM : Ctr l y bytes' maxL' ret' rm Z n0 as h Q []) {a : Addr} (hy1 : y.name = "<init>") (hret : ret' = none) (w1 : (Jvm.Cond.methodRef own index y).before a0 Z = true) (w2 : (Jvm.Cond.instanceMethod y).before a0 Z = true) (w3 : (Jvm.Cond.initialized y.cls).before a0 Z = true) (w4 : (Jvm.Cond.code y bytes' maxL' ret').before a0 Z = true) (hy : y.cls ≠ "java/lang/invoke/MethodHandle" ∧ y.cls ≠ "java/lang/invoke/VarHandle") (pd : parseMethodDescriptor y.desc = some ⟨ps, rt⟩) (hal : argsL.length = ps.length) (has : (.ref a :: argsL).toArray = as) (hs : S = argsL.reverse ++ .ref a :: rest) (hsz : L.size = maxL) (hW : (rest.map fun v => v.category).sum = W) (hf : rm.frames + 1 ≤ R.frames) (hl : W + (maxL' + 11) + rm.locals ≤ R.locals) (hc : cells + rm.cells ≤ R.cells) (hsl : slots + rm.slots ≤ R.slots) (hd : decode bytes pc = .ok (.invokespecial index, 3)) (hp : pc + 3 = pc') (r : ∀ v T' h', Q v h' → St p l e R s m args below meth c n0 T' h' (cells + rm.cells) (slots + rm.slots) → Go p e below Rest T' (mkF m pc' L (v.toList ++ rest))) : Go p e below Rest T (mkF m pc L S) := by
  obtain ⟨locs, X, N, eT⟩ := X; obtain ⟨hx, hby, hml, -, -, hown, hnm, hZ⟩ := C; subst hp hret
  have SC : SCall p l e R s m args below meth c index y := SCall.of_ready hx hy1 (mvT hZ w2) (mvT hZ w4) (fun U r0 hU hn => by
    have hT : Z.Warmed39 U.vm := wtrans hZ hU
    have hnZ : Z.methodNamed? y = some r0 := by rw [← State.methodNamed?_setVm hZ.alike]; exact hn
    have h3 := Cond.methodRef_warmed39 hT hnZ hy w1
    have hcur : (Z.setVm U.vm).vm.findClass own = some m.cls := by
      show U.vm.findClass own = _
      rw [hU.alike.findClass]; exact hown
    obtain ⟨m', c', e1, e2, e3, e4⟩ := Cond.methodRef_named e hcur h3
    rw [State.methodFound?_setVm_of_named hT.alike hnZ hy] at e1
    have e5 := findClass_of_methodNamed hnZ
    have e6 : U.vm.findClass y.cls = some c' := e3
    rw [hT.alike.findClass] at e6
    cases e5.symm.trans e6
    have e7 := State.methodFound?_of_named hnZ hy
    cases e7.symm.trans e1
    exact ⟨e4, e2⟩)
  obtain ⟨v, _, ⟨T', L1, k1, n1⟩, -, X', ⟨Lc, ⟨hQ, hN⟩, l1, y1, z1⟩, st⟩ := SC X (backOf (W := W) (Q := fun v h L => Q v h ∧ Fr n0 L) hM hZ w4 w3 hf hl) (g := mkF m pc L S) rfl (by rw [hml]; exact hsz) (Steps.refl _) (a := a) (argsL := argsL) (rest := rest) (lenOf pd hal) hs (by show 2 * 0 + _ ≤ _; omega) (hb hby hd) (fun _ _ => ⟨has, eT, hc, hsl⟩)
  dsimp only [Pt.U, Pt.locs, Pt.cells, Pt.slots] at X' l1 y1 z1 st hQ
  subst l1 y1 z1
  exact go_tr st (r v T' _ hQ ⟨_, X', Fr.app N hN, rfl⟩)
theorem narrowO {K : String} {v : Value} (h : v.isRef = true) : narrow (.object K) v = v := by cases v <;> simp_all [narrow, Value.isRef]
theorem fitsO {K : String} {v : Value} (h : v.isRef = true) : fits (.object K) v = true := by cases v <;> simp_all [fits, Value.isRef]
theorem g_private (X : St p l e R s m args below meth c n0 T h cells slots) (C : Cx p s m meth c Z bytes maxL ret own nme) {y : MethodName} {bytes' : ByteArray} {maxL' : Nat} {ret' : Option FieldType} {rm : Room} {as : Array Value} {Q : Option Value → Heap → Prop} {index : Nat} {W : Nat} {argsL rest : List Value} {ps : List FieldType} {rt : Option FieldType} (hM : Ctr l y bytes' maxL' ret' rm Z n0 as h Q []) {a : Addr} {kk : Nat} (Ex : Exa Z h a y.cls) (w1 : (Jvm.Cond.methodLink own index y).before a0 Z = true) (wi : (Jvm.Cond.instanceMethod y).before a0 Z = true) (wp : (Jvm.Cond.privateMethod y).before a0 Z = true) (wn : (Jvm.Cond.instantiable y.cls kk).before a0 Z = true) (w3 : (Jvm.Cond.initialized y.cls).before a0 Z = true) (w4 : (Jvm.Cond.code y bytes' maxL' ret').before a0 Z = true) (hy : y.cls ≠ "java/lang/invoke/MethodHandle" ∧ y.cls ≠ "java/lang/invoke/VarHandle") (pd : parseMethodDescriptor y.desc = some ⟨ps, rt⟩) (hal : argsL.length = ps.length) (has : (.ref a :: argsL).toArray = as) (hs : S = argsL.reverse ++ .ref a :: rest) (hsz : L.size = maxL) (hW : (rest.map fun v => v.category).sum = W) (hf : rm.frames + 1 ≤ R.frames) (hl : W + (maxL' + 11) + rm.locals ≤ R.locals) (hc : cells + rm.cells ≤ R.cells) (hsl : slots + rm.slots ≤ R.slots) (hd : decode bytes pc = .ok (.invokevirtual index, 3)) (hp : pc + 3 = pc') (r : ∀ v T' h', Q v h' → St p l e R s m args below meth c n0 T' h' (cells + rm.cells) (slots + rm.slots) → Go p e below Rest T' (mkF m pc' L (v.toList ++ rest))) : Go p e below Rest T (mkF m pc L S) := by
  obtain ⟨locs, X, N, eT⟩ := X; obtain ⟨hx, hby, hml, -, -, hown, hnm, hZ⟩ := C; subst hp
  have hpriv : s.PrivateAt y := Cond.privateMethod_at (mvP hZ wp (args := #[]))
  obtain ⟨cC, kC, hfc, hk, -, hconc, -⟩ := Cond.instantiable_spec (mvT (args := args) hZ wn)
  have hni : kC.isInterface = false := by simp only [Bool.or_eq_false_iff] at hconc; exact hconc.1
  have hsel : (Jvm.Cond.selects y.cls y y).before args s = true := selects_self_of_private hfc hk hni hpriv (mvT hZ wi) hy
  obtain ⟨cq, q1, q2⟩ := Ex.cell
  obtain ⟨v, _, ⟨T', L1, k1, n1⟩, -, X', ⟨Lc, ⟨hQ, hN⟩, l1, y1, z1⟩, st⟩ := X.privateBack hx (y := y) hown (mvT hZ w1) (mvT hZ wi) hsel hpriv (mvT hZ w4) hy (backOf (W := W) (Q := fun v h L => Q v h ∧ Fr n0 L) hM hZ w4 w3 hf hl) (g := mkF m pc L S) rfl (by rw [hml]; exact hsz) (Steps.refl _) (a := a) (by rw [eT]; exact q1) q2 (argsL := argsL) (rest := rest) (lenOf pd hal) hs (by show 2 * 0 + _ ≤ _; omega) (hb hby hd) (fun _ _ => ⟨has, eT, hc, hsl⟩)
  dsimp only [Pt.U, Pt.locs, Pt.cells, Pt.slots] at X' l1 y1 z1 st hQ
  subst l1 y1 z1
  exact go_tr st (r v T' _ hQ ⟨_, X', Fr.app N hN, rfl⟩)
theorem g_newarrE (X : St p l e R s m args below meth c n0 T h cells slots) (C : Cx p s m meth c Z bytes maxL ret own nme) {aty : ArrayType} {z : Int32} {n cap : Nat} {ad : String} (had : "[" ++ (newarray.typeOf aty).toString = ad) (w : (Jvm.Cond.arrayClass (newarray.typeOf aty)).before a0 Z = true) (hz : z.toInt = n) (hcap : n ≤ cap) (hcb : cap * 8 ≤ 536870912) (hc : cells + 1 ≤ R.cells) (hl : slots + cap ≤ R.slots) (hd : decode bytes pc = .ok (.newarray aty, 2)) (hp : pc + 2 = pc') (r : ∀ T' h' b, Sz b h → St p l e R s m args below meth c n0 T' h' (cells + 1) (slots + cap) → Ar Z h' b (newarray.typeOf aty) n (fun _ => defaultValue (newarray.typeOf aty)) → Exa Z h' b ad → Keep h h' [] → Go p e below Rest T' (mkF m pc' L (.ref b :: S))) : Go p e below Rest T (mkF m pc L (.int z :: S)) := by
  obtain ⟨locs, X, N, eT⟩ := X; obtain ⟨hx, hby, -, -, -, hown, hnm, hZ⟩ := C; subst hp
  have hneg : ¬ z < 0 := nneg hz
  obtain ⟨T', h', cA, X', e', E, A, Ex, st⟩ := newPE X hx hZ w eT (g := mkF m pc L (.int z :: S)) rfl (hb hby hd) rfl hneg (cap := cap) (by rw [clamp_of hz]; exact hcap) hcb hc hl had
  refine go_by st (r T' h' _ rfl ⟨_, X', N, e'⟩ ⟨_, A, by rw [sz_new, clamp_of hz], fun j hj => ?_⟩ Ex (keepE E))
  simp [newA, clamp_of hz, hj]
theorem g_cloneJ (X : St p l e R s m args below meth c n0 T h cells slots) (C : Cx p s m meth c Z bytes maxL ret own nme) {ad : String} {index : Nat} {a : Addr} {n cap W : Nat} {g : Nat → Int64} (w1 : (Jvm.Cond.methodLink own index ⟨ad, "clone", "()Ljava/lang/Object;"⟩).before a0 Z = true) (w2 : (Jvm.Cond.sameMethod ad "java/lang/Object" "clone" "()Ljava/lang/Object;").before a0 Z = true) (w3 : (Jvm.Cond.native ⟨"java/lang/Object", "clone", "()Ljava/lang/Object;"⟩).before a0 Z = true) (w4 : (Jvm.Cond.instanceMethod ⟨"java/lang/Object", "clone", "()Ljava/lang/Object;"⟩).before a0 Z = true) (w5 : (Jvm.Cond.selects ad ⟨ad, "clone", "()Ljava/lang/Object;"⟩ ⟨"java/lang/Object", "clone", "()Ljava/lang/Object;"⟩).before a0 Z = true) (w6 : (Jvm.Cond.castable ad "java/lang/Cloneable").before a0 Z = true) (A : Ar Z h a .long n (fun k => .long (g k))) (Ex : Exa Z h a ad) (hsz : L.size = maxL) (hW : (S.map fun v => v.category).sum = W) (hf : 1 ≤ R.frames) (hl : W + 14 ≤ R.locals) (hcap : n ≤ cap) (hc : cells + 1 ≤ R.cells) (hsl : slots + cap ≤ R.slots) (hd : decode bytes pc = .ok (.invokevirtual index, 3)) (hp : pc + 3 = pc') (r : ∀ T' h' b, Sz b h → St p l e R s m args below meth c n0 T' h' (cells + 1) (slots + cap) → Ar Z h' b .long n (fun k => .long (g k)) → Exa Z h' b ad → Keep h h' [] → Go p e below Rest T' (mkF m pc' L (.ref b :: S))) : Go p e below Rest T (mkF m pc L (.ref a :: S)) := by
  obtain ⟨locs, X, N, eT⟩ := X; obtain ⟨hx, hby, hml, -, -, hown, hnm, hZ⟩ := C; subst hp
  obtain ⟨cl, A, r1, r2⟩ := A
  have FC : FitC Z cl := fitC_of A fun i hi v hv => by rw [r2 i (by omega)] at hv; cases hv; rfl
  obtain ⟨T', h', X', e', ex, A', E', st⟩ := cloneA X hx hZ hown w1 w2 w3 w4 w5 w6 eT A Ex FC (g := mkF m pc L (.ref a :: S)) rfl (by rw [hml]; exact hsz) rfl (hb hby hd) hf (W := W) (cap := cap) (by show 2 * 0 + _ ≤ _; omega) hl (by rw [r1]; exact hcap) hc hsl
  exact go_by st (r T' h' _ rfl ⟨_, X', N, e'⟩ ⟨_, A', r1, r2⟩ E' (keepE ex))
theorem g_cast (X : St p l e R s m args below meth c n0 T h cells slots) (C : Cx p s m meth c Z bytes maxL ret own nme) {K : String} {index : Nat} {a : Addr} (w : (Jvm.Cond.classLink own index K).before a0 Z = true) (I : Ins Z h a K true) (hd : decode bytes pc = .ok (.checkcast index, 3)) (hp : pc + 3 = pc') (r : ∀ T', St p l e R s m args below meth c n0 T' h cells slots → Go p e below Rest T' (mkF m pc' L (.ref a :: S))) : Go p e below Rest T (mkF m pc L (.ref a :: S)) := by
  obtain ⟨locs, X, N, eT⟩ := X; obtain ⟨hx, hby, hml, -, -, hown, hnm, hZ⟩ := C; subst hp
  obtain ⟨T', X', e', st⟩ := castY X hx hZ hown w eT I (g := mkF m pc L (.ref a :: S)) rfl rfl (hb hby hd)
  exact go_by st (r T' ⟨_, X', N, e'⟩)
theorem g_aastore (X : St p l e R s m args below meth c n0 T h cells slots) (C : Cx p s m meth c Z bytes maxL ret own nme) {a : Addr} {n i : Nat} {K : String} {fn : Nat → Value} {j : Int32} {y : Addr} (A : ArR Z h a K n fn) (I : Ins Z h y K true) (hi : j.toInt = i) (hlt : i < n) (ga : n0 ≤ a) (hd : decode bytes pc = .ok (.aastore, 1)) (hp : pc + 1 = pc') (r : ∀ T' h', St p l e R s m args below meth c n0 T' h' cells slots → ArR Z h' a K n (fun k => if k = i then .ref y else fn k) → Keep h h' [a] → Go p e below Rest T' (mkF m pc' L S)) : Go p e below Rest T (mkF m pc L (.ref y :: .int j :: .ref a :: S)) := by
  obtain ⟨locs, X, N, eT⟩ := X; obtain ⟨hx, hby, -, -, -, hown, hnm, hZ⟩ := C; subst hp
  obtain ⟨cl, A, Ov, r1, r2⟩ := A
  obtain ⟨T', h', X', e', W, st⟩ := stR X hx hZ eT A (j := j) (inb hi hlt r1) rfl (Sto.of A Ov I) (g := mkF m pc L (.ref y :: .int j :: .ref a :: S)) rfl rfl (hb hby hd)
  rw [clamp_of hi] at W
  refine go_by st (r T' h' ⟨_, X', Fr.snoc X' N ga, e'⟩ ⟨_, A.same W, Ov, by rw [sz_set]; exact r1, fun k hk => ?_⟩ (Keep.of_wr W))
  by_cases q : k = i
  · subst q; simp [Cell.setSlot, Array.getElem?_setIfInBounds, r1, hlt]
  · have := r2 k hk; simp [Cell.setSlot, Array.getElem?_setIfInBounds, q, Ne.symm q, this]
theorem mapget (fn : Nat → Value) (n k : Nat) (d : Value) (hk : k < n) : ((List.range n).map fn).getD k d = fn k := by
  simp [List.getD, hk]
theorem g_copy0 (X : St p l e R s m args below meth c n0 T h cells slots) (C : Cx p s m meth c Z bytes maxL ret own nme) {index : Nat} {a : Addr} {n i j W : Nat} {fn : Nat → Value} {ty : FieldType} {sp dp nn : Int32} (w1 : (Jvm.Cond.methodLink own index Jvm.Stand.acN).before a0 Z = true) (w2 : (Jvm.Cond.native Jvm.Stand.acN).before a0 Z = true) (w3 : (Jvm.Cond.static Jvm.Stand.acN).before a0 Z = true) (w4 : (Jvm.Cond.initialized "java/lang/System").before a0 Z = true) (A : Ar Z h a ty n fn) (hrk : refKind ty = false) (hfit : ∀ i, i < n → fits ty (fn i) = true) (hn31 : n < 2147483648) (hi : sp.toInt = i) (hj : dp.toInt = j) (hin : i ≤ n) (hjn : j ≤ n) (hnn : nn.toInt = (0 : Nat)) (ga : n0 ≤ a) (hsz : L.size = maxL) (hW : (S.map fun v => v.category).sum = W) (hf : 1 ≤ R.frames) (hl : W + (nativeFrameWords "java/lang/System" "arraycopy" 5 + 11) ≤ R.locals) (hd : decode bytes pc = .ok (.invokestatic index, 3)) (hp : pc + 3 = pc') (r : ∀ T' h', St p l e R s m args below meth c n0 T' h' cells slots → Ar Z h' a ty n fn → Keep h h' [a] → Go p e below Rest T' (mkF m pc' L S)) : Go p e below Rest T (mkF m pc L (.int nn :: .int dp :: .ref a :: .int sp :: .ref a :: S)) := by
  obtain ⟨locs, X, N, eT⟩ := X; obtain ⟨hx, hby, hml, -, -, hown, hnm, hZ⟩ := C; subst hp
  obtain ⟨cl, A, r1, r2⟩ := A
  have hz : (n.toInt32).toInt = (n : Nat) := len_toInt (by omega)
  have V : Arv Z h a cl.cls ty n.toInt32 ((List.range n).map fn) .null := ⟨cl, A, rfl, by rw [r1, clamp_of hz], nneg hz, fun k hk => by rw [mapget _ _ _ _ (by omega)]; exact r2 k (by omega), fun k hk => by rw [mapget _ _ _ _ (by omega)]; exact hfit k (by omega)⟩
  obtain ⟨T', h', L', X', e', N', K', V', st⟩ := cpA X hx hZ hown w1 w2 w3 w4 eT (us := []) V V (Or.inl ⟨rfl, hrk⟩) (nneg hi) (nneg hj) (nneg hnn) (by rw [clamp_of hi, clamp_of hnn, clamp_of hz]; omega) (by rw [clamp_of hj, clamp_of hnn, clamp_of hz]; omega) (by rw [clamp_of hnn]; rfl) (by rw [clamp_of hj, clamp_of hnn]; simp; omega) N ga (g := mkF m pc L (.int nn :: .int dp :: .ref a :: .int sp :: .ref a :: S)) rfl (by rw [hml]; exact hsz) rfl (hb hby hd) hf (W := W) (by show 2 * 0 + _ ≤ _; omega) hl
  rw [clamp_of hj, clamp_of hnn] at V'
  simp only [Nat.add_zero, List.append_nil, List.take_append_drop] at V'
  obtain ⟨cl', A', q1, S', q3, H', -⟩ := V'
  rw [clamp_of hz] at S'
  exact go_by st (r T' h' ⟨_, X', N', e'⟩ ⟨cl', A', S', fun k hk => by rw [H' k (by omega), mapget _ _ _ _ hk]⟩ K')
theorem g_copy0R (X : St p l e R s m args below meth c n0 T h cells slots) (C : Cx p s m meth c Z bytes maxL ret own nme) {index : Nat} {a : Addr} {n i j W : Nat} {fn : Nat → Value} {K : String} {sp dp nn : Int32} (w1 : (Jvm.Cond.methodLink own index Jvm.Stand.acN).before a0 Z = true) (w2 : (Jvm.Cond.native Jvm.Stand.acN).before a0 Z = true) (w3 : (Jvm.Cond.static Jvm.Stand.acN).before a0 Z = true) (w4 : (Jvm.Cond.initialized "java/lang/System").before a0 Z = true) (A : ArR Z h a K n fn) (hfit : ∀ i, i < n → (fn i).isRef = true) (hn31 : n < 2147483648) (hi : sp.toInt = i) (hj : dp.toInt = j) (hin : i ≤ n) (hjn : j ≤ n) (hnn : nn.toInt = (0 : Nat)) (ga : n0 ≤ a) (hsz : L.size = maxL) (hW : (S.map fun v => v.category).sum = W) (hf : 1 ≤ R.frames) (hl : W + (nativeFrameWords "java/lang/System" "arraycopy" 5 + 11) ≤ R.locals) (hd : decode bytes pc = .ok (.invokestatic index, 3)) (hp : pc + 3 = pc') (r : ∀ T' h', St p l e R s m args below meth c n0 T' h' cells slots → ArR Z h' a K n fn → Keep h h' [a] → Go p e below Rest T' (mkF m pc' L S)) : Go p e below Rest T (mkF m pc L (.int nn :: .int dp :: .ref a :: .int sp :: .ref a :: S)) := by
  obtain ⟨locs, X, N, eT⟩ := X; obtain ⟨hx, hby, hml, -, -, hown, hnm, hZ⟩ := C; subst hp
  obtain ⟨cl, A, Ov, r1, r2⟩ := A
  have hz : (n.toInt32).toInt = (n : Nat) := len_toInt (by omega)
  have V : Arv Z h a cl.cls (.object K) n.toInt32 ((List.range n).map fn) .null := ⟨cl, A, rfl, by rw [r1, clamp_of hz], nneg hz, fun k hk => by rw [mapget _ _ _ _ (by omega)]; exact r2 k (by omega), fun k hk => by rw [mapget _ _ _ _ (by omega)]; exact fitsO (hfit k (by omega))⟩
  obtain ⟨T', h', L', X', e', N', K', V', st⟩ := cpA X hx hZ hown w1 w2 w3 w4 eT (us := []) V V (Or.inr ⟨rfl, rfl, trivial⟩) (nneg hi) (nneg hj) (nneg hnn) (by rw [clamp_of hi, clamp_of hnn, clamp_of hz]; omega) (by rw [clamp_of hj, clamp_of hnn, clamp_of hz]; omega) (by rw [clamp_of hnn]; rfl) (by rw [clamp_of hj, clamp_of hnn]; simp; omega) N ga (g := mkF m pc L (.int nn :: .int dp :: .ref a :: .int sp :: .ref a :: S)) rfl (by rw [hml]; exact hsz) rfl (hb hby hd) hf (W := W) (by show 2 * 0 + _ ≤ _; omega) hl
  rw [clamp_of hj, clamp_of hnn] at V'
  simp only [Nat.add_zero, List.append_nil, List.take_append_drop] at V'
  obtain ⟨cl', A', q1, S', q3, H', -⟩ := V'
  rw [clamp_of hz] at S'
  exact go_by st (r T' h' ⟨_, X', N', e'⟩ ⟨cl', A', (by rw [q1]; exact Ov), S', fun k hk => by rw [H' k (by omega), mapget _ _ _ _ hk]⟩ K')
end Lay
end Jvm.Own
namespace Jvm.Pilot.@@N@@
open Jvm Jvm.ClassFile Sem Op Lib Jvm.Free Jvm.Stand Jvm.LawKit Jvm.RoadKit Jvm.Own Bundle Jvm.Pilot.@@N@@.Jvm.D
def own_sl (x : Int32) : Int64 := (1 : Int64) <<< (x &&& 0x3f).toInt64
def own_m (nd : Nat → Int32) (i : Nat) : Nat → Int64
  | 0 => 0
  | k + 1 => if (nd k).toInt / 64 = i then own_m nd i k ||| own_sl (nd k) else own_m nd i k
def own_W (wn : Nat) (wv : Int32) : Prop := (wn = 1 ∧ wv = 1) ∨ (wn = 2 ∧ wv = 2)
theorem own_W.v {wn : Nat} {wv : Int32} (h : own_W wn wv) : wv.toInt = wn := by rcases h with ⟨rfl, rfl⟩ | ⟨rfl, rfl⟩ <;> decide
theorem own_W.le {wn : Nat} {wv : Int32} (h : own_W wn wv) : wn ≤ 2 := by rcases h with ⟨rfl, rfl⟩ | ⟨rfl, rfl⟩ <;> decide
theorem own_W.ge {wn : Nat} {wv : Int32} (h : own_W wn wv) : 1 ≤ wn := by rcases h with ⟨rfl, rfl⟩ | ⟨rfl, rfl⟩ <;> decide
theorem own_W.len {wn : Nat} {wv : Int32} (h : own_W wn wv) : wn.toInt32 = wv := by rcases h with ⟨rfl, rfl⟩ | ⟨rfl, rfl⟩ <;> decide
/-- what notBookedOver lays into found -/
def own_nb (wn : Nat) (lw : Int64) (b : Nat → Int64) (k : Nat) : Int64 := if k + 1 = wn then (b k ^^^ (-1)) &&& lw else b k ^^^ (-1)

def NS_CT : List (String × String) := [("times", "[J"), ("stretches", "[Lorg/foreslot/planning/ClusterTimeline$Stretch;"), ("unbooked", "[I"), ("floor", "J"), ("losses", "J"), ("markedFrom", "J"), ("markedUntil", "J"), ("nodes", "I"), ("words", "I"), ("lastWord", "J"), ("found", "[J"), ("pending", "[J"), ("clear", "[J"), ("markedNodes", "[J"), ("startsFound", "[Lorg/foreslot/planning/ClusterTimeline$Starts;"), ("size", "I"), ("blocked", "I")]
theorem CF_CT {Z : State} {a0 : Array Value} (hw : ∀ d ∈ tables_1, d.before a0 Z = true) : CF Z a0 "org/foreslot/planning/ClusterTimeline" NS_CT 17 := by
  refine ⟨by decide, fun x hx => ?_, (hw _ (List.mem_of_getElem? (i := 1) rfl))⟩
  simp only [NS_CT, List.mem_cons, List.not_mem_nil, or_false] at hx
  rcases hx with rfl | rfl | rfl | rfl | rfl | rfl | rfl | rfl | rfl | rfl | rfl | rfl | rfl | rfl | rfl | rfl | rfl
  · exact ⟨Or.inl (hw _ (List.mem_of_getElem? (i := 11) rfl)), by decide⟩
  · exact ⟨Or.inl (hw _ (List.mem_of_getElem? (i := 15) rfl)), by decide⟩
  · exact ⟨Or.inl (hw _ (List.mem_of_getElem? (i := 18) rfl)), by decide⟩
  · exact ⟨Or.inl (hw _ (List.mem_of_getElem? (i := 21) rfl)), by decide⟩
  · exact ⟨Or.inl (hw _ (List.mem_of_getElem? (i := 23) rfl)), by decide⟩
  · exact ⟨Or.inl (hw _ (List.mem_of_getElem? (i := 26) rfl)), by decide⟩
  · exact ⟨Or.inl (hw _ (List.mem_of_getElem? (i := 28) rfl)), by decide⟩
  · exact ⟨Or.inr (hw _ (List.mem_of_getElem? (i := 30) rfl)), by decide⟩
  · exact ⟨Or.inr (hw _ (List.mem_of_getElem? (i := 32) rfl)), by decide⟩
  · exact ⟨Or.inr (hw _ (List.mem_of_getElem? (i := 34) rfl)), by decide⟩
  · exact ⟨Or.inr (hw _ (List.mem_of_getElem? (i := 36) rfl)), by decide⟩
  · exact ⟨Or.inr (hw _ (List.mem_of_getElem? (i := 38) rfl)), by decide⟩
  · exact ⟨Or.inr (hw _ (List.mem_of_getElem? (i := 40) rfl)), by decide⟩
  · exact ⟨Or.inr (hw _ (List.mem_of_getElem? (i := 42) rfl)), by decide⟩
  · exact ⟨Or.inr (hw _ (List.mem_of_getElem? (i := 46) rfl)), by decide⟩
  · exact ⟨Or.inl (hw _ (List.mem_of_getElem? (i := 75) rfl)), by decide⟩
  · exact ⟨Or.inl (hw _ (List.mem_of_getElem? (i := 135) rfl)), by decide⟩
def NS_SR : List (String × String) := [("booked", "[J"), ("ends", "[J"), ("changed", "[J"), ("moments", "[J"), ("changedMoments", "[J")]
theorem CF_SR {Z : State} {a0 : Array Value} (hw : ∀ d ∈ tables_1, d.before a0 Z = true) : CF Z a0 "org/foreslot/planning/ClusterTimeline$Stretch" NS_SR 6 := by
  refine ⟨by decide, fun x hx => ?_, (hw _ (List.mem_of_getElem? (i := 80) rfl))⟩
  simp only [NS_SR, List.mem_cons, List.not_mem_nil, or_false] at hx
  rcases hx with rfl | rfl | rfl | rfl | rfl
  · exact ⟨Or.inr (hw _ (List.mem_of_getElem? (i := 87) rfl)), by decide⟩
  · exact ⟨Or.inr (hw _ (List.mem_of_getElem? (i := 89) rfl)), by decide⟩
  · exact ⟨Or.inl (hw _ (List.mem_of_getElem? (i := 91) rfl)), by decide⟩
  · exact ⟨Or.inl (hw _ (List.mem_of_getElem? (i := 118) rfl)), by decide⟩
  · exact ⟨Or.inl (hw _ (List.mem_of_getElem? (i := 120) rfl)), by decide⟩
def own_bit (k w : Int32) : Int64 := if (k >>> ((6 : Int32) &&& 31)).toInt = w.toInt then (1 : Int64) <<< ((k &&& 63) &&& 0x3f).toInt64 else 0
theorem own_z {x : Int64} (h : x.toInt = 0) : x = 0 := Int64.toInt_inj.mp (by rw [h]; decide)
theorem own_nz {x : Int64} (h : x.toInt ≠ 0) : x ≠ 0 := fun q => h (by rw [q]; decide)
theorem own_all1 {p : Nat → Prop} (h0 : p 0) : ∀ k, k < 1 → p k := fun k hk => by rw [show k = 0 by omega]; exact h0
theorem own_all2 {p : Nat → Prop} (h0 : p 0) (h1 : p 1) : ∀ k, k < 2 → p k := fun k hk => by
  rcases (show k = 0 ∨ k = 1 by omega) with rfl | rfl
  · exact h0
  · exact h1
def own_lw (p2 : Int32) (lw : Int64) : Prop := ((p2 % 64).toInt = 0 ∧ lw = -1) ∨ ((p2 % 64).toInt ≠ 0 ∧ lw = ((1 : Int64) <<< ((p2 % 64) &&& 0x3f).toInt64) - 1)
theorem os_7_6 {s0 s1 s2 s3 s4 s5 s6 : Slot} {v : Int32} (h : One s6) : storeLocals #[s0, s1, s2, s3, s4, s5, s6] 6 (.int v) = some #[s0, s1, s2, s3, s4, s5, .val (.int v)] := by
  rcases h with rfl | ⟨w, rfl, hw⟩
  · rfl
  · cases w <;> first | rfl | (simp [Value.category] at hw)
def own_fd (wn : Nat) (lw : Int64) (gm gf : Nat → Int64) (ov : Prop) : Prop := (ov ∧ ∀ k, k < wn → gf k = own_nb wn lw gm k) ∨ (¬ ov ∧ ∀ k, k < wn → gf k = own_nb wn lw (fun _ => 0) k)
theorem own_fd.iff {wn : Nat} {lw : Int64} {gm gf : Nat → Int64} {ov ov' : Prop} (h : own_fd wn lw gm gf ov) (q : ov ↔ ov') : own_fd wn lw gm gf ov' := by
  rcases h with ⟨h1, h2⟩ | ⟨h1, h2⟩
  · exact Or.inl ⟨q.mp h1, h2⟩
  · exact Or.inr ⟨fun r => h1 (q.mpr r), h2⟩
theorem own_tk {wn : Nat} {lw : Int64} (g : Nat → Int64) (k : Nat) : own_nb wn lw (fun _ => 0) k &&& (g k ^^^ (-1)) = own_nb wn lw g k := by
  have e1 : (0 : Int64) ^^^ (-1) = -1 := by decide
  simp only [own_nb, e1]
  split
  · rw [Int64.neg_one_and, Int64.and_comm]
  · rw [Int64.neg_one_and]
theorem own_tk0 (x : Int64) : x &&& ((0 : Int64) ^^^ (-1)) = x := by
  have e1 : (0 : Int64) ^^^ (-1) = -1 := by decide
  rw [e1, Int64.and_neg_one]
def own_ov (s d : Int) : Prop := (d = 0 ∧ 0 < s ∧ s < 10) ∨ (d ≠ 0 ∧ s < 10 ∧ 0 < s + d)
theorem own_bitE (k w : Int32) (h0 : 0 ≤ k.toInt) (hk : k.toInt < 128) (i : Nat) (hw : w.toInt = i) : own_bit k w = if k.toInt / 64 = i then own_sl k else 0 := by
  have e1 : (k >>> ((6 : Int32) &&& 31)).toInt = k.toInt / 64 := by
    have g := c_ishr k 6 6 (by decide)
    rw [g]; simp only [Nat.reducePow]; omega
  have e2 : ((k &&& 63) &&& 0x3f) = (k &&& 0x3f) := by
    apply Int32.toInt_inj.mp
    have g1 := c_mask (k &&& 63) 0x3f 6 (by decide) (by decide)
    have g2 := c_mask k 0x3f 6 (by decide) (by decide)
    rw [g1]; rw [show k &&& 63 = k &&& 0x3f from rfl, g2]; simp only [Nat.reducePow]; omega
  simp only [own_bit, own_sl, e1, e2, hw]
theorem own_slnz (k : Int32) : own_sl k ≠ 0 := by
  have g := c_mask k 0x3f 6 (by decide) (by decide)
  simp only [Nat.reducePow] at g
  obtain ⟨j, hj, e⟩ : ∃ j : Nat, j < 64 ∧ (k &&& 0x3f).toInt64 = Int64.ofNat j := by
    refine ⟨(k &&& 0x3f).toInt.toNat, by omega, ?_⟩
    apply Int64.toInt_inj.mp
    rw [Int32.toInt_toInt64, Int64.toInt_ofNat_of_lt (by omega)]; omega
  have q : ∀ j : Fin 64, (1 : Int64) <<< Int64.ofNat j.val ≠ 0 := by decide +kernel
  rw [own_sl, e]; exact q ⟨j, hj⟩
theorem own_m2 (nd : Nat → Int32) (a b w : Int32) (i : Nat) (hw : w.toInt = i) (ha : 0 ≤ a.toInt ∧ a.toInt < 128) (hb : 0 ≤ b.toInt ∧ b.toInt < 128) (h0 : nd 0 = a) (h1 : nd 1 = b) : own_m nd i 2 = own_bit a w ||| own_bit b w := by
  rw [own_bitE a w ha.1 ha.2 i hw, own_bitE b w hb.1 hb.2 i hw]
  simp only [own_m, h0, h1]
  by_cases q1 : a.toInt / 64 = i <;> by_cases q2 : b.toInt / 64 = i <;> simp [q1, q2]
theorem own_m1 (nd : Nat → Int32) (a b w : Int32) (i : Nat) (hw : w.toInt = i) (ha : 0 ≤ a.toInt ∧ a.toInt < 128) (hab : a.toInt = b.toInt) (h0 : nd 0 = a) : own_m nd i 1 = own_bit a w ||| own_bit b w := by
  obtain rfl : a = b := Int32.toInt_inj.mp hab
  rw [own_bitE a w ha.1 ha.2 i hw]
  simp only [own_m, h0]
  by_cases q1 : a.toInt / 64 = i <;> simp [q1]
theorem own_or {x y : Int64} (h : x ||| y = 0) : x = 0 ∧ y = 0 := by simpa using h
theorem own_mnz (nd : Nat → Int32) (k wn : Nat) (hk : k = 1 ∨ k = 2) (h : 0 ≤ (nd 0).toInt ∧ (nd 0).toInt / 64 < wn) : ∃ q, q < wn ∧ own_m nd q k ≠ 0 := by
  refine ⟨((nd 0).toInt / 64).toNat, by omega, ?_⟩
  have e : (nd 0).toInt / 64 = (((nd 0).toInt / 64).toNat : Nat) := by omega
  have s := own_slnz (nd 0)
  have m1 : own_m nd ((nd 0).toInt / 64).toNat 1 = own_sl (nd 0) := by
    simp only [own_m]; rw [if_pos e]; simp
  rcases hk with rfl | rfl
  · rw [m1]; exact s
  · rw [own_m]; split
    · intro q; rw [m1] at q; exact s (own_or q).1
    · rw [m1]; exact s
theorem own_and1 (x : Int64) : (-1 : Int64) &&& x = x := Int64.neg_one_and
theorem own_fr0 (n wn : Nat) (c : Int32) (hn : c.toInt = n) (h1 : 1 ≤ n) (h2 : n ≤ 128) (hwn : wn = (n + 63) / 64) (lw v : Int64) (hlw : own_lw c lw) (hv : (64 ≤ n ∧ v = -1) ∨ (n < 64 ∧ v = (1 : Int64) <<< (c &&& 0x3f).toInt64 - 1)) (gx : Nat → Int64) : own_nb wn lw gx 0 = v &&& (gx 0 ^^^ (-1)) := by
  have g := (c_irem c 64 64 (by decide)).1 (by omega)
  by_cases q : n ≤ 64
  · have e : lw = v := by
      rcases hlw with ⟨a, b⟩ | ⟨a, b⟩ <;> rcases hv with ⟨d, e⟩ | ⟨d, e⟩
      · rw [b, e]
      · omega
      · omega
      · have e3 : c % 64 = c := Int32.toInt_inj.mp (by rw [g]; omega)
        rw [b, e, e3]
    rw [own_nb, if_pos (by omega), e, Int64.and_comm]
  · rcases hv with ⟨d, e⟩ | ⟨d, e⟩
    · rw [own_nb, if_neg (by omega), e, own_and1]
    · omega
theorem own_fr1 (n wn : Nat) (c : Int32) (hn : c.toInt = n) (h2 : n ≤ 128) (hwn : wn = (n + 63) / 64) (h64 : 64 < n) (lw v : Int64) (hlw : own_lw c lw) (hv : (128 ≤ n ∧ v = -1) ∨ (n < 128 ∧ v = (1 : Int64) <<< ((c - 64) &&& 0x3f).toInt64 - 1)) (gx : Nat → Int64) : own_nb wn lw gx 1 = v &&& (gx 1 ^^^ (-1)) := by
  have g := (c_irem c 64 64 (by decide)).1 (by omega)
  have g1 := c_isub c 64; have g2 := rng32 (c - 64); have g3 : (64 : Int32).toInt = 64 := by decide
  have e : lw = v := by
    rcases hlw with ⟨a, b⟩ | ⟨a, b⟩ <;> rcases hv with ⟨d, e⟩ | ⟨d, e⟩
    · rw [b, e]
    · omega
    · omega
    · have e3 : c % 64 = c - 64 := Int32.toInt_inj.mp (by rw [g]; omega)
      rw [b, e, e3]
  rw [own_nb, if_pos (by omega), e, Int64.and_comm]
theorem own_fin (n wn : Nat) (h1 : 1 ≤ n) (h2 : n ≤ 128) (hwn : wn = (n + 63) / 64) (m0 m1 f0 f1 : Int64) (gf g2 : Nat → Int64) (hg0 : g2 0 = m0) (hg1 : g2 1 = m1) (hf0 : gf 0 = f0) (hf1 : 64 < n → gf 1 = f1) (r i : Int32) (hr : (r = 1 ∧ ∀ k, k < wn → g2 k &&& (gf k ^^^ (-1)) = 0) ∨ (r = 0 ∧ ∃ k, k < wn ∧ g2 k &&& (gf k ^^^ (-1)) ≠ 0)) (hex : (i.toInt = 1 ↔ ((m0 &&& (f0 ^^^ (-1))).toInt = 0 ∧ (n ≤ 64 ∨ (m1 &&& (f1 ^^^ (-1))).toInt = 0))) ∧ (i.toInt = 0 ∨ i.toInt = 1)) : r.toInt = i.toInt := by
  have z0 : (0 : Int64).toInt = 0 := by decide
  have o1 : (1 : Int32).toInt = 1 := by decide
  have o0 : (0 : Int32).toInt = 0 := by decide
  rcases hr with ⟨rfl, q⟩ | ⟨rfl, k, hk, q⟩
  · have a := q 0 (by omega); rw [hg0, hf0] at a
    have b : n ≤ 64 ∨ (m1 &&& (f1 ^^^ (-1))).toInt = 0 := by
      by_cases c : n ≤ 64
      · exact Or.inl c
      · have d := q 1 (by omega); rw [hg1, hf1 (by omega)] at d; exact Or.inr (by rw [d, z0])
    rw [hex.1.mpr ⟨by rw [a, z0], b⟩, o1]
  · have nz : ∀ x : Int64, x ≠ 0 → x.toInt ≠ 0 := fun x hx e => hx (own_z e)
    rcases (show k = 0 ∨ (k = 1 ∧ 64 < n) by omega) with rfl | ⟨rfl, c⟩
    · rw [hg0, hf0] at q; have := nz _ q; omega
    · rw [hg1, hf1 c] at q; have := nz _ q; omega
theorem d1_0 : decode prog_29_method_1_code 0 = .ok (.aload_n 0, 1) := by decide +kernel
theorem d1_1 : decode prog_29_method_1_code 1 = .ok (.invokespecial 1, 3) := by decide +kernel
theorem d1_4 : decode prog_29_method_1_code 4 = .ok (.aload_n 0, 1) := by decide +kernel
theorem d1_5 : decode prog_29_method_1_code 5 = .ok (.bipush 16, 2) := by decide +kernel
theorem d1_7 : decode prog_29_method_1_code 7 = .ok (.newarray .long, 2) := by decide +kernel
theorem d1_9 : decode prog_29_method_1_code 9 = .ok (.putfield 7, 3) := by decide +kernel
theorem d1_12 : decode prog_29_method_1_code 12 = .ok (.aload_n 0, 1) := by decide +kernel
theorem d1_13 : decode prog_29_method_1_code 13 = .ok (.bipush 16, 2) := by decide +kernel
theorem d1_15 : decode prog_29_method_1_code 15 = .ok (.anewarray 13, 3) := by decide +kernel
theorem d1_18 : decode prog_29_method_1_code 18 = .ok (.putfield 15, 3) := by decide +kernel
theorem d1_21 : decode prog_29_method_1_code 21 = .ok (.aload_n 0, 1) := by decide +kernel
theorem d1_22 : decode prog_29_method_1_code 22 = .ok (.bipush 16, 2) := by decide +kernel
theorem d1_24 : decode prog_29_method_1_code 24 = .ok (.newarray .int, 2) := by decide +kernel
theorem d1_26 : decode prog_29_method_1_code 26 = .ok (.putfield 19, 3) := by decide +kernel
theorem d1_29 : decode prog_29_method_1_code 29 = .ok (.aload_n 0, 1) := by decide +kernel
theorem d1_30 : decode prog_29_method_1_code 30 = .ok (.ldc2_w 25, 3) := by decide +kernel
theorem d1_33 : decode prog_29_method_1_code 33 = .ok (.putfield 27, 3) := by decide +kernel
theorem d1_36 : decode prog_29_method_1_code 36 = .ok (.aload_n 0, 1) := by decide +kernel
theorem d1_37 : decode prog_29_method_1_code 37 = .ok (.lconst 1, 1) := by decide +kernel
theorem d1_38 : decode prog_29_method_1_code 38 = .ok (.putfield 31, 3) := by decide +kernel
theorem d1_41 : decode prog_29_method_1_code 41 = .ok (.aload_n 0, 1) := by decide +kernel
theorem d1_42 : decode prog_29_method_1_code 42 = .ok (.ldc2_w 34, 3) := by decide +kernel
theorem d1_45 : decode prog_29_method_1_code 45 = .ok (.putfield 36, 3) := by decide +kernel
theorem d1_48 : decode prog_29_method_1_code 48 = .ok (.aload_n 0, 1) := by decide +kernel
theorem d1_49 : decode prog_29_method_1_code 49 = .ok (.ldc2_w 25, 3) := by decide +kernel
theorem d1_52 : decode prog_29_method_1_code 52 = .ok (.putfield 39, 3) := by decide +kernel
theorem d1_55 : decode prog_29_method_1_code 55 = .ok (.aload_n 0, 1) := by decide +kernel
theorem d1_56 : decode prog_29_method_1_code 56 = .ok (.iload_n 1, 1) := by decide +kernel
theorem d1_57 : decode prog_29_method_1_code 57 = .ok (.putfield 42, 3) := by decide +kernel
theorem d1_60 : decode prog_29_method_1_code 60 = .ok (.aload_n 0, 1) := by decide +kernel
theorem d1_61 : decode prog_29_method_1_code 61 = .ok (.iload_n 1, 1) := by decide +kernel
theorem d1_62 : decode prog_29_method_1_code 62 = .ok (.bipush 64, 2) := by decide +kernel
theorem d1_64 : decode prog_29_method_1_code 64 = .ok (.iadd, 1) := by decide +kernel
theorem d1_65 : decode prog_29_method_1_code 65 = .ok (.iconst 1, 1) := by decide +kernel
theorem d1_66 : decode prog_29_method_1_code 66 = .ok (.isub, 1) := by decide +kernel
theorem d1_67 : decode prog_29_method_1_code 67 = .ok (.bipush 64, 2) := by decide +kernel
theorem d1_69 : decode prog_29_method_1_code 69 = .ok (.idiv, 1) := by decide +kernel
theorem d1_70 : decode prog_29_method_1_code 70 = .ok (.putfield 46, 3) := by decide +kernel
theorem d1_73 : decode prog_29_method_1_code 73 = .ok (.aload_n 0, 1) := by decide +kernel
theorem d1_74 : decode prog_29_method_1_code 74 = .ok (.iload_n 1, 1) := by decide +kernel
theorem d1_75 : decode prog_29_method_1_code 75 = .ok (.bipush 64, 2) := by decide +kernel
theorem d1_77 : decode prog_29_method_1_code 77 = .ok (.irem, 1) := by decide +kernel
theorem d1_78 : decode prog_29_method_1_code 78 = .ok (.ifCond .ne 9, 3) := by decide +kernel
theorem d1_81 : decode prog_29_method_1_code 81 = .ok (.ldc2_w 49, 3) := by decide +kernel
theorem d1_84 : decode prog_29_method_1_code 84 = .ok (.goto 11, 3) := by decide +kernel
theorem d1_87 : decode prog_29_method_1_code 87 = .ok (.lconst 1, 1) := by decide +kernel
theorem d1_88 : decode prog_29_method_1_code 88 = .ok (.iload_n 1, 1) := by decide +kernel
theorem d1_89 : decode prog_29_method_1_code 89 = .ok (.bipush 64, 2) := by decide +kernel
theorem d1_91 : decode prog_29_method_1_code 91 = .ok (.irem, 1) := by decide +kernel
theorem d1_92 : decode prog_29_method_1_code 92 = .ok (.lshl, 1) := by decide +kernel
theorem d1_93 : decode prog_29_method_1_code 93 = .ok (.lconst 1, 1) := by decide +kernel
theorem d1_94 : decode prog_29_method_1_code 94 = .ok (.lsub, 1) := by decide +kernel
theorem d1_95 : decode prog_29_method_1_code 95 = .ok (.putfield 51, 3) := by decide +kernel
theorem d1_98 : decode prog_29_method_1_code 98 = .ok (.aload_n 0, 1) := by decide +kernel
theorem d1_99 : decode prog_29_method_1_code 99 = .ok (.aload_n 0, 1) := by decide +kernel
theorem d1_100 : decode prog_29_method_1_code 100 = .ok (.getfield 46, 3) := by decide +kernel
theorem d1_103 : decode prog_29_method_1_code 103 = .ok (.newarray .long, 2) := by decide +kernel
theorem d1_105 : decode prog_29_method_1_code 105 = .ok (.putfield 54, 3) := by decide +kernel
theorem d1_108 : decode prog_29_method_1_code 108 = .ok (.aload_n 0, 1) := by decide +kernel
theorem d1_109 : decode prog_29_method_1_code 109 = .ok (.aload_n 0, 1) := by decide +kernel
theorem d1_110 : decode prog_29_method_1_code 110 = .ok (.getfield 46, 3) := by decide +kernel
theorem d1_113 : decode prog_29_method_1_code 113 = .ok (.newarray .long, 2) := by decide +kernel
theorem d1_115 : decode prog_29_method_1_code 115 = .ok (.putfield 57, 3) := by decide +kernel
theorem d1_118 : decode prog_29_method_1_code 118 = .ok (.aload_n 0, 1) := by decide +kernel
theorem d1_119 : decode prog_29_method_1_code 119 = .ok (.aload_n 0, 1) := by decide +kernel
theorem d1_120 : decode prog_29_method_1_code 120 = .ok (.getfield 46, 3) := by decide +kernel
theorem d1_123 : decode prog_29_method_1_code 123 = .ok (.newarray .long, 2) := by decide +kernel
theorem d1_125 : decode prog_29_method_1_code 125 = .ok (.putfield 60, 3) := by decide +kernel
theorem d1_128 : decode prog_29_method_1_code 128 = .ok (.aload_n 0, 1) := by decide +kernel
theorem d1_129 : decode prog_29_method_1_code 129 = .ok (.aload_n 0, 1) := by decide +kernel
theorem d1_130 : decode prog_29_method_1_code 130 = .ok (.getfield 46, 3) := by decide +kernel
theorem d1_133 : decode prog_29_method_1_code 133 = .ok (.newarray .long, 2) := by decide +kernel
theorem d1_135 : decode prog_29_method_1_code 135 = .ok (.putfield 63, 3) := by decide +kernel
theorem d1_138 : decode prog_29_method_1_code 138 = .ok (.aload_n 0, 1) := by decide +kernel
theorem d1_139 : decode prog_29_method_1_code 139 = .ok (.iload_n 1, 1) := by decide +kernel
theorem d1_140 : decode prog_29_method_1_code 140 = .ok (.iconst 1, 1) := by decide +kernel
theorem d1_141 : decode prog_29_method_1_code 141 = .ok (.iadd, 1) := by decide +kernel
theorem d1_142 : decode prog_29_method_1_code 142 = .ok (.anewarray 66, 3) := by decide +kernel
theorem d1_145 : decode prog_29_method_1_code 145 = .ok (.putfield 68, 3) := by decide +kernel
theorem d1_148 : decode prog_29_method_1_code 148 = .ok (.return_, 1) := by decide +kernel
theorem d3_0 : decode prog_29_method_2_code 0 = .ok (.aload_n 0, 1) := by decide +kernel
theorem d3_1 : decode prog_29_method_2_code 1 = .ok (.lload_n 1, 1) := by decide +kernel
theorem d3_2 : decode prog_29_method_2_code 2 = .ok (.lload_n 3, 1) := by decide +kernel
theorem d3_3 : decode prog_29_method_2_code 3 = .ok (.aload 5, 2) := by decide +kernel
theorem d3_5 : decode prog_29_method_2_code 5 = .ok (.aload_n 0, 1) := by decide +kernel
theorem d3_6 : decode prog_29_method_2_code 6 = .ok (.aload 5, 2) := by decide +kernel
theorem d3_8 : decode prog_29_method_2_code 8 = .ok (.invokevirtual 72, 3) := by decide +kernel
theorem d3_11 : decode prog_29_method_2_code 11 = .ok (.iconst 1, 1) := by decide +kernel
theorem d3_12 : decode prog_29_method_2_code 12 = .ok (.iconst 1, 1) := by decide +kernel
theorem d3_13 : decode prog_29_method_2_code 13 = .ok (.invokevirtual 76, 3) := by decide +kernel
theorem d3_16 : decode prog_29_method_2_code 16 = .ok (.return_, 1) := by decide +kernel
theorem d4_0 : decode prog_29_method_7_code 0 = .ok (.aload_n 0, 1) := by decide +kernel
theorem d4_1 : decode prog_29_method_7_code 1 = .ok (.getfield 46, 3) := by decide +kernel
theorem d4_4 : decode prog_29_method_7_code 4 = .ok (.newarray .long, 2) := by decide +kernel
theorem d4_6 : decode prog_29_method_7_code 6 = .ok (.astore_n 2, 1) := by decide +kernel
theorem d4_7 : decode prog_29_method_7_code 7 = .ok (.aload_n 1, 1) := by decide +kernel
theorem d4_8 : decode prog_29_method_7_code 8 = .ok (.astore_n 3, 1) := by decide +kernel
theorem d4_9 : decode prog_29_method_7_code 9 = .ok (.aload_n 3, 1) := by decide +kernel
theorem d4_10 : decode prog_29_method_7_code 10 = .ok (.arraylength, 1) := by decide +kernel
theorem d4_11 : decode prog_29_method_7_code 11 = .ok (.istore 4, 2) := by decide +kernel
theorem d4_13 : decode prog_29_method_7_code 13 = .ok (.iconst 0, 1) := by decide +kernel
theorem d4_14 : decode prog_29_method_7_code 14 = .ok (.istore 5, 2) := by decide +kernel
theorem d4_16 : decode prog_29_method_7_code 16 = .ok (.iload 5, 2) := by decide +kernel
theorem d4_18 : decode prog_29_method_7_code 18 = .ok (.iload 4, 2) := by decide +kernel
theorem d4_20 : decode prog_29_method_7_code 20 = .ok (.if_icmp .ge 29, 3) := by decide +kernel
theorem d4_23 : decode prog_29_method_7_code 23 = .ok (.aload_n 3, 1) := by decide +kernel
theorem d4_24 : decode prog_29_method_7_code 24 = .ok (.iload 5, 2) := by decide +kernel
theorem d4_26 : decode prog_29_method_7_code 26 = .ok (.iaload, 1) := by decide +kernel
theorem d4_27 : decode prog_29_method_7_code 27 = .ok (.istore 6, 2) := by decide +kernel
theorem d4_29 : decode prog_29_method_7_code 29 = .ok (.aload_n 2, 1) := by decide +kernel
theorem d4_30 : decode prog_29_method_7_code 30 = .ok (.iload 6, 2) := by decide +kernel
theorem d4_32 : decode prog_29_method_7_code 32 = .ok (.bipush 64, 2) := by decide +kernel
theorem d4_34 : decode prog_29_method_7_code 34 = .ok (.idiv, 1) := by decide +kernel
theorem d4_35 : decode prog_29_method_7_code 35 = .ok (.dup2, 1) := by decide +kernel
theorem d4_36 : decode prog_29_method_7_code 36 = .ok (.laload, 1) := by decide +kernel
theorem d4_37 : decode prog_29_method_7_code 37 = .ok (.lconst 1, 1) := by decide +kernel
theorem d4_38 : decode prog_29_method_7_code 38 = .ok (.iload 6, 2) := by decide +kernel
theorem d4_40 : decode prog_29_method_7_code 40 = .ok (.lshl, 1) := by decide +kernel
theorem d4_41 : decode prog_29_method_7_code 41 = .ok (.lor, 1) := by decide +kernel
theorem d4_42 : decode prog_29_method_7_code 42 = .ok (.lastore, 1) := by decide +kernel
theorem d4_43 : decode prog_29_method_7_code 43 = .ok (.iinc 5 1, 3) := by decide +kernel
theorem d4_46 : decode prog_29_method_7_code 46 = .ok (.goto (-30), 3) := by decide +kernel
theorem d4_49 : decode prog_29_method_7_code 49 = .ok (.aload_n 2, 1) := by decide +kernel
theorem d4_50 : decode prog_29_method_7_code 50 = .ok (.areturn, 1) := by decide +kernel
theorem d5_0 : decode prog_29_method_32_code 0 = .ok (.iload 7, 2) := by decide +kernel
theorem d5_2 : decode prog_29_method_32_code 2 = .ok (.ifCond .ne 13, 3) := by decide +kernel
theorem d5_5 : decode prog_29_method_32_code 5 = .ok (.aload_n 0, 1) := by decide +kernel
theorem d5_6 : decode prog_29_method_32_code 6 = .ok (.dup, 1) := by decide +kernel
theorem d5_7 : decode prog_29_method_32_code 7 = .ok (.getfield 31, 3) := by decide +kernel
theorem d5_10 : decode prog_29_method_32_code 10 = .ok (.lconst 1, 1) := by decide +kernel
theorem d5_11 : decode prog_29_method_32_code 11 = .ok (.ladd, 1) := by decide +kernel
theorem d5_12 : decode prog_29_method_32_code 12 = .ok (.putfield 31, 3) := by decide +kernel
theorem d5_15 : decode prog_29_method_32_code 15 = .ok (.lload_n 1, 1) := by decide +kernel
theorem d5_16 : decode prog_29_method_32_code 16 = .ok (.lload_n 3, 1) := by decide +kernel
theorem d5_17 : decode prog_29_method_32_code 17 = .ok (.lcmp, 1) := by decide +kernel
theorem d5_18 : decode prog_29_method_32_code 18 = .ok (.ifCond .ne 26, 3) := by decide +kernel
theorem d5_21 : decode prog_29_method_32_code 21 = .ok (.lload_n 1, 1) := by decide +kernel
theorem d5_22 : decode prog_29_method_32_code 22 = .ok (.aload_n 0, 1) := by decide +kernel
theorem d5_23 : decode prog_29_method_32_code 23 = .ok (.getfield 27, 3) := by decide +kernel
theorem d5_26 : decode prog_29_method_32_code 26 = .ok (.lcmp, 1) := by decide +kernel
theorem d5_27 : decode prog_29_method_32_code 27 = .ok (.ifCond .le 146, 3) := by decide +kernel
theorem d5_30 : decode prog_29_method_32_code 30 = .ok (.aload_n 0, 1) := by decide +kernel
theorem d5_31 : decode prog_29_method_32_code 31 = .ok (.lload_n 1, 1) := by decide +kernel
theorem d5_32 : decode prog_29_method_32_code 32 = .ok (.aload 5, 2) := by decide +kernel
theorem d5_34 : decode prog_29_method_32_code 34 = .ok (.iload 7, 2) := by decide +kernel
theorem d5_36 : decode prog_29_method_32_code 36 = .ok (.iload 8, 2) := by decide +kernel
theorem d5_38 : decode prog_29_method_32_code 38 = .ok (.invokevirtual 249, 3) := by decide +kernel
theorem d5_41 : decode prog_29_method_32_code 41 = .ok (.goto 132, 3) := by decide +kernel
theorem d5_44 : decode prog_29_method_32_code 44 = .ok (.lload_n 3, 1) := by decide +kernel
theorem d5_45 : decode prog_29_method_32_code 45 = .ok (.aload_n 0, 1) := by decide +kernel
theorem d5_46 : decode prog_29_method_32_code 46 = .ok (.getfield 27, 3) := by decide +kernel
theorem d5_49 : decode prog_29_method_32_code 49 = .ok (.lcmp, 1) := by decide +kernel
theorem d5_50 : decode prog_29_method_32_code 50 = .ok (.ifCond .le 123, 3) := by decide +kernel
theorem d5_53 : decode prog_29_method_32_code 53 = .ok (.aload_n 0, 1) := by decide +kernel
theorem d5_54 : decode prog_29_method_32_code 54 = .ok (.lload_n 1, 1) := by decide +kernel
theorem d5_55 : decode prog_29_method_32_code 55 = .ok (.aload_n 0, 1) := by decide +kernel
theorem d5_56 : decode prog_29_method_32_code 56 = .ok (.getfield 27, 3) := by decide +kernel
theorem d5_59 : decode prog_29_method_32_code 59 = .ok (.invokestatic 86, 3) := by decide +kernel
theorem d5_62 : decode prog_29_method_32_code 62 = .ok (.invokevirtual 223, 3) := by decide +kernel
theorem d5_65 : decode prog_29_method_32_code 65 = .ok (.istore 9, 2) := by decide +kernel
theorem d5_67 : decode prog_29_method_32_code 67 = .ok (.aload_n 0, 1) := by decide +kernel
theorem d5_68 : decode prog_29_method_32_code 68 = .ok (.lload_n 3, 1) := by decide +kernel
theorem d5_69 : decode prog_29_method_32_code 69 = .ok (.invokevirtual 223, 3) := by decide +kernel
theorem d5_72 : decode prog_29_method_32_code 72 = .ok (.istore 10, 2) := by decide +kernel
theorem d5_74 : decode prog_29_method_32_code 74 = .ok (.iload 9, 2) := by decide +kernel
theorem d5_76 : decode prog_29_method_32_code 76 = .ok (.istore 11, 2) := by decide +kernel
theorem d5_78 : decode prog_29_method_32_code 78 = .ok (.iload 11, 2) := by decide +kernel
theorem d5_80 : decode prog_29_method_32_code 80 = .ok (.iload 10, 2) := by decide +kernel
theorem d5_82 : decode prog_29_method_32_code 82 = .ok (.if_icmp .ge 56, 3) := by decide +kernel
theorem d5_85 : decode prog_29_method_32_code 85 = .ok (.aload_n 0, 1) := by decide +kernel
theorem d5_86 : decode prog_29_method_32_code 86 = .ok (.getfield 15, 3) := by decide +kernel
theorem d5_89 : decode prog_29_method_32_code 89 = .ok (.iload 11, 2) := by decide +kernel
theorem d5_91 : decode prog_29_method_32_code 91 = .ok (.aaload, 1) := by decide +kernel
theorem d5_92 : decode prog_29_method_32_code 92 = .ok (.astore 12, 2) := by decide +kernel
theorem d5_94 : decode prog_29_method_32_code 94 = .ok (.aload_n 0, 1) := by decide +kernel
theorem d5_95 : decode prog_29_method_32_code 95 = .ok (.aload 12, 2) := by decide +kernel
theorem d5_97 : decode prog_29_method_32_code 97 = .ok (.getfield 185, 3) := by decide +kernel
theorem d5_100 : decode prog_29_method_32_code 100 = .ok (.aload 6, 2) := by decide +kernel
theorem d5_102 : decode prog_29_method_32_code 102 = .ok (.iload 7, 2) := by decide +kernel
theorem d5_104 : decode prog_29_method_32_code 104 = .ok (.invokevirtual 219, 3) := by decide +kernel
theorem d5_107 : decode prog_29_method_32_code 107 = .ok (.aload_n 0, 1) := by decide +kernel
theorem d5_108 : decode prog_29_method_32_code 108 = .ok (.getfield 19, 3) := by decide +kernel
theorem d5_111 : decode prog_29_method_32_code 111 = .ok (.iload 11, 2) := by decide +kernel
theorem d5_113 : decode prog_29_method_32_code 113 = .ok (.dup2, 1) := by decide +kernel
theorem d5_114 : decode prog_29_method_32_code 114 = .ok (.iaload, 1) := by decide +kernel
theorem d5_115 : decode prog_29_method_32_code 115 = .ok (.iload 7, 2) := by decide +kernel
theorem d5_117 : decode prog_29_method_32_code 117 = .ok (.ifCond .eq 10, 3) := by decide +kernel
theorem d5_120 : decode prog_29_method_32_code 120 = .ok (.aload 5, 2) := by decide +kernel
theorem d5_122 : decode prog_29_method_32_code 122 = .ok (.arraylength, 1) := by decide +kernel
theorem d5_123 : decode prog_29_method_32_code 123 = .ok (.ineg, 1) := by decide +kernel
theorem d5_124 : decode prog_29_method_32_code 124 = .ok (.goto 6, 3) := by decide +kernel
theorem d5_127 : decode prog_29_method_32_code 127 = .ok (.aload 5, 2) := by decide +kernel
theorem d5_129 : decode prog_29_method_32_code 129 = .ok (.arraylength, 1) := by decide +kernel
theorem d5_130 : decode prog_29_method_32_code 130 = .ok (.iadd, 1) := by decide +kernel
theorem d5_131 : decode prog_29_method_32_code 131 = .ok (.iastore, 1) := by decide +kernel
theorem d5_132 : decode prog_29_method_32_code 132 = .ok (.iinc 11 1, 3) := by decide +kernel
theorem d5_135 : decode prog_29_method_32_code 135 = .ok (.goto (-57), 3) := by decide +kernel
theorem d5_138 : decode prog_29_method_32_code 138 = .ok (.aload_n 0, 1) := by decide +kernel
theorem d5_139 : decode prog_29_method_32_code 139 = .ok (.aload_n 0, 1) := by decide +kernel
theorem d5_140 : decode prog_29_method_32_code 140 = .ok (.getfield 15, 3) := by decide +kernel
theorem d5_143 : decode prog_29_method_32_code 143 = .ok (.iload 10, 2) := by decide +kernel
theorem d5_145 : decode prog_29_method_32_code 145 = .ok (.aaload, 1) := by decide +kernel
theorem d5_146 : decode prog_29_method_32_code 146 = .ok (.getfield 110, 3) := by decide +kernel
theorem d5_149 : decode prog_29_method_32_code 149 = .ok (.aload 6, 2) := by decide +kernel
theorem d5_151 : decode prog_29_method_32_code 151 = .ok (.iload 7, 2) := by decide +kernel
theorem d5_153 : decode prog_29_method_32_code 153 = .ok (.invokevirtual 219, 3) := by decide +kernel
theorem d5_156 : decode prog_29_method_32_code 156 = .ok (.iload 8, 2) := by decide +kernel
theorem d5_158 : decode prog_29_method_32_code 158 = .ok (.ifCond .eq 15, 3) := by decide +kernel
theorem d5_161 : decode prog_29_method_32_code 161 = .ok (.aload_n 0, 1) := by decide +kernel
theorem d5_162 : decode prog_29_method_32_code 162 = .ok (.iload 10, 2) := by decide +kernel
theorem d5_164 : decode prog_29_method_32_code 164 = .ok (.invokevirtual 119, 3) := by decide +kernel
theorem d5_167 : decode prog_29_method_32_code 167 = .ok (.aload_n 0, 1) := by decide +kernel
theorem d5_168 : decode prog_29_method_32_code 168 = .ok (.iload 9, 2) := by decide +kernel
theorem d5_170 : decode prog_29_method_32_code 170 = .ok (.invokevirtual 119, 3) := by decide +kernel
theorem d5_173 : decode prog_29_method_32_code 173 = .ok (.return_, 1) := by decide +kernel
theorem d6_0 : decode jdk_29_method_66_code 0 = .ok (.lload_n 0, 1) := by decide +kernel
theorem d6_1 : decode jdk_29_method_66_code 1 = .ok (.lload_n 2, 1) := by decide +kernel
theorem d6_2 : decode jdk_29_method_66_code 2 = .ok (.lcmp, 1) := by decide +kernel
theorem d6_3 : decode jdk_29_method_66_code 3 = .ok (.ifCond .lt 7, 3) := by decide +kernel
theorem d6_6 : decode jdk_29_method_66_code 6 = .ok (.lload_n 0, 1) := by decide +kernel
theorem d6_7 : decode jdk_29_method_66_code 7 = .ok (.goto 4, 3) := by decide +kernel
theorem d6_10 : decode jdk_29_method_66_code 10 = .ok (.lload_n 2, 1) := by decide +kernel
theorem d6_11 : decode jdk_29_method_66_code 11 = .ok (.lreturn, 1) := by decide +kernel
theorem d7_0 : decode prog_29_method_35_code 0 = .ok (.aload_n 0, 1) := by decide +kernel
theorem d7_1 : decode prog_29_method_35_code 1 = .ok (.lload_n 1, 1) := by decide +kernel
theorem d7_2 : decode prog_29_method_35_code 2 = .ok (.invokevirtual 89, 3) := by decide +kernel
theorem d7_5 : decode prog_29_method_35_code 5 = .ok (.istore_n 3, 1) := by decide +kernel
theorem d7_6 : decode prog_29_method_35_code 6 = .ok (.iload_n 3, 1) := by decide +kernel
theorem d7_7 : decode prog_29_method_35_code 7 = .ok (.ifCond .lt 16, 3) := by decide +kernel
theorem d7_10 : decode prog_29_method_35_code 10 = .ok (.aload_n 0, 1) := by decide +kernel
theorem d7_11 : decode prog_29_method_35_code 11 = .ok (.getfield 7, 3) := by decide +kernel
theorem d7_14 : decode prog_29_method_35_code 14 = .ok (.iload_n 3, 1) := by decide +kernel
theorem d7_15 : decode prog_29_method_35_code 15 = .ok (.laload, 1) := by decide +kernel
theorem d7_16 : decode prog_29_method_35_code 16 = .ok (.lload_n 1, 1) := by decide +kernel
theorem d7_17 : decode prog_29_method_35_code 17 = .ok (.lcmp, 1) := by decide +kernel
theorem d7_18 : decode prog_29_method_35_code 18 = .ok (.ifCond .ne 5, 3) := by decide +kernel
theorem d7_21 : decode prog_29_method_35_code 21 = .ok (.iload_n 3, 1) := by decide +kernel
theorem d7_22 : decode prog_29_method_35_code 22 = .ok (.ireturn, 1) := by decide +kernel
theorem d7_23 : decode prog_29_method_35_code 23 = .ok (.iinc 3 1, 3) := by decide +kernel
theorem d7_26 : decode prog_29_method_35_code 26 = .ok (.aload_n 0, 1) := by decide +kernel
theorem d7_27 : decode prog_29_method_35_code 27 = .ok (.getfield 188, 3) := by decide +kernel
theorem d7_30 : decode prog_29_method_35_code 30 = .ok (.aload_n 0, 1) := by decide +kernel
theorem d7_31 : decode prog_29_method_35_code 31 = .ok (.getfield 7, 3) := by decide +kernel
theorem d7_34 : decode prog_29_method_35_code 34 = .ok (.arraylength, 1) := by decide +kernel
theorem d7_35 : decode prog_29_method_35_code 35 = .ok (.if_icmp .ne 57, 3) := by decide +kernel
theorem d7_38 : decode prog_29_method_35_code 38 = .ok (.aload_n 0, 1) := by decide +kernel
theorem d7_39 : decode prog_29_method_35_code 39 = .ok (.aload_n 0, 1) := by decide +kernel
theorem d7_40 : decode prog_29_method_35_code 40 = .ok (.getfield 7, 3) := by decide +kernel
theorem d7_43 : decode prog_29_method_35_code 43 = .ok (.iconst 2, 1) := by decide +kernel
theorem d7_44 : decode prog_29_method_35_code 44 = .ok (.aload_n 0, 1) := by decide +kernel
theorem d7_45 : decode prog_29_method_35_code 45 = .ok (.getfield 188, 3) := by decide +kernel
theorem d7_48 : decode prog_29_method_35_code 48 = .ok (.imul, 1) := by decide +kernel
theorem d7_49 : decode prog_29_method_35_code 49 = .ok (.invokestatic 253, 3) := by decide +kernel
theorem d7_52 : decode prog_29_method_35_code 52 = .ok (.putfield 7, 3) := by decide +kernel
theorem d7_55 : decode prog_29_method_35_code 55 = .ok (.aload_n 0, 1) := by decide +kernel
theorem d7_56 : decode prog_29_method_35_code 56 = .ok (.aload_n 0, 1) := by decide +kernel
theorem d7_57 : decode prog_29_method_35_code 57 = .ok (.getfield 15, 3) := by decide +kernel
theorem d7_60 : decode prog_29_method_35_code 60 = .ok (.iconst 2, 1) := by decide +kernel
theorem d7_61 : decode prog_29_method_35_code 61 = .ok (.aload_n 0, 1) := by decide +kernel
theorem d7_62 : decode prog_29_method_35_code 62 = .ok (.getfield 188, 3) := by decide +kernel
theorem d7_65 : decode prog_29_method_35_code 65 = .ok (.imul, 1) := by decide +kernel
theorem d7_66 : decode prog_29_method_35_code 66 = .ok (.invokestatic 257, 3) := by decide +kernel
theorem d7_69 : decode prog_29_method_35_code 69 = .ok (.checkcast 260, 3) := by decide +kernel
theorem d7_72 : decode prog_29_method_35_code 72 = .ok (.putfield 15, 3) := by decide +kernel
theorem d7_75 : decode prog_29_method_35_code 75 = .ok (.aload_n 0, 1) := by decide +kernel
theorem d7_76 : decode prog_29_method_35_code 76 = .ok (.aload_n 0, 1) := by decide +kernel
theorem d7_77 : decode prog_29_method_35_code 77 = .ok (.getfield 19, 3) := by decide +kernel
theorem d7_80 : decode prog_29_method_35_code 80 = .ok (.iconst 2, 1) := by decide +kernel
theorem d7_81 : decode prog_29_method_35_code 81 = .ok (.aload_n 0, 1) := by decide +kernel
theorem d7_82 : decode prog_29_method_35_code 82 = .ok (.getfield 188, 3) := by decide +kernel
theorem d7_85 : decode prog_29_method_35_code 85 = .ok (.imul, 1) := by decide +kernel
theorem d7_86 : decode prog_29_method_35_code 86 = .ok (.invokestatic 261, 3) := by decide +kernel
theorem d7_89 : decode prog_29_method_35_code 89 = .ok (.putfield 19, 3) := by decide +kernel
theorem d7_92 : decode prog_29_method_35_code 92 = .ok (.aload_n 0, 1) := by decide +kernel
theorem d7_93 : decode prog_29_method_35_code 93 = .ok (.getfield 7, 3) := by decide +kernel
theorem d7_96 : decode prog_29_method_35_code 96 = .ok (.iload_n 3, 1) := by decide +kernel
theorem d7_97 : decode prog_29_method_35_code 97 = .ok (.aload_n 0, 1) := by decide +kernel
theorem d7_98 : decode prog_29_method_35_code 98 = .ok (.getfield 7, 3) := by decide +kernel
theorem d7_101 : decode prog_29_method_35_code 101 = .ok (.iload_n 3, 1) := by decide +kernel
theorem d7_102 : decode prog_29_method_35_code 102 = .ok (.iconst 1, 1) := by decide +kernel
theorem d7_103 : decode prog_29_method_35_code 103 = .ok (.iadd, 1) := by decide +kernel
theorem d7_104 : decode prog_29_method_35_code 104 = .ok (.aload_n 0, 1) := by decide +kernel
theorem d7_105 : decode prog_29_method_35_code 105 = .ok (.getfield 188, 3) := by decide +kernel
theorem d7_108 : decode prog_29_method_35_code 108 = .ok (.iload_n 3, 1) := by decide +kernel
theorem d7_109 : decode prog_29_method_35_code 109 = .ok (.isub, 1) := by decide +kernel
theorem d7_110 : decode prog_29_method_35_code 110 = .ok (.invokestatic 172, 3) := by decide +kernel
theorem d7_113 : decode prog_29_method_35_code 113 = .ok (.aload_n 0, 1) := by decide +kernel
theorem d7_114 : decode prog_29_method_35_code 114 = .ok (.getfield 15, 3) := by decide +kernel
theorem d7_117 : decode prog_29_method_35_code 117 = .ok (.iload_n 3, 1) := by decide +kernel
theorem d7_118 : decode prog_29_method_35_code 118 = .ok (.aload_n 0, 1) := by decide +kernel
theorem d7_119 : decode prog_29_method_35_code 119 = .ok (.getfield 15, 3) := by decide +kernel
theorem d7_122 : decode prog_29_method_35_code 122 = .ok (.iload_n 3, 1) := by decide +kernel
theorem d7_123 : decode prog_29_method_35_code 123 = .ok (.iconst 1, 1) := by decide +kernel
theorem d7_124 : decode prog_29_method_35_code 124 = .ok (.iadd, 1) := by decide +kernel
theorem d7_125 : decode prog_29_method_35_code 125 = .ok (.aload_n 0, 1) := by decide +kernel
theorem d7_126 : decode prog_29_method_35_code 126 = .ok (.getfield 188, 3) := by decide +kernel
theorem d7_129 : decode prog_29_method_35_code 129 = .ok (.iload_n 3, 1) := by decide +kernel
theorem d7_130 : decode prog_29_method_35_code 130 = .ok (.isub, 1) := by decide +kernel
theorem d7_131 : decode prog_29_method_35_code 131 = .ok (.invokestatic 172, 3) := by decide +kernel
theorem d7_134 : decode prog_29_method_35_code 134 = .ok (.aload_n 0, 1) := by decide +kernel
theorem d7_135 : decode prog_29_method_35_code 135 = .ok (.getfield 19, 3) := by decide +kernel
theorem d7_138 : decode prog_29_method_35_code 138 = .ok (.iload_n 3, 1) := by decide +kernel
theorem d7_139 : decode prog_29_method_35_code 139 = .ok (.aload_n 0, 1) := by decide +kernel
theorem d7_140 : decode prog_29_method_35_code 140 = .ok (.getfield 19, 3) := by decide +kernel
theorem d7_143 : decode prog_29_method_35_code 143 = .ok (.iload_n 3, 1) := by decide +kernel
theorem d7_144 : decode prog_29_method_35_code 144 = .ok (.iconst 1, 1) := by decide +kernel
theorem d7_145 : decode prog_29_method_35_code 145 = .ok (.iadd, 1) := by decide +kernel
theorem d7_146 : decode prog_29_method_35_code 146 = .ok (.aload_n 0, 1) := by decide +kernel
theorem d7_147 : decode prog_29_method_35_code 147 = .ok (.getfield 188, 3) := by decide +kernel
theorem d7_150 : decode prog_29_method_35_code 150 = .ok (.iload_n 3, 1) := by decide +kernel
theorem d7_151 : decode prog_29_method_35_code 151 = .ok (.isub, 1) := by decide +kernel
theorem d7_152 : decode prog_29_method_35_code 152 = .ok (.invokestatic 172, 3) := by decide +kernel
theorem d7_155 : decode prog_29_method_35_code 155 = .ok (.aload_n 0, 1) := by decide +kernel
theorem d7_156 : decode prog_29_method_35_code 156 = .ok (.dup, 1) := by decide +kernel
theorem d7_157 : decode prog_29_method_35_code 157 = .ok (.getfield 188, 3) := by decide +kernel
theorem d7_160 : decode prog_29_method_35_code 160 = .ok (.iconst 1, 1) := by decide +kernel
theorem d7_161 : decode prog_29_method_35_code 161 = .ok (.iadd, 1) := by decide +kernel
theorem d7_162 : decode prog_29_method_35_code 162 = .ok (.putfield 188, 3) := by decide +kernel
theorem d7_165 : decode prog_29_method_35_code 165 = .ok (.aload_n 0, 1) := by decide +kernel
theorem d7_166 : decode prog_29_method_35_code 166 = .ok (.getfield 7, 3) := by decide +kernel
theorem d7_169 : decode prog_29_method_35_code 169 = .ok (.iload_n 3, 1) := by decide +kernel
theorem d7_170 : decode prog_29_method_35_code 170 = .ok (.lload_n 1, 1) := by decide +kernel
theorem d7_171 : decode prog_29_method_35_code 171 = .ok (.lastore, 1) := by decide +kernel
theorem d7_172 : decode prog_29_method_35_code 172 = .ok (.iload_n 3, 1) := by decide +kernel
theorem d7_173 : decode prog_29_method_35_code 173 = .ok (.ifCond .le 14, 3) := by decide +kernel
theorem d7_176 : decode prog_29_method_35_code 176 = .ok (.aload_n 0, 1) := by decide +kernel
theorem d7_177 : decode prog_29_method_35_code 177 = .ok (.getfield 15, 3) := by decide +kernel
theorem d7_180 : decode prog_29_method_35_code 180 = .ok (.iload_n 3, 1) := by decide +kernel
theorem d7_181 : decode prog_29_method_35_code 181 = .ok (.iconst 1, 1) := by decide +kernel
theorem d7_182 : decode prog_29_method_35_code 182 = .ok (.isub, 1) := by decide +kernel
theorem d7_183 : decode prog_29_method_35_code 183 = .ok (.aaload, 1) := by decide +kernel
theorem d7_184 : decode prog_29_method_35_code 184 = .ok (.goto 4, 3) := by decide +kernel
theorem d7_187 : decode prog_29_method_35_code 187 = .ok (.aconst_null, 1) := by decide +kernel
theorem d7_188 : decode prog_29_method_35_code 188 = .ok (.astore 4, 2) := by decide +kernel
theorem d7_190 : decode prog_29_method_35_code 190 = .ok (.aload_n 0, 1) := by decide +kernel
theorem d7_191 : decode prog_29_method_35_code 191 = .ok (.getfield 15, 3) := by decide +kernel
theorem d7_194 : decode prog_29_method_35_code 194 = .ok (.iload_n 3, 1) := by decide +kernel
theorem d7_195 : decode prog_29_method_35_code 195 = .ok (.aload 4, 2) := by decide +kernel
theorem d7_197 : decode prog_29_method_35_code 197 = .ok (.ifnonnull 20, 3) := by decide +kernel
theorem d7_200 : decode prog_29_method_35_code 200 = .ok (.new 13, 3) := by decide +kernel
theorem d7_203 : decode prog_29_method_35_code 203 = .ok (.dup, 1) := by decide +kernel
theorem d7_204 : decode prog_29_method_35_code 204 = .ok (.aload_n 0, 1) := by decide +kernel
theorem d7_205 : decode prog_29_method_35_code 205 = .ok (.getfield 46, 3) := by decide +kernel
theorem d7_208 : decode prog_29_method_35_code 208 = .ok (.newarray .long, 2) := by decide +kernel
theorem d7_210 : decode prog_29_method_35_code 210 = .ok (.aconst_null, 1) := by decide +kernel
theorem d7_211 : decode prog_29_method_35_code 211 = .ok (.invokespecial 264, 3) := by decide +kernel
theorem d7_214 : decode prog_29_method_35_code 214 = .ok (.goto 44, 3) := by decide +kernel
theorem d7_217 : decode prog_29_method_35_code 217 = .ok (.new 13, 3) := by decide +kernel
theorem d7_220 : decode prog_29_method_35_code 220 = .ok (.dup, 1) := by decide +kernel
theorem d7_221 : decode prog_29_method_35_code 221 = .ok (.aload 4, 2) := by decide +kernel
theorem d7_223 : decode prog_29_method_35_code 223 = .ok (.getfield 185, 3) := by decide +kernel
theorem d7_226 : decode prog_29_method_35_code 226 = .ok (.invokevirtual 266, 3) := by decide +kernel
theorem d7_229 : decode prog_29_method_35_code 229 = .ok (.checkcast 267, 3) := by decide +kernel
theorem d7_232 : decode prog_29_method_35_code 232 = .ok (.aload 4, 2) := by decide +kernel
theorem d7_234 : decode prog_29_method_35_code 234 = .ok (.getfield 229, 3) := by decide +kernel
theorem d7_237 : decode prog_29_method_35_code 237 = .ok (.ifnonnull 7, 3) := by decide +kernel
theorem d7_240 : decode prog_29_method_35_code 240 = .ok (.aconst_null, 1) := by decide +kernel
theorem d7_241 : decode prog_29_method_35_code 241 = .ok (.goto 14, 3) := by decide +kernel
theorem d7_244 : decode prog_29_method_35_code 244 = .ok (.aload 4, 2) := by decide +kernel
theorem d7_246 : decode prog_29_method_35_code 246 = .ok (.getfield 229, 3) := by decide +kernel
theorem d7_249 : decode prog_29_method_35_code 249 = .ok (.invokevirtual 266, 3) := by decide +kernel
theorem d7_252 : decode prog_29_method_35_code 252 = .ok (.checkcast 267, 3) := by decide +kernel
theorem d7_255 : decode prog_29_method_35_code 255 = .ok (.invokespecial 264, 3) := by decide +kernel
theorem d7_258 : decode prog_29_method_35_code 258 = .ok (.aastore, 1) := by decide +kernel
theorem d7_259 : decode prog_29_method_35_code 259 = .ok (.aload_n 0, 1) := by decide +kernel
theorem d7_260 : decode prog_29_method_35_code 260 = .ok (.getfield 19, 3) := by decide +kernel
theorem d7_263 : decode prog_29_method_35_code 263 = .ok (.iload_n 3, 1) := by decide +kernel
theorem d7_264 : decode prog_29_method_35_code 264 = .ok (.aload 4, 2) := by decide +kernel
theorem d7_266 : decode prog_29_method_35_code 266 = .ok (.ifnonnull 10, 3) := by decide +kernel
theorem d7_269 : decode prog_29_method_35_code 269 = .ok (.aload_n 0, 1) := by decide +kernel
theorem d7_270 : decode prog_29_method_35_code 270 = .ok (.getfield 42, 3) := by decide +kernel
theorem d7_273 : decode prog_29_method_35_code 273 = .ok (.goto 11, 3) := by decide +kernel
theorem d7_276 : decode prog_29_method_35_code 276 = .ok (.aload_n 0, 1) := by decide +kernel
theorem d7_277 : decode prog_29_method_35_code 277 = .ok (.getfield 19, 3) := by decide +kernel
theorem d7_280 : decode prog_29_method_35_code 280 = .ok (.iload_n 3, 1) := by decide +kernel
theorem d7_281 : decode prog_29_method_35_code 281 = .ok (.iconst 1, 1) := by decide +kernel
theorem d7_282 : decode prog_29_method_35_code 282 = .ok (.isub, 1) := by decide +kernel
theorem d7_283 : decode prog_29_method_35_code 283 = .ok (.iaload, 1) := by decide +kernel
theorem d7_284 : decode prog_29_method_35_code 284 = .ok (.iastore, 1) := by decide +kernel
theorem d7_285 : decode prog_29_method_35_code 285 = .ok (.iload_n 3, 1) := by decide +kernel
theorem d7_286 : decode prog_29_method_35_code 286 = .ok (.ireturn, 1) := by decide +kernel
theorem d8_0 : decode prog_29_method_39_code 0 = .ok (.iconst 0, 1) := by decide +kernel
theorem d8_1 : decode prog_29_method_39_code 1 = .ok (.istore_n 3, 1) := by decide +kernel
theorem d8_2 : decode prog_29_method_39_code 2 = .ok (.aload_n 0, 1) := by decide +kernel
theorem d8_3 : decode prog_29_method_39_code 3 = .ok (.getfield 188, 3) := by decide +kernel
theorem d8_6 : decode prog_29_method_39_code 6 = .ok (.istore 4, 2) := by decide +kernel
theorem d8_8 : decode prog_29_method_39_code 8 = .ok (.iload_n 3, 1) := by decide +kernel
theorem d8_9 : decode prog_29_method_39_code 9 = .ok (.iload 4, 2) := by decide +kernel
theorem d8_11 : decode prog_29_method_39_code 11 = .ok (.if_icmp .ge 38, 3) := by decide +kernel
theorem d8_14 : decode prog_29_method_39_code 14 = .ok (.iload_n 3, 1) := by decide +kernel
theorem d8_15 : decode prog_29_method_39_code 15 = .ok (.iload 4, 2) := by decide +kernel
theorem d8_17 : decode prog_29_method_39_code 17 = .ok (.iadd, 1) := by decide +kernel
theorem d8_18 : decode prog_29_method_39_code 18 = .ok (.iconst 1, 1) := by decide +kernel
theorem d8_19 : decode prog_29_method_39_code 19 = .ok (.iushr, 1) := by decide +kernel
theorem d8_20 : decode prog_29_method_39_code 20 = .ok (.istore 5, 2) := by decide +kernel
theorem d8_22 : decode prog_29_method_39_code 22 = .ok (.aload_n 0, 1) := by decide +kernel
theorem d8_23 : decode prog_29_method_39_code 23 = .ok (.getfield 7, 3) := by decide +kernel
theorem d8_26 : decode prog_29_method_39_code 26 = .ok (.iload 5, 2) := by decide +kernel
theorem d8_28 : decode prog_29_method_39_code 28 = .ok (.laload, 1) := by decide +kernel
theorem d8_29 : decode prog_29_method_39_code 29 = .ok (.lload_n 1, 1) := by decide +kernel
theorem d8_30 : decode prog_29_method_39_code 30 = .ok (.lcmp, 1) := by decide +kernel
theorem d8_31 : decode prog_29_method_39_code 31 = .ok (.ifCond .gt 11, 3) := by decide +kernel
theorem d8_34 : decode prog_29_method_39_code 34 = .ok (.iload 5, 2) := by decide +kernel
theorem d8_36 : decode prog_29_method_39_code 36 = .ok (.iconst 1, 1) := by decide +kernel
theorem d8_37 : decode prog_29_method_39_code 37 = .ok (.iadd, 1) := by decide +kernel
theorem d8_38 : decode prog_29_method_39_code 38 = .ok (.istore_n 3, 1) := by decide +kernel
theorem d8_39 : decode prog_29_method_39_code 39 = .ok (.goto 7, 3) := by decide +kernel
theorem d8_42 : decode prog_29_method_39_code 42 = .ok (.iload 5, 2) := by decide +kernel
theorem d8_44 : decode prog_29_method_39_code 44 = .ok (.istore 4, 2) := by decide +kernel
theorem d8_46 : decode prog_29_method_39_code 46 = .ok (.goto (-38), 3) := by decide +kernel
theorem d8_49 : decode prog_29_method_39_code 49 = .ok (.iload_n 3, 1) := by decide +kernel
theorem d8_50 : decode prog_29_method_39_code 50 = .ok (.iconst 1, 1) := by decide +kernel
theorem d8_51 : decode prog_29_method_39_code 51 = .ok (.isub, 1) := by decide +kernel
theorem d8_52 : decode prog_29_method_39_code 52 = .ok (.ireturn, 1) := by decide +kernel
theorem d9_0 : decode prog_31_method_1_code 0 = .ok (.aload_n 0, 1) := by decide +kernel
theorem d9_1 : decode prog_31_method_1_code 1 = .ok (.invokespecial 1, 3) := by decide +kernel
theorem d9_4 : decode prog_31_method_1_code 4 = .ok (.aload_n 0, 1) := by decide +kernel
theorem d9_5 : decode prog_31_method_1_code 5 = .ok (.aload_n 1, 1) := by decide +kernel
theorem d9_6 : decode prog_31_method_1_code 6 = .ok (.putfield 7, 3) := by decide +kernel
theorem d9_9 : decode prog_31_method_1_code 9 = .ok (.aload_n 0, 1) := by decide +kernel
theorem d9_10 : decode prog_31_method_1_code 10 = .ok (.aload_n 1, 1) := by decide +kernel
theorem d9_11 : decode prog_31_method_1_code 11 = .ok (.arraylength, 1) := by decide +kernel
theorem d9_12 : decode prog_31_method_1_code 12 = .ok (.newarray .long, 2) := by decide +kernel
theorem d9_14 : decode prog_31_method_1_code 14 = .ok (.putfield 13, 3) := by decide +kernel
theorem d9_17 : decode prog_31_method_1_code 17 = .ok (.aload_n 0, 1) := by decide +kernel
theorem d9_18 : decode prog_31_method_1_code 18 = .ok (.aload_n 2, 1) := by decide +kernel
theorem d9_19 : decode prog_31_method_1_code 19 = .ok (.putfield 16, 3) := by decide +kernel
theorem d9_22 : decode prog_31_method_1_code 22 = .ok (.return_, 1) := by decide +kernel
theorem d10_0 : decode prog_29_method_34_code 0 = .ok (.iconst 0, 1) := by decide +kernel
theorem d10_1 : decode prog_29_method_34_code 1 = .ok (.istore 4, 2) := by decide +kernel
theorem d10_3 : decode prog_29_method_34_code 3 = .ok (.iload 4, 2) := by decide +kernel
theorem d10_5 : decode prog_29_method_34_code 5 = .ok (.aload_n 0, 1) := by decide +kernel
theorem d10_6 : decode prog_29_method_34_code 6 = .ok (.getfield 46, 3) := by decide +kernel
theorem d10_9 : decode prog_29_method_34_code 9 = .ok (.if_icmp .ge 42, 3) := by decide +kernel
theorem d10_12 : decode prog_29_method_34_code 12 = .ok (.aload_n 1, 1) := by decide +kernel
theorem d10_13 : decode prog_29_method_34_code 13 = .ok (.iload 4, 2) := by decide +kernel
theorem d10_15 : decode prog_29_method_34_code 15 = .ok (.iload_n 3, 1) := by decide +kernel
theorem d10_16 : decode prog_29_method_34_code 16 = .ok (.ifCond .eq 15, 3) := by decide +kernel
theorem d10_19 : decode prog_29_method_34_code 19 = .ok (.aload_n 1, 1) := by decide +kernel
theorem d10_20 : decode prog_29_method_34_code 20 = .ok (.iload 4, 2) := by decide +kernel
theorem d10_22 : decode prog_29_method_34_code 22 = .ok (.laload, 1) := by decide +kernel
theorem d10_23 : decode prog_29_method_34_code 23 = .ok (.aload_n 2, 1) := by decide +kernel
theorem d10_24 : decode prog_29_method_34_code 24 = .ok (.iload 4, 2) := by decide +kernel
theorem d10_26 : decode prog_29_method_34_code 26 = .ok (.laload, 1) := by decide +kernel
theorem d10_27 : decode prog_29_method_34_code 27 = .ok (.lor, 1) := by decide +kernel
theorem d10_28 : decode prog_29_method_34_code 28 = .ok (.goto 16, 3) := by decide +kernel
theorem d10_31 : decode prog_29_method_34_code 31 = .ok (.aload_n 1, 1) := by decide +kernel
theorem d10_32 : decode prog_29_method_34_code 32 = .ok (.iload 4, 2) := by decide +kernel
theorem d10_34 : decode prog_29_method_34_code 34 = .ok (.laload, 1) := by decide +kernel
theorem d10_35 : decode prog_29_method_34_code 35 = .ok (.aload_n 2, 1) := by decide +kernel
theorem d10_36 : decode prog_29_method_34_code 36 = .ok (.iload 4, 2) := by decide +kernel
theorem d10_38 : decode prog_29_method_34_code 38 = .ok (.laload, 1) := by decide +kernel
theorem d10_39 : decode prog_29_method_34_code 39 = .ok (.ldc2_w 49, 3) := by decide +kernel
theorem d10_42 : decode prog_29_method_34_code 42 = .ok (.lxor, 1) := by decide +kernel
theorem d10_43 : decode prog_29_method_34_code 43 = .ok (.land, 1) := by decide +kernel
theorem d10_44 : decode prog_29_method_34_code 44 = .ok (.lastore, 1) := by decide +kernel
theorem d10_45 : decode prog_29_method_34_code 45 = .ok (.iinc 4 1, 3) := by decide +kernel
theorem d10_48 : decode prog_29_method_34_code 48 = .ok (.goto (-45), 3) := by decide +kernel
theorem d10_51 : decode prog_29_method_34_code 51 = .ok (.return_, 1) := by decide +kernel
theorem d11_0 : decode prog_29_method_36_code 0 = .ok (.iload_n 1, 1) := by decide +kernel
theorem d11_1 : decode prog_29_method_36_code 1 = .ok (.aload_n 0, 1) := by decide +kernel
theorem d11_2 : decode prog_29_method_36_code 2 = .ok (.getfield 188, 3) := by decide +kernel
theorem d11_5 : decode prog_29_method_36_code 5 = .ok (.if_icmp .ge 22, 3) := by decide +kernel
theorem d11_8 : decode prog_29_method_36_code 8 = .ok (.aload_n 0, 1) := by decide +kernel
theorem d11_9 : decode prog_29_method_36_code 9 = .ok (.iload_n 1, 1) := by decide +kernel
theorem d11_10 : decode prog_29_method_36_code 10 = .ok (.iload_n 1, 1) := by decide +kernel
theorem d11_11 : decode prog_29_method_36_code 11 = .ok (.iconst 1, 1) := by decide +kernel
theorem d11_12 : decode prog_29_method_36_code 12 = .ok (.isub, 1) := by decide +kernel
theorem d11_13 : decode prog_29_method_36_code 13 = .ok (.invokevirtual 232, 3) := by decide +kernel
theorem d11_16 : decode prog_29_method_36_code 16 = .ok (.ifCond .eq 11, 3) := by decide +kernel
theorem d11_19 : decode prog_29_method_36_code 19 = .ok (.aload_n 0, 1) := by decide +kernel
theorem d11_20 : decode prog_29_method_36_code 20 = .ok (.iload_n 1, 1) := by decide +kernel
theorem d11_21 : decode prog_29_method_36_code 21 = .ok (.iload_n 1, 1) := by decide +kernel
theorem d11_22 : decode prog_29_method_36_code 22 = .ok (.iconst 1, 1) := by decide +kernel
theorem d11_23 : decode prog_29_method_36_code 23 = .ok (.iadd, 1) := by decide +kernel
theorem d11_24 : decode prog_29_method_36_code 24 = .ok (.invokevirtual 100, 3) := by decide +kernel
theorem d11_27 : decode prog_29_method_36_code 27 = .ok (.return_, 1) := by decide +kernel
theorem d12_0 : decode prog_29_method_37_code 0 = .ok (.aload_n 0, 1) := by decide +kernel
theorem d12_1 : decode prog_29_method_37_code 1 = .ok (.getfield 15, 3) := by decide +kernel
theorem d12_4 : decode prog_29_method_37_code 4 = .ok (.iload_n 1, 1) := by decide +kernel
theorem d12_5 : decode prog_29_method_37_code 5 = .ok (.aaload, 1) := by decide +kernel
theorem d12_6 : decode prog_29_method_37_code 6 = .ok (.astore_n 3, 1) := by decide +kernel
theorem d12_7 : decode prog_29_method_37_code 7 = .ok (.aload_n 3, 1) := by decide +kernel
theorem d12_8 : decode prog_29_method_37_code 8 = .ok (.getfield 104, 3) := by decide +kernel
theorem d12_11 : decode prog_29_method_37_code 11 = .ok (.ifnonnull 21, 3) := by decide +kernel
theorem d12_14 : decode prog_29_method_37_code 14 = .ok (.aload_n 3, 1) := by decide +kernel
theorem d12_15 : decode prog_29_method_37_code 15 = .ok (.getfield 226, 3) := by decide +kernel
theorem d12_18 : decode prog_29_method_37_code 18 = .ok (.ifnonnull 14, 3) := by decide +kernel
theorem d12_21 : decode prog_29_method_37_code 21 = .ok (.aload_n 0, 1) := by decide +kernel
theorem d12_22 : decode prog_29_method_37_code 22 = .ok (.aload_n 3, 1) := by decide +kernel
theorem d12_23 : decode prog_29_method_37_code 23 = .ok (.getfield 110, 3) := by decide +kernel
theorem d12_26 : decode prog_29_method_37_code 26 = .ok (.invokevirtual 178, 3) := by decide +kernel
theorem d12_29 : decode prog_29_method_37_code 29 = .ok (.ifCond .eq 5, 3) := by decide +kernel
theorem d12_32 : decode prog_29_method_37_code 32 = .ok (.iconst 0, 1) := by decide +kernel
theorem d12_33 : decode prog_29_method_37_code 33 = .ok (.ireturn, 1) := by decide +kernel
theorem d12_34 : decode prog_29_method_37_code 34 = .ok (.iload_n 2, 1) := by decide +kernel
theorem d12_35 : decode prog_29_method_37_code 35 = .ok (.ifCond .ge 31, 3) := by decide +kernel
theorem d12_38 : decode prog_29_method_37_code 38 = .ok (.aload_n 0, 1) := by decide +kernel
theorem d12_39 : decode prog_29_method_37_code 39 = .ok (.getfield 19, 3) := by decide +kernel
theorem d12_42 : decode prog_29_method_37_code 42 = .ok (.iload_n 1, 1) := by decide +kernel
theorem d12_43 : decode prog_29_method_37_code 43 = .ok (.iaload, 1) := by decide +kernel
theorem d12_44 : decode prog_29_method_37_code 44 = .ok (.aload_n 0, 1) := by decide +kernel
theorem d12_45 : decode prog_29_method_37_code 45 = .ok (.getfield 42, 3) := by decide +kernel
theorem d12_48 : decode prog_29_method_37_code 48 = .ok (.if_icmp .ne 14, 3) := by decide +kernel
theorem d12_51 : decode prog_29_method_37_code 51 = .ok (.aload_n 3, 1) := by decide +kernel
theorem d12_52 : decode prog_29_method_37_code 52 = .ok (.getfield 229, 3) := by decide +kernel
theorem d12_55 : decode prog_29_method_37_code 55 = .ok (.ifnonnull 7, 3) := by decide +kernel
theorem d12_58 : decode prog_29_method_37_code 58 = .ok (.iconst 1, 1) := by decide +kernel
theorem d12_59 : decode prog_29_method_37_code 59 = .ok (.goto 65, 3) := by decide +kernel
theorem d12_62 : decode prog_29_method_37_code 62 = .ok (.iconst 0, 1) := by decide +kernel
theorem d12_63 : decode prog_29_method_37_code 63 = .ok (.goto 61, 3) := by decide +kernel
theorem d12_66 : decode prog_29_method_37_code 66 = .ok (.aload_n 0, 1) := by decide +kernel
theorem d12_67 : decode prog_29_method_37_code 67 = .ok (.getfield 19, 3) := by decide +kernel
theorem d12_70 : decode prog_29_method_37_code 70 = .ok (.iload_n 1, 1) := by decide +kernel
theorem d12_71 : decode prog_29_method_37_code 71 = .ok (.iaload, 1) := by decide +kernel
theorem d12_72 : decode prog_29_method_37_code 72 = .ok (.aload_n 0, 1) := by decide +kernel
theorem d12_73 : decode prog_29_method_37_code 73 = .ok (.getfield 19, 3) := by decide +kernel
theorem d12_76 : decode prog_29_method_37_code 76 = .ok (.iload_n 2, 1) := by decide +kernel
theorem d12_77 : decode prog_29_method_37_code 77 = .ok (.iaload, 1) := by decide +kernel
theorem d12_78 : decode prog_29_method_37_code 78 = .ok (.if_icmp .ne 45, 3) := by decide +kernel
theorem d12_81 : decode prog_29_method_37_code 81 = .ok (.aload_n 3, 1) := by decide +kernel
theorem d12_82 : decode prog_29_method_37_code 82 = .ok (.getfield 185, 3) := by decide +kernel
theorem d12_85 : decode prog_29_method_37_code 85 = .ok (.aload_n 0, 1) := by decide +kernel
theorem d12_86 : decode prog_29_method_37_code 86 = .ok (.getfield 15, 3) := by decide +kernel
theorem d12_89 : decode prog_29_method_37_code 89 = .ok (.iload_n 2, 1) := by decide +kernel
theorem d12_90 : decode prog_29_method_37_code 90 = .ok (.aaload, 1) := by decide +kernel
theorem d12_91 : decode prog_29_method_37_code 91 = .ok (.getfield 185, 3) := by decide +kernel
theorem d12_94 : decode prog_29_method_37_code 94 = .ok (.invokestatic 271, 3) := by decide +kernel
theorem d12_97 : decode prog_29_method_37_code 97 = .ok (.ifCond .eq 26, 3) := by decide +kernel
theorem d12_100 : decode prog_29_method_37_code 100 = .ok (.aload_n 3, 1) := by decide +kernel
theorem d12_101 : decode prog_29_method_37_code 101 = .ok (.getfield 229, 3) := by decide +kernel
theorem d12_104 : decode prog_29_method_37_code 104 = .ok (.aload_n 0, 1) := by decide +kernel
theorem d12_105 : decode prog_29_method_37_code 105 = .ok (.getfield 15, 3) := by decide +kernel
theorem d12_108 : decode prog_29_method_37_code 108 = .ok (.iload_n 2, 1) := by decide +kernel
theorem d12_109 : decode prog_29_method_37_code 109 = .ok (.aaload, 1) := by decide +kernel
theorem d12_110 : decode prog_29_method_37_code 110 = .ok (.getfield 229, 3) := by decide +kernel
theorem d12_113 : decode prog_29_method_37_code 113 = .ok (.invokestatic 271, 3) := by decide +kernel
theorem d12_116 : decode prog_29_method_37_code 116 = .ok (.ifCond .eq 7, 3) := by decide +kernel
theorem d12_119 : decode prog_29_method_37_code 119 = .ok (.iconst 1, 1) := by decide +kernel
theorem d12_120 : decode prog_29_method_37_code 120 = .ok (.goto 4, 3) := by decide +kernel
theorem d12_123 : decode prog_29_method_37_code 123 = .ok (.iconst 0, 1) := by decide +kernel
theorem d12_124 : decode prog_29_method_37_code 124 = .ok (.ireturn, 1) := by decide +kernel
theorem d13_0 : decode prog_29_method_44_code 0 = .ok (.iconst 0, 1) := by decide +kernel
theorem d13_1 : decode prog_29_method_44_code 1 = .ok (.istore_n 2, 1) := by decide +kernel
theorem d13_2 : decode prog_29_method_44_code 2 = .ok (.iconst 0, 1) := by decide +kernel
theorem d13_3 : decode prog_29_method_44_code 3 = .ok (.istore_n 3, 1) := by decide +kernel
theorem d13_4 : decode prog_29_method_44_code 4 = .ok (.iload_n 3, 1) := by decide +kernel
theorem d13_5 : decode prog_29_method_44_code 5 = .ok (.aload_n 0, 1) := by decide +kernel
theorem d13_6 : decode prog_29_method_44_code 6 = .ok (.getfield 46, 3) := by decide +kernel
theorem d13_9 : decode prog_29_method_44_code 9 = .ok (.if_icmp .ge 27, 3) := by decide +kernel
theorem d13_12 : decode prog_29_method_44_code 12 = .ok (.iload_n 2, 1) := by decide +kernel
theorem d13_13 : decode prog_29_method_44_code 13 = .ok (.ifCond .ne 23, 3) := by decide +kernel
theorem d13_16 : decode prog_29_method_44_code 16 = .ok (.aload_n 1, 1) := by decide +kernel
theorem d13_17 : decode prog_29_method_44_code 17 = .ok (.iload_n 3, 1) := by decide +kernel
theorem d13_18 : decode prog_29_method_44_code 18 = .ok (.laload, 1) := by decide +kernel
theorem d13_19 : decode prog_29_method_44_code 19 = .ok (.lconst 0, 1) := by decide +kernel
theorem d13_20 : decode prog_29_method_44_code 20 = .ok (.lcmp, 1) := by decide +kernel
theorem d13_21 : decode prog_29_method_44_code 21 = .ok (.ifCond .eq 7, 3) := by decide +kernel
theorem d13_24 : decode prog_29_method_44_code 24 = .ok (.iconst 1, 1) := by decide +kernel
theorem d13_25 : decode prog_29_method_44_code 25 = .ok (.goto 4, 3) := by decide +kernel
theorem d13_28 : decode prog_29_method_44_code 28 = .ok (.iconst 0, 1) := by decide +kernel
theorem d13_29 : decode prog_29_method_44_code 29 = .ok (.istore_n 2, 1) := by decide +kernel
theorem d13_30 : decode prog_29_method_44_code 30 = .ok (.iinc 3 1, 3) := by decide +kernel
theorem d13_33 : decode prog_29_method_44_code 33 = .ok (.goto (-29), 3) := by decide +kernel
theorem d13_36 : decode prog_29_method_44_code 36 = .ok (.iload_n 2, 1) := by decide +kernel
theorem d13_37 : decode prog_29_method_44_code 37 = .ok (.ireturn, 1) := by decide +kernel
theorem d14_0 : decode prog_29_method_15_code 0 = .ok (.aload_n 0, 1) := by decide +kernel
theorem d14_1 : decode prog_29_method_15_code 1 = .ok (.aload_n 0, 1) := by decide +kernel
theorem d14_2 : decode prog_29_method_15_code 2 = .ok (.lload_n 1, 1) := by decide +kernel
theorem d14_3 : decode prog_29_method_15_code 3 = .ok (.invokevirtual 89, 3) := by decide +kernel
theorem d14_6 : decode prog_29_method_15_code 6 = .ok (.lload_n 1, 1) := by decide +kernel
theorem d14_7 : decode prog_29_method_15_code 7 = .ok (.lload_n 3, 1) := by decide +kernel
theorem d14_8 : decode prog_29_method_15_code 8 = .ok (.iconst 0, 1) := by decide +kernel
theorem d14_9 : decode prog_29_method_15_code 9 = .ok (.invokevirtual 130, 3) := by decide +kernel
theorem d14_12 : decode prog_29_method_15_code 12 = .ok (.pop, 1) := by decide +kernel
theorem d14_13 : decode prog_29_method_15_code 13 = .ok (.return_, 1) := by decide +kernel
theorem d15_0 : decode prog_29_method_20_code 0 = .ok (.aload_n 0, 1) := by decide +kernel
theorem d15_1 : decode prog_29_method_20_code 1 = .ok (.iload_n 1, 1) := by decide +kernel
theorem d15_2 : decode prog_29_method_20_code 2 = .ok (.putfield 191, 3) := by decide +kernel
theorem d15_5 : decode prog_29_method_20_code 5 = .ok (.lload 4, 2) := by decide +kernel
theorem d15_7 : decode prog_29_method_20_code 7 = .ok (.lconst 0, 1) := by decide +kernel
theorem d15_8 : decode prog_29_method_20_code 8 = .ok (.lcmp, 1) := by decide +kernel
theorem d15_9 : decode prog_29_method_20_code 9 = .ok (.ifCond .le 35, 3) := by decide +kernel
theorem d15_12 : decode prog_29_method_20_code 12 = .ok (.aload_n 0, 1) := by decide +kernel
theorem d15_13 : decode prog_29_method_20_code 13 = .ok (.iload_n 1, 1) := by decide +kernel
theorem d15_14 : decode prog_29_method_20_code 14 = .ok (.invokevirtual 194, 3) := by decide +kernel
theorem d15_17 : decode prog_29_method_20_code 17 = .ok (.iload 6, 2) := by decide +kernel
theorem d15_19 : decode prog_29_method_20_code 19 = .ok (.if_icmp .lt 21, 3) := by decide +kernel
theorem d15_22 : decode prog_29_method_20_code 22 = .ok (.aload_n 0, 1) := by decide +kernel
theorem d15_23 : decode prog_29_method_20_code 23 = .ok (.iload_n 1, 1) := by decide +kernel
theorem d15_24 : decode prog_29_method_20_code 24 = .ok (.lload_n 2, 1) := by decide +kernel
theorem d15_25 : decode prog_29_method_20_code 25 = .ok (.lload 4, 2) := by decide +kernel
theorem d15_27 : decode prog_29_method_20_code 27 = .ok (.ladd, 1) := by decide +kernel
theorem d15_28 : decode prog_29_method_20_code 28 = .ok (.iload 6, 2) := by decide +kernel
theorem d15_30 : decode prog_29_method_20_code 30 = .ok (.invokevirtual 198, 3) := by decide +kernel
theorem d15_33 : decode prog_29_method_20_code 33 = .ok (.ifCond .eq 7, 3) := by decide +kernel
theorem d15_36 : decode prog_29_method_20_code 36 = .ok (.iconst 1, 1) := by decide +kernel
theorem d15_37 : decode prog_29_method_20_code 37 = .ok (.goto 15, 3) := by decide +kernel
theorem d15_40 : decode prog_29_method_20_code 40 = .ok (.iconst 0, 1) := by decide +kernel
theorem d15_41 : decode prog_29_method_20_code 41 = .ok (.goto 11, 3) := by decide +kernel
theorem d15_44 : decode prog_29_method_20_code 44 = .ok (.aload_n 0, 1) := by decide +kernel
theorem d15_45 : decode prog_29_method_20_code 45 = .ok (.iload_n 1, 1) := by decide +kernel
theorem d15_46 : decode prog_29_method_20_code 46 = .ok (.lload_n 2, 1) := by decide +kernel
theorem d15_47 : decode prog_29_method_20_code 47 = .ok (.iload 6, 2) := by decide +kernel
theorem d15_49 : decode prog_29_method_20_code 49 = .ok (.invokevirtual 202, 3) := by decide +kernel
theorem d15_52 : decode prog_29_method_20_code 52 = .ok (.ireturn, 1) := by decide +kernel
theorem d16_0 : decode prog_29_method_24_code 0 = .ok (.aload_n 0, 1) := by decide +kernel
theorem d16_1 : decode prog_29_method_24_code 1 = .ok (.iload_n 1, 1) := by decide +kernel
theorem d16_2 : decode prog_29_method_24_code 2 = .ok (.invokevirtual 216, 3) := by decide +kernel
theorem d16_5 : decode prog_29_method_24_code 5 = .ok (.iload_n 1, 1) := by decide +kernel
theorem d16_6 : decode prog_29_method_24_code 6 = .ok (.ifCond .lt 130, 3) := by decide +kernel
theorem d16_9 : decode prog_29_method_24_code 9 = .ok (.aload_n 0, 1) := by decide +kernel
theorem d16_10 : decode prog_29_method_24_code 10 = .ok (.getfield 7, 3) := by decide +kernel
theorem d16_13 : decode prog_29_method_24_code 13 = .ok (.iload_n 1, 1) := by decide +kernel
theorem d16_14 : decode prog_29_method_24_code 14 = .ok (.laload, 1) := by decide +kernel
theorem d16_15 : decode prog_29_method_24_code 15 = .ok (.lload_n 2, 1) := by decide +kernel
theorem d16_16 : decode prog_29_method_24_code 16 = .ok (.lcmp, 1) := by decide +kernel
theorem d16_17 : decode prog_29_method_24_code 17 = .ok (.ifCond .ne 119, 3) := by decide +kernel
theorem d16_20 : decode prog_29_method_24_code 20 = .ok (.aload_n 0, 1) := by decide +kernel
theorem d16_21 : decode prog_29_method_24_code 21 = .ok (.getfield 15, 3) := by decide +kernel
theorem d16_24 : decode prog_29_method_24_code 24 = .ok (.iload_n 1, 1) := by decide +kernel
theorem d16_25 : decode prog_29_method_24_code 25 = .ok (.aaload, 1) := by decide +kernel
theorem d16_26 : decode prog_29_method_24_code 26 = .ok (.astore 5, 2) := by decide +kernel
theorem d16_28 : decode prog_29_method_24_code 28 = .ok (.iload_n 1, 1) := by decide +kernel
theorem d16_29 : decode prog_29_method_24_code 29 = .ok (.ifCond .le 17, 3) := by decide +kernel
theorem d16_32 : decode prog_29_method_24_code 32 = .ok (.aload_n 0, 1) := by decide +kernel
theorem d16_33 : decode prog_29_method_24_code 33 = .ok (.getfield 15, 3) := by decide +kernel
theorem d16_36 : decode prog_29_method_24_code 36 = .ok (.iload_n 1, 1) := by decide +kernel
theorem d16_37 : decode prog_29_method_24_code 37 = .ok (.iconst 1, 1) := by decide +kernel
theorem d16_38 : decode prog_29_method_24_code 38 = .ok (.isub, 1) := by decide +kernel
theorem d16_39 : decode prog_29_method_24_code 39 = .ok (.aaload, 1) := by decide +kernel
theorem d16_40 : decode prog_29_method_24_code 40 = .ok (.getfield 185, 3) := by decide +kernel
theorem d16_43 : decode prog_29_method_24_code 43 = .ok (.goto 4, 3) := by decide +kernel
theorem d16_46 : decode prog_29_method_24_code 46 = .ok (.aconst_null, 1) := by decide +kernel
theorem d16_47 : decode prog_29_method_24_code 47 = .ok (.astore 6, 2) := by decide +kernel
theorem d16_49 : decode prog_29_method_24_code 49 = .ok (.iconst 0, 1) := by decide +kernel
theorem d16_50 : decode prog_29_method_24_code 50 = .ok (.istore 7, 2) := by decide +kernel
theorem d16_52 : decode prog_29_method_24_code 52 = .ok (.iload 7, 2) := by decide +kernel
theorem d16_54 : decode prog_29_method_24_code 54 = .ok (.aload_n 0, 1) := by decide +kernel
theorem d16_55 : decode prog_29_method_24_code 55 = .ok (.getfield 46, 3) := by decide +kernel
theorem d16_58 : decode prog_29_method_24_code 58 = .ok (.if_icmp .ge 60, 3) := by decide +kernel
theorem d16_61 : decode prog_29_method_24_code 61 = .ok (.aload 6, 2) := by decide +kernel
theorem d16_63 : decode prog_29_method_24_code 63 = .ok (.ifnonnull 7, 3) := by decide +kernel
theorem d16_66 : decode prog_29_method_24_code 66 = .ok (.lconst 0, 1) := by decide +kernel
theorem d16_67 : decode prog_29_method_24_code 67 = .ok (.goto 30, 3) := by decide +kernel
theorem d16_70 : decode prog_29_method_24_code 70 = .ok (.aload 6, 2) := by decide +kernel
theorem d16_72 : decode prog_29_method_24_code 72 = .ok (.iload 7, 2) := by decide +kernel
theorem d16_74 : decode prog_29_method_24_code 74 = .ok (.laload, 1) := by decide +kernel
theorem d16_75 : decode prog_29_method_24_code 75 = .ok (.aload 5, 2) := by decide +kernel
theorem d16_77 : decode prog_29_method_24_code 77 = .ok (.getfield 185, 3) := by decide +kernel
theorem d16_80 : decode prog_29_method_24_code 80 = .ok (.iload 7, 2) := by decide +kernel
theorem d16_82 : decode prog_29_method_24_code 82 = .ok (.laload, 1) := by decide +kernel
theorem d16_83 : decode prog_29_method_24_code 83 = .ok (.land, 1) := by decide +kernel
theorem d16_84 : decode prog_29_method_24_code 84 = .ok (.aload 5, 2) := by decide +kernel
theorem d16_86 : decode prog_29_method_24_code 86 = .ok (.getfield 110, 3) := by decide +kernel
theorem d16_89 : decode prog_29_method_24_code 89 = .ok (.iload 7, 2) := by decide +kernel
theorem d16_91 : decode prog_29_method_24_code 91 = .ok (.laload, 1) := by decide +kernel
theorem d16_92 : decode prog_29_method_24_code 92 = .ok (.ldc2_w 49, 3) := by decide +kernel
theorem d16_95 : decode prog_29_method_24_code 95 = .ok (.lxor, 1) := by decide +kernel
theorem d16_96 : decode prog_29_method_24_code 96 = .ok (.land, 1) := by decide +kernel
theorem d16_97 : decode prog_29_method_24_code 97 = .ok (.lstore 8, 2) := by decide +kernel
theorem d16_99 : decode prog_29_method_24_code 99 = .ok (.aload_n 0, 1) := by decide +kernel
theorem d16_100 : decode prog_29_method_24_code 100 = .ok (.getfield 54, 3) := by decide +kernel
theorem d16_103 : decode prog_29_method_24_code 103 = .ok (.iload 7, 2) := by decide +kernel
theorem d16_105 : decode prog_29_method_24_code 105 = .ok (.lload 8, 2) := by decide +kernel
theorem d16_107 : decode prog_29_method_24_code 107 = .ok (.ldc2_w 49, 3) := by decide +kernel
theorem d16_110 : decode prog_29_method_24_code 110 = .ok (.lxor, 1) := by decide +kernel
theorem d16_111 : decode prog_29_method_24_code 111 = .ok (.lastore, 1) := by decide +kernel
theorem d16_112 : decode prog_29_method_24_code 112 = .ok (.iinc 7 1, 3) := by decide +kernel
theorem d16_115 : decode prog_29_method_24_code 115 = .ok (.goto (-63), 3) := by decide +kernel
theorem d16_118 : decode prog_29_method_24_code 118 = .ok (.aload_n 0, 1) := by decide +kernel
theorem d16_119 : decode prog_29_method_24_code 119 = .ok (.getfield 54, 3) := by decide +kernel
theorem d16_122 : decode prog_29_method_24_code 122 = .ok (.aload_n 0, 1) := by decide +kernel
theorem d16_123 : decode prog_29_method_24_code 123 = .ok (.getfield 46, 3) := by decide +kernel
theorem d16_126 : decode prog_29_method_24_code 126 = .ok (.iconst 1, 1) := by decide +kernel
theorem d16_127 : decode prog_29_method_24_code 127 = .ok (.isub, 1) := by decide +kernel
theorem d16_128 : decode prog_29_method_24_code 128 = .ok (.dup2, 1) := by decide +kernel
theorem d16_129 : decode prog_29_method_24_code 129 = .ok (.laload, 1) := by decide +kernel
theorem d16_130 : decode prog_29_method_24_code 130 = .ok (.aload_n 0, 1) := by decide +kernel
theorem d16_131 : decode prog_29_method_24_code 131 = .ok (.getfield 51, 3) := by decide +kernel
theorem d16_134 : decode prog_29_method_24_code 134 = .ok (.land, 1) := by decide +kernel
theorem d16_135 : decode prog_29_method_24_code 135 = .ok (.lastore, 1) := by decide +kernel
theorem d16_136 : decode prog_29_method_24_code 136 = .ok (.aload_n 0, 1) := by decide +kernel
theorem d16_137 : decode prog_29_method_24_code 137 = .ok (.aload_n 0, 1) := by decide +kernel
theorem d16_138 : decode prog_29_method_24_code 138 = .ok (.getfield 54, 3) := by decide +kernel
theorem d16_141 : decode prog_29_method_24_code 141 = .ok (.invokevirtual 168, 3) := by decide +kernel
theorem d16_144 : decode prog_29_method_24_code 144 = .ok (.iload 4, 2) := by decide +kernel
theorem d16_146 : decode prog_29_method_24_code 146 = .ok (.if_icmp .lt 7, 3) := by decide +kernel
theorem d16_149 : decode prog_29_method_24_code 149 = .ok (.iconst 1, 1) := by decide +kernel
theorem d16_150 : decode prog_29_method_24_code 150 = .ok (.goto 4, 3) := by decide +kernel
theorem d16_153 : decode prog_29_method_24_code 153 = .ok (.iconst 0, 1) := by decide +kernel
theorem d16_154 : decode prog_29_method_24_code 154 = .ok (.ireturn, 1) := by decide +kernel
theorem d17_0 : decode prog_29_method_25_code 0 = .ok (.iload_n 1, 1) := by decide +kernel
theorem d17_1 : decode prog_29_method_25_code 1 = .ok (.ifCond .ge 16, 3) := by decide +kernel
theorem d17_4 : decode prog_29_method_25_code 4 = .ok (.aload_n 0, 1) := by decide +kernel
theorem d17_5 : decode prog_29_method_25_code 5 = .ok (.getfield 54, 3) := by decide +kernel
theorem d17_8 : decode prog_29_method_25_code 8 = .ok (.ldc2_w 49, 3) := by decide +kernel
theorem d17_11 : decode prog_29_method_25_code 11 = .ok (.invokestatic 113, 3) := by decide +kernel
theorem d17_14 : decode prog_29_method_25_code 14 = .ok (.goto 42, 3) := by decide +kernel
theorem d17_17 : decode prog_29_method_25_code 17 = .ok (.aload_n 0, 1) := by decide +kernel
theorem d17_18 : decode prog_29_method_25_code 18 = .ok (.getfield 15, 3) := by decide +kernel
theorem d17_21 : decode prog_29_method_25_code 21 = .ok (.iload_n 1, 1) := by decide +kernel
theorem d17_22 : decode prog_29_method_25_code 22 = .ok (.aaload, 1) := by decide +kernel
theorem d17_23 : decode prog_29_method_25_code 23 = .ok (.getfield 185, 3) := by decide +kernel
theorem d17_26 : decode prog_29_method_25_code 26 = .ok (.astore_n 2, 1) := by decide +kernel
theorem d17_27 : decode prog_29_method_25_code 27 = .ok (.iconst 0, 1) := by decide +kernel
theorem d17_28 : decode prog_29_method_25_code 28 = .ok (.istore_n 3, 1) := by decide +kernel
theorem d17_29 : decode prog_29_method_25_code 29 = .ok (.iload_n 3, 1) := by decide +kernel
theorem d17_30 : decode prog_29_method_25_code 30 = .ok (.aload_n 0, 1) := by decide +kernel
theorem d17_31 : decode prog_29_method_25_code 31 = .ok (.getfield 46, 3) := by decide +kernel
theorem d17_34 : decode prog_29_method_25_code 34 = .ok (.if_icmp .ge 22, 3) := by decide +kernel
theorem d17_37 : decode prog_29_method_25_code 37 = .ok (.aload_n 0, 1) := by decide +kernel
theorem d17_38 : decode prog_29_method_25_code 38 = .ok (.getfield 54, 3) := by decide +kernel
theorem d17_41 : decode prog_29_method_25_code 41 = .ok (.iload_n 3, 1) := by decide +kernel
theorem d17_42 : decode prog_29_method_25_code 42 = .ok (.aload_n 2, 1) := by decide +kernel
theorem d17_43 : decode prog_29_method_25_code 43 = .ok (.iload_n 3, 1) := by decide +kernel
theorem d17_44 : decode prog_29_method_25_code 44 = .ok (.laload, 1) := by decide +kernel
theorem d17_45 : decode prog_29_method_25_code 45 = .ok (.ldc2_w 49, 3) := by decide +kernel
theorem d17_48 : decode prog_29_method_25_code 48 = .ok (.lxor, 1) := by decide +kernel
theorem d17_49 : decode prog_29_method_25_code 49 = .ok (.lastore, 1) := by decide +kernel
theorem d17_50 : decode prog_29_method_25_code 50 = .ok (.iinc 3 1, 3) := by decide +kernel
theorem d17_53 : decode prog_29_method_25_code 53 = .ok (.goto (-24), 3) := by decide +kernel
theorem d17_56 : decode prog_29_method_25_code 56 = .ok (.aload_n 0, 1) := by decide +kernel
theorem d17_57 : decode prog_29_method_25_code 57 = .ok (.getfield 54, 3) := by decide +kernel
theorem d17_60 : decode prog_29_method_25_code 60 = .ok (.aload_n 0, 1) := by decide +kernel
theorem d17_61 : decode prog_29_method_25_code 61 = .ok (.getfield 46, 3) := by decide +kernel
theorem d17_64 : decode prog_29_method_25_code 64 = .ok (.iconst 1, 1) := by decide +kernel
theorem d17_65 : decode prog_29_method_25_code 65 = .ok (.isub, 1) := by decide +kernel
theorem d17_66 : decode prog_29_method_25_code 66 = .ok (.dup2, 1) := by decide +kernel
theorem d17_67 : decode prog_29_method_25_code 67 = .ok (.laload, 1) := by decide +kernel
theorem d17_68 : decode prog_29_method_25_code 68 = .ok (.aload_n 0, 1) := by decide +kernel
theorem d17_69 : decode prog_29_method_25_code 69 = .ok (.getfield 51, 3) := by decide +kernel
theorem d17_72 : decode prog_29_method_25_code 72 = .ok (.land, 1) := by decide +kernel
theorem d17_73 : decode prog_29_method_25_code 73 = .ok (.lastore, 1) := by decide +kernel
theorem d17_74 : decode prog_29_method_25_code 74 = .ok (.return_, 1) := by decide +kernel
theorem d18_0 : decode jdk_65_method_101_code 0 = .ok (.iconst 0, 1) := by decide +kernel
theorem d18_1 : decode jdk_65_method_101_code 1 = .ok (.istore_n 3, 1) := by decide +kernel
theorem d18_2 : decode jdk_65_method_101_code 2 = .ok (.aload_n 0, 1) := by decide +kernel
theorem d18_3 : decode jdk_65_method_101_code 3 = .ok (.arraylength, 1) := by decide +kernel
theorem d18_4 : decode jdk_65_method_101_code 4 = .ok (.istore 4, 2) := by decide +kernel
theorem d18_6 : decode jdk_65_method_101_code 6 = .ok (.iload_n 3, 1) := by decide +kernel
theorem d18_7 : decode jdk_65_method_101_code 7 = .ok (.iload 4, 2) := by decide +kernel
theorem d18_9 : decode jdk_65_method_101_code 9 = .ok (.if_icmp .ge 13, 3) := by decide +kernel
theorem d18_12 : decode jdk_65_method_101_code 12 = .ok (.aload_n 0, 1) := by decide +kernel
theorem d18_13 : decode jdk_65_method_101_code 13 = .ok (.iload_n 3, 1) := by decide +kernel
theorem d18_14 : decode jdk_65_method_101_code 14 = .ok (.lload_n 1, 1) := by decide +kernel
theorem d18_15 : decode jdk_65_method_101_code 15 = .ok (.lastore, 1) := by decide +kernel
theorem d18_16 : decode jdk_65_method_101_code 16 = .ok (.iinc 3 1, 3) := by decide +kernel
theorem d18_19 : decode jdk_65_method_101_code 19 = .ok (.goto (-13), 3) := by decide +kernel
theorem d18_22 : decode jdk_65_method_101_code 22 = .ok (.return_, 1) := by decide +kernel
theorem d19_0 : decode prog_29_method_45_code 0 = .ok (.iconst 0, 1) := by decide +kernel
theorem d19_1 : decode prog_29_method_45_code 1 = .ok (.istore_n 2, 1) := by decide +kernel
theorem d19_2 : decode prog_29_method_45_code 2 = .ok (.iconst 0, 1) := by decide +kernel
theorem d19_3 : decode prog_29_method_45_code 3 = .ok (.istore_n 3, 1) := by decide +kernel
theorem d19_4 : decode prog_29_method_45_code 4 = .ok (.iload_n 3, 1) := by decide +kernel
theorem d19_5 : decode prog_29_method_45_code 5 = .ok (.aload_n 0, 1) := by decide +kernel
theorem d19_6 : decode prog_29_method_45_code 6 = .ok (.getfield 46, 3) := by decide +kernel
theorem d19_9 : decode prog_29_method_45_code 9 = .ok (.if_icmp .ge 18, 3) := by decide +kernel
theorem d19_12 : decode prog_29_method_45_code 12 = .ok (.iload_n 2, 1) := by decide +kernel
theorem d19_13 : decode prog_29_method_45_code 13 = .ok (.aload_n 1, 1) := by decide +kernel
theorem d19_14 : decode prog_29_method_45_code 14 = .ok (.iload_n 3, 1) := by decide +kernel
theorem d19_15 : decode prog_29_method_45_code 15 = .ok (.laload, 1) := by decide +kernel
theorem d19_16 : decode prog_29_method_45_code 16 = .ok (.invokestatic 274, 3) := by decide +kernel
theorem d19_19 : decode prog_29_method_45_code 19 = .ok (.iadd, 1) := by decide +kernel
theorem d19_20 : decode prog_29_method_45_code 20 = .ok (.istore_n 2, 1) := by decide +kernel
theorem d19_21 : decode prog_29_method_45_code 21 = .ok (.iinc 3 1, 3) := by decide +kernel
theorem d19_24 : decode prog_29_method_45_code 24 = .ok (.goto (-20), 3) := by decide +kernel
theorem d19_27 : decode prog_29_method_45_code 27 = .ok (.iload_n 2, 1) := by decide +kernel
theorem d19_28 : decode prog_29_method_45_code 28 = .ok (.ireturn, 1) := by decide +kernel
theorem d20_0 : decode jdk_35_method_50_code 0 = .ok (.lload_n 0, 1) := by decide +kernel
theorem d20_1 : decode jdk_35_method_50_code 1 = .ok (.lload_n 0, 1) := by decide +kernel
theorem d20_2 : decode jdk_35_method_50_code 2 = .ok (.iconst 1, 1) := by decide +kernel
theorem d20_3 : decode jdk_35_method_50_code 3 = .ok (.lushr, 1) := by decide +kernel
theorem d20_4 : decode jdk_35_method_50_code 4 = .ok (.ldc2_w 314, 3) := by decide +kernel
theorem d20_7 : decode jdk_35_method_50_code 7 = .ok (.land, 1) := by decide +kernel
theorem d20_8 : decode jdk_35_method_50_code 8 = .ok (.lsub, 1) := by decide +kernel
theorem d20_9 : decode jdk_35_method_50_code 9 = .ok (.lstore_n 0, 1) := by decide +kernel
theorem d20_10 : decode jdk_35_method_50_code 10 = .ok (.lload_n 0, 1) := by decide +kernel
theorem d20_11 : decode jdk_35_method_50_code 11 = .ok (.ldc2_w 316, 3) := by decide +kernel
theorem d20_14 : decode jdk_35_method_50_code 14 = .ok (.land, 1) := by decide +kernel
theorem d20_15 : decode jdk_35_method_50_code 15 = .ok (.lload_n 0, 1) := by decide +kernel
theorem d20_16 : decode jdk_35_method_50_code 16 = .ok (.iconst 2, 1) := by decide +kernel
theorem d20_17 : decode jdk_35_method_50_code 17 = .ok (.lushr, 1) := by decide +kernel
theorem d20_18 : decode jdk_35_method_50_code 18 = .ok (.ldc2_w 316, 3) := by decide +kernel
theorem d20_21 : decode jdk_35_method_50_code 21 = .ok (.land, 1) := by decide +kernel
theorem d20_22 : decode jdk_35_method_50_code 22 = .ok (.ladd, 1) := by decide +kernel
theorem d20_23 : decode jdk_35_method_50_code 23 = .ok (.lstore_n 0, 1) := by decide +kernel
theorem d20_24 : decode jdk_35_method_50_code 24 = .ok (.lload_n 0, 1) := by decide +kernel
theorem d20_25 : decode jdk_35_method_50_code 25 = .ok (.lload_n 0, 1) := by decide +kernel
theorem d20_26 : decode jdk_35_method_50_code 26 = .ok (.iconst 4, 1) := by decide +kernel
theorem d20_27 : decode jdk_35_method_50_code 27 = .ok (.lushr, 1) := by decide +kernel
theorem d20_28 : decode jdk_35_method_50_code 28 = .ok (.ladd, 1) := by decide +kernel
theorem d20_29 : decode jdk_35_method_50_code 29 = .ok (.ldc2_w 318, 3) := by decide +kernel
theorem d20_32 : decode jdk_35_method_50_code 32 = .ok (.land, 1) := by decide +kernel
theorem d20_33 : decode jdk_35_method_50_code 33 = .ok (.lstore_n 0, 1) := by decide +kernel
theorem d20_34 : decode jdk_35_method_50_code 34 = .ok (.lload_n 0, 1) := by decide +kernel
theorem d20_35 : decode jdk_35_method_50_code 35 = .ok (.lload_n 0, 1) := by decide +kernel
theorem d20_36 : decode jdk_35_method_50_code 36 = .ok (.bipush 8, 2) := by decide +kernel
theorem d20_38 : decode jdk_35_method_50_code 38 = .ok (.lushr, 1) := by decide +kernel
theorem d20_39 : decode jdk_35_method_50_code 39 = .ok (.ladd, 1) := by decide +kernel
theorem d20_40 : decode jdk_35_method_50_code 40 = .ok (.lstore_n 0, 1) := by decide +kernel
theorem d20_41 : decode jdk_35_method_50_code 41 = .ok (.lload_n 0, 1) := by decide +kernel
theorem d20_42 : decode jdk_35_method_50_code 42 = .ok (.lload_n 0, 1) := by decide +kernel
theorem d20_43 : decode jdk_35_method_50_code 43 = .ok (.bipush 16, 2) := by decide +kernel
theorem d20_45 : decode jdk_35_method_50_code 45 = .ok (.lushr, 1) := by decide +kernel
theorem d20_46 : decode jdk_35_method_50_code 46 = .ok (.ladd, 1) := by decide +kernel
theorem d20_47 : decode jdk_35_method_50_code 47 = .ok (.lstore_n 0, 1) := by decide +kernel
theorem d20_48 : decode jdk_35_method_50_code 48 = .ok (.lload_n 0, 1) := by decide +kernel
theorem d20_49 : decode jdk_35_method_50_code 49 = .ok (.lload_n 0, 1) := by decide +kernel
theorem d20_50 : decode jdk_35_method_50_code 50 = .ok (.bipush 32, 2) := by decide +kernel
theorem d20_52 : decode jdk_35_method_50_code 52 = .ok (.lushr, 1) := by decide +kernel
theorem d20_53 : decode jdk_35_method_50_code 53 = .ok (.ladd, 1) := by decide +kernel
theorem d20_54 : decode jdk_35_method_50_code 54 = .ok (.lstore_n 0, 1) := by decide +kernel
theorem d20_55 : decode jdk_35_method_50_code 55 = .ok (.lload_n 0, 1) := by decide +kernel
theorem d20_56 : decode jdk_35_method_50_code 56 = .ok (.l2i, 1) := by decide +kernel
theorem d20_57 : decode jdk_35_method_50_code 57 = .ok (.bipush 127, 2) := by decide +kernel
theorem d20_59 : decode jdk_35_method_50_code 59 = .ok (.iand, 1) := by decide +kernel
theorem d20_60 : decode jdk_35_method_50_code 60 = .ok (.ireturn, 1) := by decide +kernel
theorem d21_0 : decode method_3_code 0 = .ok (.iload_n 0, 1) := by decide +kernel
theorem d21_1 : decode method_3_code 1 = .ok (.bipush 6, 2) := by decide +kernel
theorem d21_3 : decode method_3_code 3 = .ok (.ishr, 1) := by decide +kernel
theorem d21_4 : decode method_3_code 4 = .ok (.iload_n 1, 1) := by decide +kernel
theorem d21_5 : decode method_3_code 5 = .ok (.if_icmp .ne 12, 3) := by decide +kernel
theorem d21_8 : decode method_3_code 8 = .ok (.lconst 1, 1) := by decide +kernel
theorem d21_9 : decode method_3_code 9 = .ok (.iload_n 0, 1) := by decide +kernel
theorem d21_10 : decode method_3_code 10 = .ok (.bipush 63, 2) := by decide +kernel
theorem d21_12 : decode method_3_code 12 = .ok (.iand, 1) := by decide +kernel
theorem d21_13 : decode method_3_code 13 = .ok (.lshl, 1) := by decide +kernel
theorem d21_14 : decode method_3_code 14 = .ok (.goto 4, 3) := by decide +kernel
theorem d21_17 : decode method_3_code 17 = .ok (.lconst 0, 1) := by decide +kernel
theorem d21_18 : decode method_3_code 18 = .ok (.lreturn, 1) := by decide +kernel
theorem d22_0 : decode prog_29_method_14_code 0 = .ok (.iconst 1, 1) := by decide +kernel
theorem d22_1 : decode prog_29_method_14_code 1 = .ok (.istore_n 2, 1) := by decide +kernel
theorem d22_2 : decode prog_29_method_14_code 2 = .ok (.iconst 0, 1) := by decide +kernel
theorem d22_3 : decode prog_29_method_14_code 3 = .ok (.istore_n 3, 1) := by decide +kernel
theorem d22_4 : decode prog_29_method_14_code 4 = .ok (.iload_n 3, 1) := by decide +kernel
theorem d22_5 : decode prog_29_method_14_code 5 = .ok (.aload_n 0, 1) := by decide +kernel
theorem d22_6 : decode prog_29_method_14_code 6 = .ok (.getfield 46, 3) := by decide +kernel
theorem d22_9 : decode prog_29_method_14_code 9 = .ok (.if_icmp .ge 38, 3) := by decide +kernel
theorem d22_12 : decode prog_29_method_14_code 12 = .ok (.iload_n 2, 1) := by decide +kernel
theorem d22_13 : decode prog_29_method_14_code 13 = .ok (.ifCond .eq 34, 3) := by decide +kernel
theorem d22_16 : decode prog_29_method_14_code 16 = .ok (.aload_n 1, 1) := by decide +kernel
theorem d22_17 : decode prog_29_method_14_code 17 = .ok (.iload_n 3, 1) := by decide +kernel
theorem d22_18 : decode prog_29_method_14_code 18 = .ok (.laload, 1) := by decide +kernel
theorem d22_19 : decode prog_29_method_14_code 19 = .ok (.aload_n 0, 1) := by decide +kernel
theorem d22_20 : decode prog_29_method_14_code 20 = .ok (.getfield 54, 3) := by decide +kernel
theorem d22_23 : decode prog_29_method_14_code 23 = .ok (.iload_n 3, 1) := by decide +kernel
theorem d22_24 : decode prog_29_method_14_code 24 = .ok (.laload, 1) := by decide +kernel
theorem d22_25 : decode prog_29_method_14_code 25 = .ok (.ldc2_w 49, 3) := by decide +kernel
theorem d22_28 : decode prog_29_method_14_code 28 = .ok (.lxor, 1) := by decide +kernel
theorem d22_29 : decode prog_29_method_14_code 29 = .ok (.land, 1) := by decide +kernel
theorem d22_30 : decode prog_29_method_14_code 30 = .ok (.lconst 0, 1) := by decide +kernel
theorem d22_31 : decode prog_29_method_14_code 31 = .ok (.lcmp, 1) := by decide +kernel
theorem d22_32 : decode prog_29_method_14_code 32 = .ok (.ifCond .ne 7, 3) := by decide +kernel
theorem d22_35 : decode prog_29_method_14_code 35 = .ok (.iconst 1, 1) := by decide +kernel
theorem d22_36 : decode prog_29_method_14_code 36 = .ok (.goto 4, 3) := by decide +kernel
theorem d22_39 : decode prog_29_method_14_code 39 = .ok (.iconst 0, 1) := by decide +kernel
theorem d22_40 : decode prog_29_method_14_code 40 = .ok (.istore_n 2, 1) := by decide +kernel
theorem d22_41 : decode prog_29_method_14_code 41 = .ok (.iinc 3 1, 3) := by decide +kernel
theorem d22_44 : decode prog_29_method_14_code 44 = .ok (.goto (-40), 3) := by decide +kernel
theorem d22_47 : decode prog_29_method_14_code 47 = .ok (.iload_n 2, 1) := by decide +kernel
theorem d22_48 : decode prog_29_method_14_code 48 = .ok (.ireturn, 1) := by decide +kernel
theorem d23_0 : decode prog_29_method_27_code 0 = .ok (.iload_n 1, 1) := by decide +kernel
theorem d23_1 : decode prog_29_method_27_code 1 = .ok (.ifCond .ge 10, 3) := by decide +kernel
theorem d23_4 : decode prog_29_method_27_code 4 = .ok (.aload_n 0, 1) := by decide +kernel
theorem d23_5 : decode prog_29_method_27_code 5 = .ok (.getfield 42, 3) := by decide +kernel
theorem d23_8 : decode prog_29_method_27_code 8 = .ok (.goto 9, 3) := by decide +kernel
theorem d23_11 : decode prog_29_method_27_code 11 = .ok (.aload_n 0, 1) := by decide +kernel
theorem d23_12 : decode prog_29_method_27_code 12 = .ok (.getfield 19, 3) := by decide +kernel
theorem d23_15 : decode prog_29_method_27_code 15 = .ok (.iload_n 1, 1) := by decide +kernel
theorem d23_16 : decode prog_29_method_27_code 16 = .ok (.iaload, 1) := by decide +kernel
theorem d23_17 : decode prog_29_method_27_code 17 = .ok (.ireturn, 1) := by decide +kernel
theorem d24_0 : decode prog_29_method_23_code 0 = .ok (.aload_n 0, 1) := by decide +kernel
theorem d24_1 : decode prog_29_method_23_code 1 = .ok (.iload_n 1, 1) := by decide +kernel
theorem d24_2 : decode prog_29_method_23_code 2 = .ok (.invokevirtual 216, 3) := by decide +kernel
theorem d24_5 : decode prog_29_method_23_code 5 = .ok (.iconst 1, 1) := by decide +kernel
theorem d24_6 : decode prog_29_method_23_code 6 = .ok (.istore 5, 2) := by decide +kernel
theorem d24_8 : decode prog_29_method_23_code 8 = .ok (.iload_n 1, 1) := by decide +kernel
theorem d24_9 : decode prog_29_method_23_code 9 = .ok (.iconst 1, 1) := by decide +kernel
theorem d24_10 : decode prog_29_method_23_code 10 = .ok (.iadd, 1) := by decide +kernel
theorem d24_11 : decode prog_29_method_23_code 11 = .ok (.istore 6, 2) := by decide +kernel
theorem d24_13 : decode prog_29_method_23_code 13 = .ok (.iload 6, 2) := by decide +kernel
theorem d24_15 : decode prog_29_method_23_code 15 = .ok (.aload_n 0, 1) := by decide +kernel
theorem d24_16 : decode prog_29_method_23_code 16 = .ok (.getfield 188, 3) := by decide +kernel
theorem d24_19 : decode prog_29_method_23_code 19 = .ok (.if_icmp .ge 100, 3) := by decide +kernel
theorem d24_22 : decode prog_29_method_23_code 22 = .ok (.aload_n 0, 1) := by decide +kernel
theorem d24_23 : decode prog_29_method_23_code 23 = .ok (.getfield 7, 3) := by decide +kernel
theorem d24_26 : decode prog_29_method_23_code 26 = .ok (.iload 6, 2) := by decide +kernel
theorem d24_28 : decode prog_29_method_23_code 28 = .ok (.laload, 1) := by decide +kernel
theorem d24_29 : decode prog_29_method_23_code 29 = .ok (.lload_n 2, 1) := by decide +kernel
theorem d24_30 : decode prog_29_method_23_code 30 = .ok (.lcmp, 1) := by decide +kernel
theorem d24_31 : decode prog_29_method_23_code 31 = .ok (.ifCond .ge 88, 3) := by decide +kernel
theorem d24_34 : decode prog_29_method_23_code 34 = .ok (.iload 5, 2) := by decide +kernel
theorem d24_36 : decode prog_29_method_23_code 36 = .ok (.ifCond .eq 83, 3) := by decide +kernel
theorem d24_39 : decode prog_29_method_23_code 39 = .ok (.aload_n 0, 1) := by decide +kernel
theorem d24_40 : decode prog_29_method_23_code 40 = .ok (.getfield 15, 3) := by decide +kernel
theorem d24_43 : decode prog_29_method_23_code 43 = .ok (.iload 6, 2) := by decide +kernel
theorem d24_45 : decode prog_29_method_23_code 45 = .ok (.aaload, 1) := by decide +kernel
theorem d24_46 : decode prog_29_method_23_code 46 = .ok (.astore 7, 2) := by decide +kernel
theorem d24_48 : decode prog_29_method_23_code 48 = .ok (.aload_n 0, 1) := by decide +kernel
theorem d24_49 : decode prog_29_method_23_code 49 = .ok (.aload_n 0, 1) := by decide +kernel
theorem d24_50 : decode prog_29_method_23_code 50 = .ok (.getfield 54, 3) := by decide +kernel
theorem d24_53 : decode prog_29_method_23_code 53 = .ok (.aload 7, 2) := by decide +kernel
theorem d24_55 : decode prog_29_method_23_code 55 = .ok (.getfield 185, 3) := by decide +kernel
theorem d24_58 : decode prog_29_method_23_code 58 = .ok (.invokevirtual 212, 3) := by decide +kernel
theorem d24_61 : decode prog_29_method_23_code 61 = .ok (.aload 7, 2) := by decide +kernel
theorem d24_63 : decode prog_29_method_23_code 63 = .ok (.getfield 104, 3) := by decide +kernel
theorem d24_66 : decode prog_29_method_23_code 66 = .ok (.ifnull 16, 3) := by decide +kernel
theorem d24_69 : decode prog_29_method_23_code 69 = .ok (.aload_n 0, 1) := by decide +kernel
theorem d24_70 : decode prog_29_method_23_code 70 = .ok (.aload_n 0, 1) := by decide +kernel
theorem d24_71 : decode prog_29_method_23_code 71 = .ok (.getfield 54, 3) := by decide +kernel
theorem d24_74 : decode prog_29_method_23_code 74 = .ok (.aload 7, 2) := by decide +kernel
theorem d24_76 : decode prog_29_method_23_code 76 = .ok (.getfield 104, 3) := by decide +kernel
theorem d24_79 : decode prog_29_method_23_code 79 = .ok (.invokevirtual 212, 3) := by decide +kernel
theorem d24_82 : decode prog_29_method_23_code 82 = .ok (.iload 4, 2) := by decide +kernel
theorem d24_84 : decode prog_29_method_23_code 84 = .ok (.ifCond .le 16, 3) := by decide +kernel
theorem d24_87 : decode prog_29_method_23_code 87 = .ok (.aload_n 0, 1) := by decide +kernel
theorem d24_88 : decode prog_29_method_23_code 88 = .ok (.aload_n 0, 1) := by decide +kernel
theorem d24_89 : decode prog_29_method_23_code 89 = .ok (.getfield 54, 3) := by decide +kernel
theorem d24_92 : decode prog_29_method_23_code 92 = .ok (.invokevirtual 168, 3) := by decide +kernel
theorem d24_95 : decode prog_29_method_23_code 95 = .ok (.iload 4, 2) := by decide +kernel
theorem d24_97 : decode prog_29_method_23_code 97 = .ok (.if_icmp .lt 7, 3) := by decide +kernel
theorem d24_100 : decode prog_29_method_23_code 100 = .ok (.iconst 1, 1) := by decide +kernel
theorem d24_101 : decode prog_29_method_23_code 101 = .ok (.goto 4, 3) := by decide +kernel
theorem d24_104 : decode prog_29_method_23_code 104 = .ok (.iconst 0, 1) := by decide +kernel
theorem d24_105 : decode prog_29_method_23_code 105 = .ok (.istore 5, 2) := by decide +kernel
theorem d24_107 : decode prog_29_method_23_code 107 = .ok (.aload_n 0, 1) := by decide +kernel
theorem d24_108 : decode prog_29_method_23_code 108 = .ok (.iload 6, 2) := by decide +kernel
theorem d24_110 : decode prog_29_method_23_code 110 = .ok (.putfield 191, 3) := by decide +kernel
theorem d24_113 : decode prog_29_method_23_code 113 = .ok (.iinc 6 1, 3) := by decide +kernel
theorem d24_116 : decode prog_29_method_23_code 116 = .ok (.goto (-103), 3) := by decide +kernel
theorem d24_119 : decode prog_29_method_23_code 119 = .ok (.iload 5, 2) := by decide +kernel
theorem d24_121 : decode prog_29_method_23_code 121 = .ok (.ireturn, 1) := by decide +kernel
theorem d25_0 : decode prog_29_method_46_code 0 = .ok (.iconst 0, 1) := by decide +kernel
theorem d25_1 : decode prog_29_method_46_code 1 = .ok (.istore_n 3, 1) := by decide +kernel
theorem d25_2 : decode prog_29_method_46_code 2 = .ok (.iload_n 3, 1) := by decide +kernel
theorem d25_3 : decode prog_29_method_46_code 3 = .ok (.aload_n 0, 1) := by decide +kernel
theorem d25_4 : decode prog_29_method_46_code 4 = .ok (.getfield 46, 3) := by decide +kernel
theorem d25_7 : decode prog_29_method_46_code 7 = .ok (.if_icmp .ge 22, 3) := by decide +kernel
theorem d25_10 : decode prog_29_method_46_code 10 = .ok (.aload_n 1, 1) := by decide +kernel
theorem d25_11 : decode prog_29_method_46_code 11 = .ok (.iload_n 3, 1) := by decide +kernel
theorem d25_12 : decode prog_29_method_46_code 12 = .ok (.dup2, 1) := by decide +kernel
theorem d25_13 : decode prog_29_method_46_code 13 = .ok (.laload, 1) := by decide +kernel
theorem d25_14 : decode prog_29_method_46_code 14 = .ok (.aload_n 2, 1) := by decide +kernel
theorem d25_15 : decode prog_29_method_46_code 15 = .ok (.iload_n 3, 1) := by decide +kernel
theorem d25_16 : decode prog_29_method_46_code 16 = .ok (.laload, 1) := by decide +kernel
theorem d25_17 : decode prog_29_method_46_code 17 = .ok (.ldc2_w 49, 3) := by decide +kernel
theorem d25_20 : decode prog_29_method_46_code 20 = .ok (.lxor, 1) := by decide +kernel
theorem d25_21 : decode prog_29_method_46_code 21 = .ok (.land, 1) := by decide +kernel
theorem d25_22 : decode prog_29_method_46_code 22 = .ok (.lastore, 1) := by decide +kernel
theorem d25_23 : decode prog_29_method_46_code 23 = .ok (.iinc 3 1, 3) := by decide +kernel
theorem d25_26 : decode prog_29_method_46_code 26 = .ok (.goto (-24), 3) := by decide +kernel
theorem d25_29 : decode prog_29_method_46_code 29 = .ok (.return_, 1) := by decide +kernel
theorem pn_0 : plainName "org/foreslot/planning/ClusterTimelineHoldsFreePinLaw" = true := by first | (simp [plainName, overriddenIn]; done) | decide +kernel
theorem pn_1 : plainName "org/foreslot/planning/ClusterTimeline" = true := by first | (simp [plainName, overriddenIn]; done) | decide +kernel
theorem pn_2 : plainName "org/foreslot/planning/ClusterTimeline$Stretch" = true := by first | (simp [plainName, overriddenIn]; done) | decide +kernel
theorem pd_0 : parseMethodDescriptor "(J)I" = some ⟨[.long], some .int⟩ := by decide +kernel
theorem pd_1 : parseMethodDescriptor "([J[J)V" = some ⟨[(.array .long), (.array .long)], none⟩ := by decide +kernel
theorem pd_2 : parseMethodDescriptor "([J)Z" = some ⟨[(.array .long)], some .boolean⟩ := by decide +kernel
theorem pd_3 : parseMethodDescriptor "(II)Z" = some ⟨[.int, .int], some .boolean⟩ := by decide +kernel
theorem pd_4 : parseMethodDescriptor "(JJ)J" = some ⟨[.long, .long], some .long⟩ := by decide +kernel
theorem pd_5 : parseMethodDescriptor "([J[JZ)V" = some ⟨[(.array .long), (.array .long), .boolean], none⟩ := by decide +kernel
theorem pd_6 : parseMethodDescriptor "(I)V" = some ⟨[.int], none⟩ := by decide +kernel
theorem pd_7 : parseMethodDescriptor "([I)[J" = some ⟨[(.array .int)], some (.array .long)⟩ := by decide +kernel
theorem pd_8 : parseMethodDescriptor "(JJ[I[JZZ)V" = some ⟨[.long, .long, (.array .int), (.array .long), .boolean, .boolean], none⟩ := by decide +kernel
theorem pd_9 : parseMethodDescriptor "([JJ)V" = some ⟨[(.array .long), .long], none⟩ := by decide +kernel
theorem pd_10 : parseMethodDescriptor "([J)I" = some ⟨[(.array .long)], some .int⟩ := by decide +kernel
theorem pd_11 : parseMethodDescriptor "(IJI)Z" = some ⟨[.int, .long, .int], some .boolean⟩ := by decide +kernel
theorem pd_12 : parseMethodDescriptor "(I)I" = some ⟨[.int], some .int⟩ := by decide +kernel
theorem pd_13 : parseMethodDescriptor "(IJJI)Z" = some ⟨[.int, .long, .long, .int], some .boolean⟩ := by decide +kernel
theorem pd_14 : parseMethodDescriptor "(JJ[I)V" = some ⟨[.long, .long, (.array .int)], none⟩ := by decide +kernel
theorem pd_15 : parseMethodDescriptor "(JJ)V" = some ⟨[.long, .long], none⟩ := by decide +kernel
theorem pd_16 : parseMethodDescriptor "(II)J" = some ⟨[.int, .int], some .long⟩ := by decide +kernel
theorem ef_rmMax (m : MethodId) (p1 : Int64) (p2 : Int64) : entryFrame m #[(.long p1), (.long p2)] 4 = mkF m 0 #[.val (.long p1), .second, .val (.long p2), .second] [] := by first | (simp [entryFrame, mkF, argsToLocals, Value.category]; done) | rfl
set_option maxRecDepth 65536 in
set_option maxHeartbeats 40000000 in
theorem rmMax (l : Launch) (Z : State) (a0 : Array Value) (hw : ∀ d ∈ tables_1, d.before a0 Z = true) (p1 p2 : Int64) (h0 : Heap) (n0 : Nat) (hz0 : Lo n0 h0.size) (hle : p2.toInt ≤ p1.toInt) (ws : List Jvm.Cond) :
    Ctr l (⟨"java/lang/Math", "max", "(JJ)J"⟩ : MethodName) jdk_29_method_66_code 4 (some .long) ({ frames := 0, cells := 0, slots := 0, locals := 0 } : Room) Z n0 #[(.long p1), (.long p2)] h0 (fun v h => v = some (.long p1) ∧ h = h0) ws := by
  refine ctr_of (by decide +kernel) ?_
  intro p e s m below meth c T0 X0 C
  refine go_cast (ef_rmMax m p1 p2) ?_
  obtain ⟨RS, hRS⟩ : ∃ RS, RS = Rs s below n0 (fun v h => v = some (.long p1) ∧ h = h0) ({ frames := 0, cells := 0, slots := 0, locals := 0 } : Room).cells ({ frames := 0, cells := 0, slots := 0, locals := 0 } : Room).slots := ⟨_, rfl⟩
  suffices HG : Go p e below RS T0 (mkF m 0 #[.val (.long p1), .second, .val (.long p2), .second] []) by rw [hRS] at HG; exact HG
  show Go p e below RS T0 (mkF m 0 #[.val (.long p1), .second, .val (.long p2), .second] [])
  refine g_lloadN X0 C d6_0 rfl rfl ?_
  refine g_lloadN X0 C d6_1 rfl rfl ?_
  refine g_lcmp X0 C d6_2 rfl ?_
  refine g_lif_lt (a := p1.toInt) (b := p2.toInt) X0 C d6_3 rfl rfl (by decide) (pT := 10) (by decide) (pF := 6) rfl (fun hc3 => absurd hc3 (by omega)) (fun hc3 => ?_)
  refine g_lloadN X0 C d6_6 rfl rfl ?_
  refine g_goto (pc' := 11) X0 C d6_7 (by decide) (by decide) ?_
  rw [hRS]
  refine g_retJ X0 C d6_11 ?_ (by decide) (by decide)
  exact ⟨rfl, rfl⟩
theorem ef_rmBit (m : MethodId) (p1 : Int32) (p2 : Int32) : entryFrame m #[(.int p1), (.int p2)] 2 = mkF m 0 #[.val (.int p1), .val (.int p2)] [] := by first | (simp [entryFrame, mkF, argsToLocals, Value.category]; done) | rfl
set_option maxRecDepth 65536 in
set_option maxHeartbeats 40000000 in
theorem rmBit (l : Launch) (Z : State) (a0 : Array Value) (hw : ∀ d ∈ tables_1, d.before a0 Z = true) (p1 p2 : Int32) (h0 : Heap) (n0 : Nat) (hz0 : Lo n0 h0.size)  (ws : List Jvm.Cond) :
    Ctr l (⟨"org/foreslot/planning/ClusterTimelineHoldsFreePinLaw", "bit", "(II)J"⟩ : MethodName) method_3_code 2 (some .long) ({ frames := 0, cells := 0, slots := 0, locals := 0 } : Room) Z n0 #[(.int p1), (.int p2)] h0 (fun v h => v = some (.long (own_bit p1 p2)) ∧ h = h0) ws := by
  refine ctr_of (plainFor_of_name pn_0) ?_
  intro p e s m below meth c T0 X0 C
  refine go_cast (ef_rmBit m p1 p2) ?_
  obtain ⟨RS, hRS⟩ : ∃ RS, RS = Rs s below n0 (fun v h => v = some (.long (own_bit p1 p2)) ∧ h = h0) ({ frames := 0, cells := 0, slots := 0, locals := 0 } : Room).cells ({ frames := 0, cells := 0, slots := 0, locals := 0 } : Room).slots := ⟨_, rfl⟩
  suffices HG : Go p e below RS T0 (mkF m 0 #[.val (.int p1), .val (.int p2)] []) by rw [hRS] at HG; exact HG
  show Go p e below RS T0 (mkF m 0 #[.val (.int p1), .val (.int p2)] [])
  refine g_iloadN X0 C d21_0 rfl rfl ?_
  refine g_bipush (v := 6) X0 C d21_1 (by decide) rfl ?_
  refine g_ishr X0 C d21_3 rfl ?_
  refine g_iloadN X0 C d21_4 rfl rfl ?_
  refine g_icmp_ne (a := (p1 >>> ((6 : Int32) &&& 31)).toInt) (b := p2.toInt) X0 C d21_5 rfl rfl (by decide) (pT := 17) (by decide) (pF := 8) rfl (fun hc5 => ?_) (fun hc5 => ?_)
  ·
    refine g_lconst (v := 0) X0 C d21_17 (by decide) rfl ?_
    rw [hRS]
    refine g_retJ X0 C d21_18 ?_ (by decide) (by decide)
    exact ⟨by rw [own_bit, if_neg (by simpa using hc5)], rfl⟩
  ·
    refine g_lconst (v := 1) X0 C d21_8 (by decide) rfl ?_
    refine g_iloadN X0 C d21_9 rfl rfl ?_
    refine g_bipush (v := 63) X0 C d21_10 (by decide) rfl ?_
    refine g_iand X0 C d21_12 rfl ?_
    refine g_lshl X0 C d21_13 rfl ?_
    refine g_goto (pc' := 18) X0 C d21_14 (by decide) (by decide) ?_
    rw [hRS]
    refine g_retJ X0 C d21_18 ?_ (by decide) (by decide)
    exact ⟨by rw [own_bit, if_pos (by simpa using hc5)], rfl⟩
theorem ef_rmBC (m : MethodId) (p1 : Int64) : entryFrame m #[(.long p1)] 2 = mkF m 0 #[.val (.long p1), .second] [] := by first | (simp [entryFrame, mkF, argsToLocals, Value.category]; done) | rfl
set_option maxRecDepth 65536 in
set_option maxHeartbeats 40000000 in
theorem rmBC (l : Launch) (Z : State) (a0 : Array Value) (hw : ∀ d ∈ tables_1, d.before a0 Z = true) (p1 : Int64) (h0 : Heap) (n0 : Nat) (hz0 : Lo n0 h0.size)  (ws : List Jvm.Cond) :
    Ctr l (⟨"java/lang/Long", "bitCount", "(J)I"⟩ : MethodName) jdk_35_method_50_code 2 (some .int) ({ frames := 0, cells := 0, slots := 0, locals := 0 } : Room) Z n0 #[(.long p1)] h0 (fun v h => ∃ r : Int32, v = some (.int r) ∧ h = h0) ws := by
  refine ctr_of (by decide +kernel) ?_
  intro p e s m below meth c T0 X0 C
  refine go_cast (ef_rmBC m p1) ?_
  obtain ⟨RS, hRS⟩ : ∃ RS, RS = Rs s below n0 (fun v h => ∃ r : Int32, v = some (.int r) ∧ h = h0) ({ frames := 0, cells := 0, slots := 0, locals := 0 } : Room).cells ({ frames := 0, cells := 0, slots := 0, locals := 0 } : Room).slots := ⟨_, rfl⟩
  suffices HG : Go p e below RS T0 (mkF m 0 #[.val (.long p1), .second] []) by rw [hRS] at HG; exact HG
  show Go p e below RS T0 (mkF m 0 #[.val (.long p1), .second] [])
  refine g_lloadN X0 C d20_0 rfl rfl ?_
  refine g_lloadN X0 C d20_1 rfl rfl ?_
  refine g_iconst (v := 1) X0 C d20_2 (by decide) rfl ?_
  refine g_lushr X0 C d20_3 rfl ?_
  refine g_ldcJ X0 C (hw _ (List.mem_of_getElem? (i := 157) rfl)) d20_4 rfl ?_
  refine g_land X0 C d20_7 rfl ?_
  refine g_lsub X0 C d20_8 rfl ?_
  obtain ⟨j1, h_j1⟩ : ∃ z, z = (p1 - (((p1.toUInt64 >>> ((1 : Int32) &&& 0x3f).toInt64.toUInt64).toInt64) &&& (6148914691236517205 : Int64))) := ⟨_, rfl⟩
  refine g_lstoreN (L' := #[.val (.long j1), .second]) X0 C d20_9 h_j1 rfl rfl ?_
  refine g_lloadN X0 C d20_10 rfl rfl ?_
  refine g_ldcJ X0 C (hw _ (List.mem_of_getElem? (i := 158) rfl)) d20_11 rfl ?_
  refine g_land X0 C d20_14 rfl ?_
  refine g_lloadN X0 C d20_15 rfl rfl ?_
  refine g_iconst (v := 2) X0 C d20_16 (by decide) rfl ?_
  refine g_lushr X0 C d20_17 rfl ?_
  refine g_ldcJ X0 C (hw _ (List.mem_of_getElem? (i := 158) rfl)) d20_18 rfl ?_
  refine g_land X0 C d20_21 rfl ?_
  refine g_ladd X0 C d20_22 rfl ?_
  obtain ⟨j2, h_j2⟩ : ∃ z, z = ((j1 &&& (3689348814741910323 : Int64)) + (((j1.toUInt64 >>> ((2 : Int32) &&& 0x3f).toInt64.toUInt64).toInt64) &&& (3689348814741910323 : Int64))) := ⟨_, rfl⟩
  refine g_lstoreN (L' := #[.val (.long j2), .second]) X0 C d20_23 h_j2 rfl rfl ?_
  refine g_lloadN X0 C d20_24 rfl rfl ?_
  refine g_lloadN X0 C d20_25 rfl rfl ?_
  refine g_iconst (v := 4) X0 C d20_26 (by decide) rfl ?_
  refine g_lushr X0 C d20_27 rfl ?_
  refine g_ladd X0 C d20_28 rfl ?_
  refine g_ldcJ X0 C (hw _ (List.mem_of_getElem? (i := 159) rfl)) d20_29 rfl ?_
  refine g_land X0 C d20_32 rfl ?_
  obtain ⟨j3, h_j3⟩ : ∃ z, z = ((j2 + ((j2.toUInt64 >>> ((4 : Int32) &&& 0x3f).toInt64.toUInt64).toInt64)) &&& (1085102592571150095 : Int64)) := ⟨_, rfl⟩
  refine g_lstoreN (L' := #[.val (.long j3), .second]) X0 C d20_33 h_j3 rfl rfl ?_
  refine g_lloadN X0 C d20_34 rfl rfl ?_
  refine g_lloadN X0 C d20_35 rfl rfl ?_
  refine g_bipush (v := 8) X0 C d20_36 (by decide) rfl ?_
  refine g_lushr X0 C d20_38 rfl ?_
  refine g_ladd X0 C d20_39 rfl ?_
  obtain ⟨j4, h_j4⟩ : ∃ z, z = (j3 + ((j3.toUInt64 >>> ((8 : Int32) &&& 0x3f).toInt64.toUInt64).toInt64)) := ⟨_, rfl⟩
  refine g_lstoreN (L' := #[.val (.long j4), .second]) X0 C d20_40 h_j4 rfl rfl ?_
  refine g_lloadN X0 C d20_41 rfl rfl ?_
  refine g_lloadN X0 C d20_42 rfl rfl ?_
  refine g_bipush (v := 16) X0 C d20_43 (by decide) rfl ?_
  refine g_lushr X0 C d20_45 rfl ?_
  refine g_ladd X0 C d20_46 rfl ?_
  obtain ⟨j5, h_j5⟩ : ∃ z, z = (j4 + ((j4.toUInt64 >>> ((16 : Int32) &&& 0x3f).toInt64.toUInt64).toInt64)) := ⟨_, rfl⟩
  refine g_lstoreN (L' := #[.val (.long j5), .second]) X0 C d20_47 h_j5 rfl rfl ?_
  refine g_lloadN X0 C d20_48 rfl rfl ?_
  refine g_lloadN X0 C d20_49 rfl rfl ?_
  refine g_bipush (v := 32) X0 C d20_50 (by decide) rfl ?_
  refine g_lushr X0 C d20_52 rfl ?_
  refine g_ladd X0 C d20_53 rfl ?_
  obtain ⟨j6, h_j6⟩ : ∃ z, z = (j5 + ((j5.toUInt64 >>> ((32 : Int32) &&& 0x3f).toInt64.toUInt64).toInt64)) := ⟨_, rfl⟩
  refine g_lstoreN (L' := #[.val (.long j6), .second]) X0 C d20_54 h_j6 rfl rfl ?_
  refine g_lloadN X0 C d20_55 rfl rfl ?_
  refine g_l2i X0 C d20_56 rfl ?_
  refine g_bipush (v := 127) X0 C d20_57 (by decide) rfl ?_
  refine g_iand X0 C d20_59 rfl ?_
  rw [hRS]
  refine g_retI X0 C d20_60 ?_ (by decide) (by decide)
  exact ⟨_, rfl, rfl⟩
theorem ef_rmFill (m : MethodId) (a1 : Addr) (p2 : Int64) : entryFrame m #[(.ref a1), (.long p2)] 5 = mkF m 0 #[.val (.ref a1), .val (.long p2), .second, .unset, .unset] [] := by first | (simp [entryFrame, mkF, argsToLocals, Value.category]; done) | rfl
set_option maxRecDepth 65536 in
set_option maxHeartbeats 40000000 in
theorem rmFill (l : Launch) (Z : State) (a0 : Array Value) (hw : ∀ d ∈ tables_1, d.before a0 Z = true) (a1 : Addr) (p2 : Int64) (wn : Nat) (wv : Int32) (g : Nat → Int64) (h0 : Heap) (n0 : Nat) (hz0 : Lo n0 h0.size) (hwn : own_W wn wv) (ga_a1 : Lo n0 a1) (A_a1 : Ar Z h0 a1 .long wn (fun j_ => .long (g j_))) (ws : List Jvm.Cond) :
    Ctr l (⟨"java/util/Arrays", "fill", "([JJ)V"⟩ : MethodName) jdk_65_method_101_code 5 none ({ frames := 0, cells := 0, slots := 0, locals := 0 } : Room) Z n0 #[(.ref a1), (.long p2)] h0 (fun v h => v = none ∧ Keep h0 h [a1] ∧ Ar Z h a1 .long wn (fun _ => .long p2)) ws := by
  refine ctr_of (by decide +kernel) ?_
  intro p e s m below meth c T0 X0 C
  refine go_cast (ef_rmFill m a1 p2) ?_
  obtain ⟨RS, hRS⟩ : ∃ RS, RS = Rs s below n0 (fun v h => v = none ∧ Keep h0 h [a1] ∧ Ar Z h a1 .long wn (fun _ => .long p2)) ({ frames := 0, cells := 0, slots := 0, locals := 0 } : Room).cells ({ frames := 0, cells := 0, slots := 0, locals := 0 } : Room).slots := ⟨_, rfl⟩
  suffices HG : Go p e below RS T0 (mkF m 0 #[.val (.ref a1), .val (.long p2), .second, .unset, .unset] []) by rw [hRS] at HG; exact HG
  show Go p e below RS T0 (mkF m 0 #[.val (.ref a1), .val (.long p2), .second, .unset, .unset] [])
  rcases hwn with ⟨rfl, rfl⟩ | ⟨rfl, rfl⟩
  ·
    show Go p e below RS T0 (mkF m 0 #[.val (.ref a1), .val (.long p2), .second, .unset, .unset] [])
    refine g_iconst (v := 0) X0 C d18_0 (by decide) rfl ?_
    refine g_istoreN (L' := #[.val (.ref a1), .val (.long p2), .second, .val (.int (0 : Int32)), .unset]) X0 C d18_1 rfl rfl rfl ?_
    refine g_aloadN X0 C d18_2 rfl rfl rfl ?_
    refine g_arrlen (z := (1 : Int32)) X0 C A_a1 rfl d18_3 rfl ?_
    refine g_istore (L' := #[.val (.ref a1), .val (.long p2), .second, .val (.int (0 : Int32)), .val (.int (1 : Int32))]) X0 C d18_4 rfl rfl rfl ?_
    refine g_iloadN X0 C d18_6 rfl rfl ?_
    refine g_iload X0 C d18_7 rfl rfl ?_
    refine g_icmp_ge (a := 0) (b := 1) X0 C d18_9 (by decide) (by decide) (by decide) (pT := 22) (by decide) (pF := 12) rfl (fun hc9 => absurd hc9 (by omega)) (fun hc9 => ?_)
    refine g_aloadN X0 C d18_12 rfl rfl rfl ?_
    refine g_iloadN X0 C d18_13 rfl rfl ?_
    refine g_lloadN X0 C d18_14 rfl rfl ?_
    refine g_lastore (i := 0) X0 C A_a1 (by decide) (by decide) ga_a1 d18_15 rfl (fun T7 h9 X8 A_a1 K10 => ?_)
    have hz11 : Lo n0 h9.size := Lo.keep hz0 K10
    have KK12 := (Keep.refl h0 [a1]).trans K10 (allS (Or.inl (List.mem_of_getElem? (i := 0) rfl)) all0)
    refine g_iinc (v' := (1 : Int32)) (L' := #[.val (.ref a1), .val (.long p2), .second, .val (.int (1 : Int32)), .val (.int (1 : Int32))]) X8 C d18_16 rfl (by decide) rfl rfl ?_
    refine g_goto (pc' := 6) X8 C d18_19 (by decide) (by decide) ?_
    refine g_iloadN X8 C d18_6 rfl rfl ?_
    refine g_iload X8 C d18_7 rfl rfl ?_
    refine g_icmp_ge (a := 1) (b := 1) X8 C d18_9 (by decide) (by decide) (by decide) (pT := 22) (by decide) (pF := 12) rfl (fun hc9 => ?_) (fun hc9 => absurd hc9 (by omega))
    rw [hRS]
    refine g_retV X8 C d18_22 ?_ (by decide) (by decide)
    refine ⟨rfl, KK12, A_a1.congr (fun j hj => ?_)⟩
    have hj' : j = 0 := by omega
    rcases hj' with rfl <;> rfl
  ·
    show Go p e below RS T0 (mkF m 0 #[.val (.ref a1), .val (.long p2), .second, .unset, .unset] [])
    refine g_iconst (v := 0) X0 C d18_0 (by decide) rfl ?_
    refine g_istoreN (L' := #[.val (.ref a1), .val (.long p2), .second, .val (.int (0 : Int32)), .unset]) X0 C d18_1 rfl rfl rfl ?_
    refine g_aloadN X0 C d18_2 rfl rfl rfl ?_
    refine g_arrlen (z := (2 : Int32)) X0 C A_a1 rfl d18_3 rfl ?_
    refine g_istore (L' := #[.val (.ref a1), .val (.long p2), .second, .val (.int (0 : Int32)), .val (.int (2 : Int32))]) X0 C d18_4 rfl rfl rfl ?_
    refine g_iloadN X0 C d18_6 rfl rfl ?_
    refine g_iload X0 C d18_7 rfl rfl ?_
    refine g_icmp_ge (a := 0) (b := 2) X0 C d18_9 (by decide) (by decide) (by decide) (pT := 22) (by decide) (pF := 12) rfl (fun hc9 => absurd hc9 (by omega)) (fun hc9 => ?_)
    refine g_aloadN X0 C d18_12 rfl rfl rfl ?_
    refine g_iloadN X0 C d18_13 rfl rfl ?_
    refine g_lloadN X0 C d18_14 rfl rfl ?_
    refine g_lastore (i := 0) X0 C A_a1 (by decide) (by decide) ga_a1 d18_15 rfl (fun T13 h15 X14 A_a1 K16 => ?_)
    have hz17 : Lo n0 h15.size := Lo.keep hz0 K16
    have KK18 := (Keep.refl h0 [a1]).trans K16 (allS (Or.inl (List.mem_of_getElem? (i := 0) rfl)) all0)
    refine g_iinc (v' := (1 : Int32)) (L' := #[.val (.ref a1), .val (.long p2), .second, .val (.int (1 : Int32)), .val (.int (2 : Int32))]) X14 C d18_16 rfl (by decide) rfl rfl ?_
    refine g_goto (pc' := 6) X14 C d18_19 (by decide) (by decide) ?_
    refine g_iloadN X14 C d18_6 rfl rfl ?_
    refine g_iload X14 C d18_7 rfl rfl ?_
    refine g_icmp_ge (a := 1) (b := 2) X14 C d18_9 (by decide) (by decide) (by decide) (pT := 22) (by decide) (pF := 12) rfl (fun hc9 => absurd hc9 (by omega)) (fun hc9 => ?_)
    refine g_aloadN X14 C d18_12 rfl rfl rfl ?_
    refine g_iloadN X14 C d18_13 rfl rfl ?_
    refine g_lloadN X14 C d18_14 rfl rfl ?_
    refine g_lastore (i := 1) X14 C A_a1 (by decide) (by decide) ga_a1 d18_15 rfl (fun T19 h21 X20 A_a1 K22 => ?_)
    have hz23 : Lo n0 h21.size := Lo.keep hz17 K22
    have KK24 := KK18.trans K22 (allS (Or.inl (List.mem_of_getElem? (i := 0) rfl)) all0)
    refine g_iinc (v' := (2 : Int32)) (L' := #[.val (.ref a1), .val (.long p2), .second, .val (.int (2 : Int32)), .val (.int (2 : Int32))]) X20 C d18_16 rfl (by decide) rfl rfl ?_
    refine g_goto (pc' := 6) X20 C d18_19 (by decide) (by decide) ?_
    refine g_iloadN X20 C d18_6 rfl rfl ?_
    refine g_iload X20 C d18_7 rfl rfl ?_
    refine g_icmp_ge (a := 2) (b := 2) X20 C d18_9 (by decide) (by decide) (by decide) (pT := 22) (by decide) (pF := 12) rfl (fun hc9 => ?_) (fun hc9 => absurd hc9 (by omega))
    rw [hRS]
    refine g_retV X20 C d18_22 ?_ (by decide) (by decide)
    refine ⟨rfl, KK24, A_a1.congr (fun j hj => ?_)⟩
    have hj' : j = 0 ∨ j = 1 := by omega
    rcases hj' with rfl | rfl <;> rfl
theorem ef_rmPut (m : MethodId) (a1 : Addr) (a2 : Addr) (a3 : Addr) (p4 : Int32) : entryFrame m #[(.ref a1), (.ref a2), (.ref a3), (.int p4)] 5 = mkF m 0 #[.val (.ref a1), .val (.ref a2), .val (.ref a3), .val (.int p4), .unset] [] := by first | (simp [entryFrame, mkF, argsToLocals, Value.category]; done) | rfl
set_option maxRecDepth 65536 in
set_option maxHeartbeats 40000000 in
theorem rmPut (l : Launch) (Z : State) (a0 : Array Value) (hw : ∀ d ∈ tables_1, d.before a0 Z = true) (a1 a2 a3 : Addr) (p4 : Int32) (tm sr ub fd c5 c6 c7 c8 : Addr) (nn wv : Int32) (lw : Int64) (bl : Int32) (sz : Int32) (wn : Nat) (g2 g3 : Nat → Int64) (h0 : Heap) (n0 : Nat) (hz0 : Lo n0 h0.size) (hwn : own_W wn wv) (hp4 : p4.toInt = 1) (ga_a2 : Lo n0 a2) (ne12 : NE a1 a2) (ne32 : NE a3 a2) (O_a1 : Ob Z h0 a1 "org/foreslot/planning/ClusterTimeline" NS_CT [(.ref tm), (.ref sr), (.ref ub), (.long (-9223372036854775808 : Int64)), (.long (1 : Int64)), (.long (9223372036854775807 : Int64)), (.long (-9223372036854775808 : Int64)), (.int nn), (.int wv), (.long lw), (.ref fd), (.ref c5), (.ref c6), (.ref c7), (.ref c8), (.int sz), (.int bl)]) (A_a2 : Ar Z h0 a2 .long wn (fun j_ => .long (g2 j_))) (A_a3 : Ar Z h0 a3 .long wn (fun j_ => .long (g3 j_))) (ws : List Jvm.Cond) :
    Ctr l (⟨"org/foreslot/planning/ClusterTimeline", "put", "([J[JZ)V"⟩ : MethodName) prog_29_method_34_code 5 none ({ frames := 0, cells := 0, slots := 0, locals := 0 } : Room) Z n0 #[(.ref a1), (.ref a2), (.ref a3), (.int p4)] h0 (fun v h => v = none ∧ Keep h0 h [a2] ∧ Ar Z h a2 .long wn (fun k => .long (g2 k ||| g3 k))) ws := by
  refine ctr_of (plainFor_of_name pn_1) ?_
  intro p e s m below meth c T0 X0 C
  refine go_cast (ef_rmPut m a1 a2 a3 p4) ?_
  obtain ⟨RS, hRS⟩ : ∃ RS, RS = Rs s below n0 (fun v h => v = none ∧ Keep h0 h [a2] ∧ Ar Z h a2 .long wn (fun k => .long (g2 k ||| g3 k))) ({ frames := 0, cells := 0, slots := 0, locals := 0 } : Room).cells ({ frames := 0, cells := 0, slots := 0, locals := 0 } : Room).slots := ⟨_, rfl⟩
  suffices HG : Go p e below RS T0 (mkF m 0 #[.val (.ref a1), .val (.ref a2), .val (.ref a3), .val (.int p4), .unset] []) by rw [hRS] at HG; exact HG
  show Go p e below RS T0 (mkF m 0 #[.val (.ref a1), .val (.ref a2), .val (.ref a3), .val (.int p4), .unset] [])
  rcases hwn with ⟨rfl, rfl⟩ | ⟨rfl, rfl⟩
  ·
    show Go p e below RS T0 (mkF m 0 #[.val (.ref a1), .val (.ref a2), .val (.ref a3), .val (.int p4), .unset] [])
    refine g_iconst (v := 0) X0 C d10_0 (by decide) rfl ?_
    refine g_istore (L' := #[.val (.ref a1), .val (.ref a2), .val (.ref a3), .val (.int p4), .val (.int (0 : Int32))]) X0 C d10_1 rfl rfl rfl ?_
    refine g_iload X0 C d10_3 rfl rfl ?_
    refine g_aloadN X0 C d10_5 rfl rfl rfl ?_
    refine g_getO (i := 8) X0 C O_a1 rfl rfl (host := "") (Or.inl (hw _ (List.mem_of_getElem? (i := 31) rfl))) d10_6 rfl (fun T25 X26 => ?_)
    refine g_icmp_ge (a := 0) (b := 1) X26 C d10_9 (by decide) (by decide) (by decide) (pT := 51) (by decide) (pF := 12) rfl (fun hc9 => absurd hc9 (by omega)) (fun hc9 => ?_)
    refine g_aloadN X26 C d10_12 rfl rfl rfl ?_
    refine g_iload X26 C d10_13 rfl rfl ?_
    refine g_iloadN X26 C d10_15 rfl rfl ?_
    refine g_if_eq (a := p4.toInt) X26 C d10_16 rfl (by decide) (pT := 31) (by decide) (pF := 19) rfl (fun hc16 => absurd hc16 (by omega)) (fun hc16 => ?_)
    refine g_aloadN X26 C d10_19 rfl rfl rfl ?_
    refine g_iload X26 C d10_20 rfl rfl ?_
    refine g_laload (i := 0) (v := (.long (g2 0))) X26 C A_a2 (by decide) (by decide) rfl d10_22 rfl ?_
    refine g_aloadN X26 C d10_23 rfl rfl rfl ?_
    refine g_iload X26 C d10_24 rfl rfl ?_
    refine g_laload (i := 0) (v := (.long (g3 0))) X26 C A_a3 (by decide) (by decide) rfl d10_26 rfl ?_
    refine g_lor X26 C d10_27 rfl ?_
    refine g_goto (pc' := 44) X26 C d10_28 (by decide) (by decide) ?_
    refine g_lastore (i := 0) X26 C A_a2 (by decide) (by decide) ga_a2 d10_44 rfl (fun T27 h29 X28 A_a2 K30 => ?_)
    have O_a1 := O_a1.keep K30 (ninN ne12 nin0)
    have A_a3 := A_a3.keep K30 (ninN ne32 nin0)
    have hz31 : Lo n0 h29.size := Lo.keep hz0 K30
    have KK32 := (Keep.refl h0 [a2]).trans K30 (allS (Or.inl (List.mem_of_getElem? (i := 0) rfl)) all0)
    refine g_iinc (v' := (1 : Int32)) (L' := #[.val (.ref a1), .val (.ref a2), .val (.ref a3), .val (.int p4), .val (.int (1 : Int32))]) X28 C d10_45 rfl (by decide) rfl rfl ?_
    refine g_goto (pc' := 3) X28 C d10_48 (by decide) (by decide) ?_
    refine g_iload X28 C d10_3 rfl rfl ?_
    refine g_aloadN X28 C d10_5 rfl rfl rfl ?_
    refine g_getO (i := 8) X28 C O_a1 rfl rfl (host := "") (Or.inl (hw _ (List.mem_of_getElem? (i := 31) rfl))) d10_6 rfl (fun T33 X34 => ?_)
    refine g_icmp_ge (a := 1) (b := 1) X34 C d10_9 (by decide) (by decide) (by decide) (pT := 51) (by decide) (pF := 12) rfl (fun hc9 => ?_) (fun hc9 => absurd hc9 (by omega))
    rw [hRS]
    refine g_retV X34 C d10_51 ?_ (by decide) (by decide)
    refine ⟨rfl, KK32, A_a2.congr (fun j hj => ?_)⟩
    have hj' : j = 0 := by omega
    rcases hj' with rfl <;> first | rfl | (simp [own_nb]; done) | (simp only [own_nb]; rfl)
  ·
    show Go p e below RS T0 (mkF m 0 #[.val (.ref a1), .val (.ref a2), .val (.ref a3), .val (.int p4), .unset] [])
    refine g_iconst (v := 0) X0 C d10_0 (by decide) rfl ?_
    refine g_istore (L' := #[.val (.ref a1), .val (.ref a2), .val (.ref a3), .val (.int p4), .val (.int (0 : Int32))]) X0 C d10_1 rfl rfl rfl ?_
    refine g_iload X0 C d10_3 rfl rfl ?_
    refine g_aloadN X0 C d10_5 rfl rfl rfl ?_
    refine g_getO (i := 8) X0 C O_a1 rfl rfl (host := "") (Or.inl (hw _ (List.mem_of_getElem? (i := 31) rfl))) d10_6 rfl (fun T35 X36 => ?_)
    refine g_icmp_ge (a := 0) (b := 2) X36 C d10_9 (by decide) (by decide) (by decide) (pT := 51) (by decide) (pF := 12) rfl (fun hc9 => absurd hc9 (by omega)) (fun hc9 => ?_)
    refine g_aloadN X36 C d10_12 rfl rfl rfl ?_
    refine g_iload X36 C d10_13 rfl rfl ?_
    refine g_iloadN X36 C d10_15 rfl rfl ?_
    refine g_if_eq (a := p4.toInt) X36 C d10_16 rfl (by decide) (pT := 31) (by decide) (pF := 19) rfl (fun hc16 => absurd hc16 (by omega)) (fun hc16 => ?_)
    refine g_aloadN X36 C d10_19 rfl rfl rfl ?_
    refine g_iload X36 C d10_20 rfl rfl ?_
    refine g_laload (i := 0) (v := (.long (g2 0))) X36 C A_a2 (by decide) (by decide) rfl d10_22 rfl ?_
    refine g_aloadN X36 C d10_23 rfl rfl rfl ?_
    refine g_iload X36 C d10_24 rfl rfl ?_
    refine g_laload (i := 0) (v := (.long (g3 0))) X36 C A_a3 (by decide) (by decide) rfl d10_26 rfl ?_
    refine g_lor X36 C d10_27 rfl ?_
    refine g_goto (pc' := 44) X36 C d10_28 (by decide) (by decide) ?_
    refine g_lastore (i := 0) X36 C A_a2 (by decide) (by decide) ga_a2 d10_44 rfl (fun T37 h39 X38 A_a2 K40 => ?_)
    have O_a1 := O_a1.keep K40 (ninN ne12 nin0)
    have A_a3 := A_a3.keep K40 (ninN ne32 nin0)
    have hz41 : Lo n0 h39.size := Lo.keep hz0 K40
    have KK42 := (Keep.refl h0 [a2]).trans K40 (allS (Or.inl (List.mem_of_getElem? (i := 0) rfl)) all0)
    refine g_iinc (v' := (1 : Int32)) (L' := #[.val (.ref a1), .val (.ref a2), .val (.ref a3), .val (.int p4), .val (.int (1 : Int32))]) X38 C d10_45 rfl (by decide) rfl rfl ?_
    refine g_goto (pc' := 3) X38 C d10_48 (by decide) (by decide) ?_
    refine g_iload X38 C d10_3 rfl rfl ?_
    refine g_aloadN X38 C d10_5 rfl rfl rfl ?_
    refine g_getO (i := 8) X38 C O_a1 rfl rfl (host := "") (Or.inl (hw _ (List.mem_of_getElem? (i := 31) rfl))) d10_6 rfl (fun T43 X44 => ?_)
    refine g_icmp_ge (a := 1) (b := 2) X44 C d10_9 (by decide) (by decide) (by decide) (pT := 51) (by decide) (pF := 12) rfl (fun hc9 => absurd hc9 (by omega)) (fun hc9 => ?_)
    refine g_aloadN X44 C d10_12 rfl rfl rfl ?_
    refine g_iload X44 C d10_13 rfl rfl ?_
    refine g_iloadN X44 C d10_15 rfl rfl ?_
    refine g_if_eq (a := p4.toInt) X44 C d10_16 rfl (by decide) (pT := 31) (by decide) (pF := 19) rfl (fun hc16 => absurd hc16 (by omega)) (fun hc16 => ?_)
    refine g_aloadN X44 C d10_19 rfl rfl rfl ?_
    refine g_iload X44 C d10_20 rfl rfl ?_
    refine g_laload (i := 1) (v := (.long (g2 1))) X44 C A_a2 (by decide) (by decide) rfl d10_22 rfl ?_
    refine g_aloadN X44 C d10_23 rfl rfl rfl ?_
    refine g_iload X44 C d10_24 rfl rfl ?_
    refine g_laload (i := 1) (v := (.long (g3 1))) X44 C A_a3 (by decide) (by decide) rfl d10_26 rfl ?_
    refine g_lor X44 C d10_27 rfl ?_
    refine g_goto (pc' := 44) X44 C d10_28 (by decide) (by decide) ?_
    refine g_lastore (i := 1) X44 C A_a2 (by decide) (by decide) ga_a2 d10_44 rfl (fun T45 h47 X46 A_a2 K48 => ?_)
    have O_a1 := O_a1.keep K48 (ninN ne12 nin0)
    have A_a3 := A_a3.keep K48 (ninN ne32 nin0)
    have hz49 : Lo n0 h47.size := Lo.keep hz41 K48
    have KK50 := KK42.trans K48 (allS (Or.inl (List.mem_of_getElem? (i := 0) rfl)) all0)
    refine g_iinc (v' := (2 : Int32)) (L' := #[.val (.ref a1), .val (.ref a2), .val (.ref a3), .val (.int p4), .val (.int (2 : Int32))]) X46 C d10_45 rfl (by decide) rfl rfl ?_
    refine g_goto (pc' := 3) X46 C d10_48 (by decide) (by decide) ?_
    refine g_iload X46 C d10_3 rfl rfl ?_
    refine g_aloadN X46 C d10_5 rfl rfl rfl ?_
    refine g_getO (i := 8) X46 C O_a1 rfl rfl (host := "") (Or.inl (hw _ (List.mem_of_getElem? (i := 31) rfl))) d10_6 rfl (fun T51 X52 => ?_)
    refine g_icmp_ge (a := 2) (b := 2) X52 C d10_9 (by decide) (by decide) (by decide) (pT := 51) (by decide) (pF := 12) rfl (fun hc9 => ?_) (fun hc9 => absurd hc9 (by omega))
    rw [hRS]
    refine g_retV X52 C d10_51 ?_ (by decide) (by decide)
    refine ⟨rfl, KK50, A_a2.congr (fun j hj => ?_)⟩
    have hj' : j = 0 ∨ j = 1 := by omega
    rcases hj' with rfl | rfl <;> first | rfl | (simp [own_nb]; done) | (simp only [own_nb]; rfl)
theorem ef_rmTake (m : MethodId) (a1 : Addr) (a2 : Addr) (a3 : Addr) : entryFrame m #[(.ref a1), (.ref a2), (.ref a3)] 4 = mkF m 0 #[.val (.ref a1), .val (.ref a2), .val (.ref a3), .unset] [] := by first | (simp [entryFrame, mkF, argsToLocals, Value.category]; done) | rfl
set_option maxRecDepth 65536 in
set_option maxHeartbeats 40000000 in
theorem rmTake (l : Launch) (Z : State) (a0 : Array Value) (hw : ∀ d ∈ tables_1, d.before a0 Z = true) (a1 a2 a3 : Addr) (tm sr ub fd c5 c6 c7 c8 : Addr) (nn wv : Int32) (lw : Int64) (bl : Int32) (sz : Int32) (wn : Nat) (g2 g3 : Nat → Int64) (h0 : Heap) (n0 : Nat) (hz0 : Lo n0 h0.size) (hwn : own_W wn wv) (ga_a2 : Lo n0 a2) (ne12 : NE a1 a2) (ne32 : NE a3 a2) (O_a1 : Ob Z h0 a1 "org/foreslot/planning/ClusterTimeline" NS_CT [(.ref tm), (.ref sr), (.ref ub), (.long (-9223372036854775808 : Int64)), (.long (1 : Int64)), (.long (9223372036854775807 : Int64)), (.long (-9223372036854775808 : Int64)), (.int nn), (.int wv), (.long lw), (.ref fd), (.ref c5), (.ref c6), (.ref c7), (.ref c8), (.int sz), (.int bl)]) (A_a2 : Ar Z h0 a2 .long wn (fun j_ => .long (g2 j_))) (A_a3 : Ar Z h0 a3 .long wn (fun j_ => .long (g3 j_))) (ws : List Jvm.Cond) :
    Ctr l (⟨"org/foreslot/planning/ClusterTimeline", "takeAway", "([J[J)V"⟩ : MethodName) prog_29_method_46_code 4 none ({ frames := 0, cells := 0, slots := 0, locals := 0 } : Room) Z n0 #[(.ref a1), (.ref a2), (.ref a3)] h0 (fun v h => v = none ∧ Keep h0 h [a2] ∧ Ar Z h a2 .long wn (fun k => .long (g2 k &&& (g3 k ^^^ (-1))))) ws := by
  refine ctr_of (plainFor_of_name pn_1) ?_
  intro p e s m below meth c T0 X0 C
  refine go_cast (ef_rmTake m a1 a2 a3) ?_
  obtain ⟨RS, hRS⟩ : ∃ RS, RS = Rs s below n0 (fun v h => v = none ∧ Keep h0 h [a2] ∧ Ar Z h a2 .long wn (fun k => .long (g2 k &&& (g3 k ^^^ (-1))))) ({ frames := 0, cells := 0, slots := 0, locals := 0 } : Room).cells ({ frames := 0, cells := 0, slots := 0, locals := 0 } : Room).slots := ⟨_, rfl⟩
  suffices HG : Go p e below RS T0 (mkF m 0 #[.val (.ref a1), .val (.ref a2), .val (.ref a3), .unset] []) by rw [hRS] at HG; exact HG
  show Go p e below RS T0 (mkF m 0 #[.val (.ref a1), .val (.ref a2), .val (.ref a3), .unset] [])
  rcases hwn with ⟨rfl, rfl⟩ | ⟨rfl, rfl⟩
  ·
    show Go p e below RS T0 (mkF m 0 #[.val (.ref a1), .val (.ref a2), .val (.ref a3), .unset] [])
    refine g_iconst (v := 0) X0 C d25_0 (by decide) rfl ?_
    refine g_istoreN (L' := #[.val (.ref a1), .val (.ref a2), .val (.ref a3), .val (.int (0 : Int32))]) X0 C d25_1 rfl rfl rfl ?_
    refine g_iloadN X0 C d25_2 rfl rfl ?_
    refine g_aloadN X0 C d25_3 rfl rfl rfl ?_
    refine g_getO (i := 8) X0 C O_a1 rfl rfl (host := "") (Or.inl (hw _ (List.mem_of_getElem? (i := 31) rfl))) d25_4 rfl (fun T53 X54 => ?_)
    refine g_icmp_ge (a := 0) (b := 1) X54 C d25_7 (by decide) (by decide) (by decide) (pT := 29) (by decide) (pF := 10) rfl (fun hc7 => absurd hc7 (by omega)) (fun hc7 => ?_)
    refine g_aloadN X54 C d25_10 rfl rfl rfl ?_
    refine g_iloadN X54 C d25_11 rfl rfl ?_
    refine g_dup2 X54 C d25_12 rfl rfl rfl ?_
    refine g_laload (i := 0) (v := (.long (g2 0))) X54 C A_a2 (by decide) (by decide) rfl d25_13 rfl ?_
    refine g_aloadN X54 C d25_14 rfl rfl rfl ?_
    refine g_iloadN X54 C d25_15 rfl rfl ?_
    refine g_laload (i := 0) (v := (.long (g3 0))) X54 C A_a3 (by decide) (by decide) rfl d25_16 rfl ?_
    refine g_ldcJ X54 C (hw _ (List.mem_of_getElem? (i := 144) rfl)) d25_17 rfl ?_
    refine g_lxor X54 C d25_20 rfl ?_
    refine g_land X54 C d25_21 rfl ?_
    refine g_lastore (i := 0) X54 C A_a2 (by decide) (by decide) ga_a2 d25_22 rfl (fun T55 h57 X56 A_a2 K58 => ?_)
    have O_a1 := O_a1.keep K58 (ninN ne12 nin0)
    have A_a3 := A_a3.keep K58 (ninN ne32 nin0)
    have hz59 : Lo n0 h57.size := Lo.keep hz0 K58
    have KK60 := (Keep.refl h0 [a2]).trans K58 (allS (Or.inl (List.mem_of_getElem? (i := 0) rfl)) all0)
    refine g_iinc (v' := (1 : Int32)) (L' := #[.val (.ref a1), .val (.ref a2), .val (.ref a3), .val (.int (1 : Int32))]) X56 C d25_23 rfl (by decide) rfl rfl ?_
    refine g_goto (pc' := 2) X56 C d25_26 (by decide) (by decide) ?_
    refine g_iloadN X56 C d25_2 rfl rfl ?_
    refine g_aloadN X56 C d25_3 rfl rfl rfl ?_
    refine g_getO (i := 8) X56 C O_a1 rfl rfl (host := "") (Or.inl (hw _ (List.mem_of_getElem? (i := 31) rfl))) d25_4 rfl (fun T61 X62 => ?_)
    refine g_icmp_ge (a := 1) (b := 1) X62 C d25_7 (by decide) (by decide) (by decide) (pT := 29) (by decide) (pF := 10) rfl (fun hc7 => ?_) (fun hc7 => absurd hc7 (by omega))
    rw [hRS]
    refine g_retV X62 C d25_29 ?_ (by decide) (by decide)
    refine ⟨rfl, KK60, A_a2.congr (fun j hj => ?_)⟩
    have hj' : j = 0 := by omega
    rcases hj' with rfl <;> first | rfl | (simp [own_nb]; done) | (simp only [own_nb]; rfl)
  ·
    show Go p e below RS T0 (mkF m 0 #[.val (.ref a1), .val (.ref a2), .val (.ref a3), .unset] [])
    refine g_iconst (v := 0) X0 C d25_0 (by decide) rfl ?_
    refine g_istoreN (L' := #[.val (.ref a1), .val (.ref a2), .val (.ref a3), .val (.int (0 : Int32))]) X0 C d25_1 rfl rfl rfl ?_
    refine g_iloadN X0 C d25_2 rfl rfl ?_
    refine g_aloadN X0 C d25_3 rfl rfl rfl ?_
    refine g_getO (i := 8) X0 C O_a1 rfl rfl (host := "") (Or.inl (hw _ (List.mem_of_getElem? (i := 31) rfl))) d25_4 rfl (fun T63 X64 => ?_)
    refine g_icmp_ge (a := 0) (b := 2) X64 C d25_7 (by decide) (by decide) (by decide) (pT := 29) (by decide) (pF := 10) rfl (fun hc7 => absurd hc7 (by omega)) (fun hc7 => ?_)
    refine g_aloadN X64 C d25_10 rfl rfl rfl ?_
    refine g_iloadN X64 C d25_11 rfl rfl ?_
    refine g_dup2 X64 C d25_12 rfl rfl rfl ?_
    refine g_laload (i := 0) (v := (.long (g2 0))) X64 C A_a2 (by decide) (by decide) rfl d25_13 rfl ?_
    refine g_aloadN X64 C d25_14 rfl rfl rfl ?_
    refine g_iloadN X64 C d25_15 rfl rfl ?_
    refine g_laload (i := 0) (v := (.long (g3 0))) X64 C A_a3 (by decide) (by decide) rfl d25_16 rfl ?_
    refine g_ldcJ X64 C (hw _ (List.mem_of_getElem? (i := 144) rfl)) d25_17 rfl ?_
    refine g_lxor X64 C d25_20 rfl ?_
    refine g_land X64 C d25_21 rfl ?_
    refine g_lastore (i := 0) X64 C A_a2 (by decide) (by decide) ga_a2 d25_22 rfl (fun T65 h67 X66 A_a2 K68 => ?_)
    have O_a1 := O_a1.keep K68 (ninN ne12 nin0)
    have A_a3 := A_a3.keep K68 (ninN ne32 nin0)
    have hz69 : Lo n0 h67.size := Lo.keep hz0 K68
    have KK70 := (Keep.refl h0 [a2]).trans K68 (allS (Or.inl (List.mem_of_getElem? (i := 0) rfl)) all0)
    refine g_iinc (v' := (1 : Int32)) (L' := #[.val (.ref a1), .val (.ref a2), .val (.ref a3), .val (.int (1 : Int32))]) X66 C d25_23 rfl (by decide) rfl rfl ?_
    refine g_goto (pc' := 2) X66 C d25_26 (by decide) (by decide) ?_
    refine g_iloadN X66 C d25_2 rfl rfl ?_
    refine g_aloadN X66 C d25_3 rfl rfl rfl ?_
    refine g_getO (i := 8) X66 C O_a1 rfl rfl (host := "") (Or.inl (hw _ (List.mem_of_getElem? (i := 31) rfl))) d25_4 rfl (fun T71 X72 => ?_)
    refine g_icmp_ge (a := 1) (b := 2) X72 C d25_7 (by decide) (by decide) (by decide) (pT := 29) (by decide) (pF := 10) rfl (fun hc7 => absurd hc7 (by omega)) (fun hc7 => ?_)
    refine g_aloadN X72 C d25_10 rfl rfl rfl ?_
    refine g_iloadN X72 C d25_11 rfl rfl ?_
    refine g_dup2 X72 C d25_12 rfl rfl rfl ?_
    refine g_laload (i := 1) (v := (.long (g2 1))) X72 C A_a2 (by decide) (by decide) rfl d25_13 rfl ?_
    refine g_aloadN X72 C d25_14 rfl rfl rfl ?_
    refine g_iloadN X72 C d25_15 rfl rfl ?_
    refine g_laload (i := 1) (v := (.long (g3 1))) X72 C A_a3 (by decide) (by decide) rfl d25_16 rfl ?_
    refine g_ldcJ X72 C (hw _ (List.mem_of_getElem? (i := 144) rfl)) d25_17 rfl ?_
    refine g_lxor X72 C d25_20 rfl ?_
    refine g_land X72 C d25_21 rfl ?_
    refine g_lastore (i := 1) X72 C A_a2 (by decide) (by decide) ga_a2 d25_22 rfl (fun T73 h75 X74 A_a2 K76 => ?_)
    have O_a1 := O_a1.keep K76 (ninN ne12 nin0)
    have A_a3 := A_a3.keep K76 (ninN ne32 nin0)
    have hz77 : Lo n0 h75.size := Lo.keep hz69 K76
    have KK78 := KK70.trans K76 (allS (Or.inl (List.mem_of_getElem? (i := 0) rfl)) all0)
    refine g_iinc (v' := (2 : Int32)) (L' := #[.val (.ref a1), .val (.ref a2), .val (.ref a3), .val (.int (2 : Int32))]) X74 C d25_23 rfl (by decide) rfl rfl ?_
    refine g_goto (pc' := 2) X74 C d25_26 (by decide) (by decide) ?_
    refine g_iloadN X74 C d25_2 rfl rfl ?_
    refine g_aloadN X74 C d25_3 rfl rfl rfl ?_
    refine g_getO (i := 8) X74 C O_a1 rfl rfl (host := "") (Or.inl (hw _ (List.mem_of_getElem? (i := 31) rfl))) d25_4 rfl (fun T79 X80 => ?_)
    refine g_icmp_ge (a := 2) (b := 2) X80 C d25_7 (by decide) (by decide) (by decide) (pT := 29) (by decide) (pF := 10) rfl (fun hc7 => ?_) (fun hc7 => absurd hc7 (by omega))
    rw [hRS]
    refine g_retV X80 C d25_29 ?_ (by decide) (by decide)
    refine ⟨rfl, KK78, A_a2.congr (fun j hj => ?_)⟩
    have hj' : j = 0 ∨ j = 1 := by omega
    rcases hj' with rfl | rfl <;> first | rfl | (simp [own_nb]; done) | (simp only [own_nb]; rfl)
theorem ef_rmAny (m : MethodId) (a1 : Addr) (a2 : Addr) : entryFrame m #[(.ref a1), (.ref a2)] 4 = mkF m 0 #[.val (.ref a1), .val (.ref a2), .unset, .unset] [] := by first | (simp [entryFrame, mkF, argsToLocals, Value.category]; done) | rfl
set_option maxRecDepth 65536 in
set_option maxHeartbeats 40000000 in
theorem rmAny (l : Launch) (Z : State) (a0 : Array Value) (hw : ∀ d ∈ tables_1, d.before a0 Z = true) (a1 a2 : Addr) (tm sr ub fd c5 c6 c7 c8 : Addr) (nn wv : Int32) (lw : Int64) (bl : Int32) (sz : Int32) (wn : Nat) (g2 : Nat → Int64) (h0 : Heap) (n0 : Nat) (hz0 : Lo n0 h0.size) (hwn : own_W wn wv) (O_a1 : Ob Z h0 a1 "org/foreslot/planning/ClusterTimeline" NS_CT [(.ref tm), (.ref sr), (.ref ub), (.long (-9223372036854775808 : Int64)), (.long (1 : Int64)), (.long (9223372036854775807 : Int64)), (.long (-9223372036854775808 : Int64)), (.int nn), (.int wv), (.long lw), (.ref fd), (.ref c5), (.ref c6), (.ref c7), (.ref c8), (.int sz), (.int bl)]) (A_a2 : Ar Z h0 a2 .long wn (fun j_ => .long (g2 j_))) (ws : List Jvm.Cond) :
    Ctr l (⟨"org/foreslot/planning/ClusterTimeline", "any", "([J)Z"⟩ : MethodName) prog_29_method_44_code 4 (some .boolean) ({ frames := 0, cells := 0, slots := 0, locals := 0 } : Room) Z n0 #[(.ref a1), (.ref a2)] h0 (fun v h => ∃ r : Int32, v = some (.int r) ∧ h = h0 ∧ ((r = 0 ∧ ∀ k, k < wn → g2 k = 0) ∨ (r = 1 ∧ ∃ k, k < wn ∧ g2 k ≠ 0))) ws := by
  refine ctr_of (plainFor_of_name pn_1) ?_
  intro p e s m below meth c T0 X0 C
  refine go_cast (ef_rmAny m a1 a2) ?_
  obtain ⟨RS, hRS⟩ : ∃ RS, RS = Rs s below n0 (fun v h => ∃ r : Int32, v = some (.int r) ∧ h = h0 ∧ ((r = 0 ∧ ∀ k, k < wn → g2 k = 0) ∨ (r = 1 ∧ ∃ k, k < wn ∧ g2 k ≠ 0))) ({ frames := 0, cells := 0, slots := 0, locals := 0 } : Room).cells ({ frames := 0, cells := 0, slots := 0, locals := 0 } : Room).slots := ⟨_, rfl⟩
  suffices HG : Go p e below RS T0 (mkF m 0 #[.val (.ref a1), .val (.ref a2), .unset, .unset] []) by rw [hRS] at HG; exact HG
  show Go p e below RS T0 (mkF m 0 #[.val (.ref a1), .val (.ref a2), .unset, .unset] [])
  rcases hwn with ⟨rfl, rfl⟩ | ⟨rfl, rfl⟩
  ·
    show Go p e below RS T0 (mkF m 0 #[.val (.ref a1), .val (.ref a2), .unset, .unset] [])
    refine g_iconst (v := 0) X0 C d13_0 (by decide) rfl ?_
    refine g_istoreN (L' := #[.val (.ref a1), .val (.ref a2), .val (.int (0 : Int32)), .unset]) X0 C d13_1 rfl rfl rfl ?_
    refine g_iconst (v := 0) X0 C d13_2 (by decide) rfl ?_
    refine g_istoreN (L' := #[.val (.ref a1), .val (.ref a2), .val (.int (0 : Int32)), .val (.int (0 : Int32))]) X0 C d13_3 rfl rfl rfl ?_
    refine g_iloadN X0 C d13_4 rfl rfl ?_
    refine g_aloadN X0 C d13_5 rfl rfl rfl ?_
    refine g_getO (i := 8) X0 C O_a1 rfl rfl (host := "") (Or.inl (hw _ (List.mem_of_getElem? (i := 31) rfl))) d13_6 rfl (fun T81 X82 => ?_)
    refine g_icmp_ge (a := 0) (b := 1) X82 C d13_9 (by decide) (by decide) (by decide) (pT := 36) (by decide) (pF := 12) rfl (fun hc9_83 => absurd hc9_83 (by omega)) (fun hc9_83 => ?_)
    refine g_iloadN X82 C d13_12 rfl rfl ?_
    refine g_if_ne (a := 0) X82 C d13_13 (by decide) (by decide) (pT := 36) (by decide) (pF := 16) rfl (fun hc13_84 => absurd hc13_84 (by omega)) (fun hc13_84 => ?_)
    refine g_aloadN X82 C d13_16 rfl rfl rfl ?_
    refine g_iloadN X82 C d13_17 rfl rfl ?_
    refine g_laload (i := 0) (v := (.long (g2 0))) X82 C A_a2 (by decide) (by decide) rfl d13_18 rfl ?_
    refine g_lconst (v := 0) X82 C d13_19 (by decide) rfl ?_
    refine g_lcmp X82 C d13_20 rfl ?_
    refine g_lif_eq (a := (g2 0).toInt) (b := 0) X82 C d13_21 rfl (by decide) (by decide) (pT := 28) (by decide) (pF := 24) rfl (fun hc21_85 => ?_) (fun hc21_85 => ?_)
    ·
      refine g_iconst (v := 0) X82 C d13_28 (by decide) rfl ?_
      refine g_istoreN (L' := #[.val (.ref a1), .val (.ref a2), .val (.int (0 : Int32)), .val (.int (0 : Int32))]) X82 C d13_29 rfl rfl rfl ?_
      refine g_iinc (v' := (1 : Int32)) (L' := #[.val (.ref a1), .val (.ref a2), .val (.int (0 : Int32)), .val (.int (1 : Int32))]) X82 C d13_30 rfl (by decide) rfl rfl ?_
      refine g_goto (pc' := 4) X82 C d13_33 (by decide) (by decide) ?_
      refine g_iloadN X82 C d13_4 rfl rfl ?_
      refine g_aloadN X82 C d13_5 rfl rfl rfl ?_
      refine g_getO (i := 8) X82 C O_a1 rfl rfl (host := "") (Or.inl (hw _ (List.mem_of_getElem? (i := 31) rfl))) d13_6 rfl (fun T86 X87 => ?_)
      refine g_icmp_ge (a := 1) (b := 1) X87 C d13_9 (by decide) (by decide) (by decide) (pT := 36) (by decide) (pF := 12) rfl (fun hc9_88 => ?_) (fun hc9_88 => absurd hc9_88 (by omega))
      refine g_iloadN X87 C d13_36 rfl rfl ?_
      rw [hRS]
      refine g_retZ X87 C d13_37 ?_ (by decide) (by decide)
      exact ⟨_, rfl, rfl, Or.inl ⟨by decide, own_all1 (own_z hc21_85)⟩⟩
    ·
      refine g_iconst (v := 1) X82 C d13_24 (by decide) rfl ?_
      refine g_goto (pc' := 29) X82 C d13_25 (by decide) (by decide) ?_
      refine g_istoreN (L' := #[.val (.ref a1), .val (.ref a2), .val (.int (1 : Int32)), .val (.int (0 : Int32))]) X82 C d13_29 rfl rfl rfl ?_
      refine g_iinc (v' := (1 : Int32)) (L' := #[.val (.ref a1), .val (.ref a2), .val (.int (1 : Int32)), .val (.int (1 : Int32))]) X82 C d13_30 rfl (by decide) rfl rfl ?_
      refine g_goto (pc' := 4) X82 C d13_33 (by decide) (by decide) ?_
      refine g_iloadN X82 C d13_4 rfl rfl ?_
      refine g_aloadN X82 C d13_5 rfl rfl rfl ?_
      refine g_getO (i := 8) X82 C O_a1 rfl rfl (host := "") (Or.inl (hw _ (List.mem_of_getElem? (i := 31) rfl))) d13_6 rfl (fun T89 X90 => ?_)
      refine g_icmp_ge (a := 1) (b := 1) X90 C d13_9 (by decide) (by decide) (by decide) (pT := 36) (by decide) (pF := 12) rfl (fun hc9_91 => ?_) (fun hc9_91 => absurd hc9_91 (by omega))
      refine g_iloadN X90 C d13_36 rfl rfl ?_
      rw [hRS]
      refine g_retZ X90 C d13_37 ?_ (by decide) (by decide)
      exact ⟨_, rfl, rfl, Or.inr ⟨by decide, 0, by decide, own_nz hc21_85⟩⟩
  ·
    show Go p e below RS T0 (mkF m 0 #[.val (.ref a1), .val (.ref a2), .unset, .unset] [])
    refine g_iconst (v := 0) X0 C d13_0 (by decide) rfl ?_
    refine g_istoreN (L' := #[.val (.ref a1), .val (.ref a2), .val (.int (0 : Int32)), .unset]) X0 C d13_1 rfl rfl rfl ?_
    refine g_iconst (v := 0) X0 C d13_2 (by decide) rfl ?_
    refine g_istoreN (L' := #[.val (.ref a1), .val (.ref a2), .val (.int (0 : Int32)), .val (.int (0 : Int32))]) X0 C d13_3 rfl rfl rfl ?_
    refine g_iloadN X0 C d13_4 rfl rfl ?_
    refine g_aloadN X0 C d13_5 rfl rfl rfl ?_
    refine g_getO (i := 8) X0 C O_a1 rfl rfl (host := "") (Or.inl (hw _ (List.mem_of_getElem? (i := 31) rfl))) d13_6 rfl (fun T92 X93 => ?_)
    refine g_icmp_ge (a := 0) (b := 2) X93 C d13_9 (by decide) (by decide) (by decide) (pT := 36) (by decide) (pF := 12) rfl (fun hc9_94 => absurd hc9_94 (by omega)) (fun hc9_94 => ?_)
    refine g_iloadN X93 C d13_12 rfl rfl ?_
    refine g_if_ne (a := 0) X93 C d13_13 (by decide) (by decide) (pT := 36) (by decide) (pF := 16) rfl (fun hc13_95 => absurd hc13_95 (by omega)) (fun hc13_95 => ?_)
    refine g_aloadN X93 C d13_16 rfl rfl rfl ?_
    refine g_iloadN X93 C d13_17 rfl rfl ?_
    refine g_laload (i := 0) (v := (.long (g2 0))) X93 C A_a2 (by decide) (by decide) rfl d13_18 rfl ?_
    refine g_lconst (v := 0) X93 C d13_19 (by decide) rfl ?_
    refine g_lcmp X93 C d13_20 rfl ?_
    refine g_lif_eq (a := (g2 0).toInt) (b := 0) X93 C d13_21 rfl (by decide) (by decide) (pT := 28) (by decide) (pF := 24) rfl (fun hc21_96 => ?_) (fun hc21_96 => ?_)
    ·
      refine g_iconst (v := 0) X93 C d13_28 (by decide) rfl ?_
      refine g_istoreN (L' := #[.val (.ref a1), .val (.ref a2), .val (.int (0 : Int32)), .val (.int (0 : Int32))]) X93 C d13_29 rfl rfl rfl ?_
      refine g_iinc (v' := (1 : Int32)) (L' := #[.val (.ref a1), .val (.ref a2), .val (.int (0 : Int32)), .val (.int (1 : Int32))]) X93 C d13_30 rfl (by decide) rfl rfl ?_
      refine g_goto (pc' := 4) X93 C d13_33 (by decide) (by decide) ?_
      refine g_iloadN X93 C d13_4 rfl rfl ?_
      refine g_aloadN X93 C d13_5 rfl rfl rfl ?_
      refine g_getO (i := 8) X93 C O_a1 rfl rfl (host := "") (Or.inl (hw _ (List.mem_of_getElem? (i := 31) rfl))) d13_6 rfl (fun T97 X98 => ?_)
      refine g_icmp_ge (a := 1) (b := 2) X98 C d13_9 (by decide) (by decide) (by decide) (pT := 36) (by decide) (pF := 12) rfl (fun hc9_99 => absurd hc9_99 (by omega)) (fun hc9_99 => ?_)
      refine g_iloadN X98 C d13_12 rfl rfl ?_
      refine g_if_ne (a := 0) X98 C d13_13 (by decide) (by decide) (pT := 36) (by decide) (pF := 16) rfl (fun hc13_100 => absurd hc13_100 (by omega)) (fun hc13_100 => ?_)
      refine g_aloadN X98 C d13_16 rfl rfl rfl ?_
      refine g_iloadN X98 C d13_17 rfl rfl ?_
      refine g_laload (i := 1) (v := (.long (g2 1))) X98 C A_a2 (by decide) (by decide) rfl d13_18 rfl ?_
      refine g_lconst (v := 0) X98 C d13_19 (by decide) rfl ?_
      refine g_lcmp X98 C d13_20 rfl ?_
      refine g_lif_eq (a := (g2 1).toInt) (b := 0) X98 C d13_21 rfl (by decide) (by decide) (pT := 28) (by decide) (pF := 24) rfl (fun hc21_101 => ?_) (fun hc21_101 => ?_)
      ·
        refine g_iconst (v := 0) X98 C d13_28 (by decide) rfl ?_
        refine g_istoreN (L' := #[.val (.ref a1), .val (.ref a2), .val (.int (0 : Int32)), .val (.int (1 : Int32))]) X98 C d13_29 rfl rfl rfl ?_
        refine g_iinc (v' := (2 : Int32)) (L' := #[.val (.ref a1), .val (.ref a2), .val (.int (0 : Int32)), .val (.int (2 : Int32))]) X98 C d13_30 rfl (by decide) rfl rfl ?_
        refine g_goto (pc' := 4) X98 C d13_33 (by decide) (by decide) ?_
        refine g_iloadN X98 C d13_4 rfl rfl ?_
        refine g_aloadN X98 C d13_5 rfl rfl rfl ?_
        refine g_getO (i := 8) X98 C O_a1 rfl rfl (host := "") (Or.inl (hw _ (List.mem_of_getElem? (i := 31) rfl))) d13_6 rfl (fun T102 X103 => ?_)
        refine g_icmp_ge (a := 2) (b := 2) X103 C d13_9 (by decide) (by decide) (by decide) (pT := 36) (by decide) (pF := 12) rfl (fun hc9_104 => ?_) (fun hc9_104 => absurd hc9_104 (by omega))
        refine g_iloadN X103 C d13_36 rfl rfl ?_
        rw [hRS]
        refine g_retZ X103 C d13_37 ?_ (by decide) (by decide)
        exact ⟨_, rfl, rfl, Or.inl ⟨by decide, own_all2 (own_z hc21_96) (own_z hc21_101)⟩⟩
      ·
        refine g_iconst (v := 1) X98 C d13_24 (by decide) rfl ?_
        refine g_goto (pc' := 29) X98 C d13_25 (by decide) (by decide) ?_
        refine g_istoreN (L' := #[.val (.ref a1), .val (.ref a2), .val (.int (1 : Int32)), .val (.int (1 : Int32))]) X98 C d13_29 rfl rfl rfl ?_
        refine g_iinc (v' := (2 : Int32)) (L' := #[.val (.ref a1), .val (.ref a2), .val (.int (1 : Int32)), .val (.int (2 : Int32))]) X98 C d13_30 rfl (by decide) rfl rfl ?_
        refine g_goto (pc' := 4) X98 C d13_33 (by decide) (by decide) ?_
        refine g_iloadN X98 C d13_4 rfl rfl ?_
        refine g_aloadN X98 C d13_5 rfl rfl rfl ?_
        refine g_getO (i := 8) X98 C O_a1 rfl rfl (host := "") (Or.inl (hw _ (List.mem_of_getElem? (i := 31) rfl))) d13_6 rfl (fun T105 X106 => ?_)
        refine g_icmp_ge (a := 2) (b := 2) X106 C d13_9 (by decide) (by decide) (by decide) (pT := 36) (by decide) (pF := 12) rfl (fun hc9_107 => ?_) (fun hc9_107 => absurd hc9_107 (by omega))
        refine g_iloadN X106 C d13_36 rfl rfl ?_
        rw [hRS]
        refine g_retZ X106 C d13_37 ?_ (by decide) (by decide)
        exact ⟨_, rfl, rfl, Or.inr ⟨by decide, 1, by decide, own_nz hc21_101⟩⟩
    ·
      refine g_iconst (v := 1) X93 C d13_24 (by decide) rfl ?_
      refine g_goto (pc' := 29) X93 C d13_25 (by decide) (by decide) ?_
      refine g_istoreN (L' := #[.val (.ref a1), .val (.ref a2), .val (.int (1 : Int32)), .val (.int (0 : Int32))]) X93 C d13_29 rfl rfl rfl ?_
      refine g_iinc (v' := (1 : Int32)) (L' := #[.val (.ref a1), .val (.ref a2), .val (.int (1 : Int32)), .val (.int (1 : Int32))]) X93 C d13_30 rfl (by decide) rfl rfl ?_
      refine g_goto (pc' := 4) X93 C d13_33 (by decide) (by decide) ?_
      refine g_iloadN X93 C d13_4 rfl rfl ?_
      refine g_aloadN X93 C d13_5 rfl rfl rfl ?_
      refine g_getO (i := 8) X93 C O_a1 rfl rfl (host := "") (Or.inl (hw _ (List.mem_of_getElem? (i := 31) rfl))) d13_6 rfl (fun T108 X109 => ?_)
      refine g_icmp_ge (a := 1) (b := 2) X109 C d13_9 (by decide) (by decide) (by decide) (pT := 36) (by decide) (pF := 12) rfl (fun hc9_110 => absurd hc9_110 (by omega)) (fun hc9_110 => ?_)
      refine g_iloadN X109 C d13_12 rfl rfl ?_
      refine g_if_ne (a := 1) X109 C d13_13 (by decide) (by decide) (pT := 36) (by decide) (pF := 16) rfl (fun hc13_111 => ?_) (fun hc13_111 => absurd hc13_111 (by omega))
      refine g_iloadN X109 C d13_36 rfl rfl ?_
      rw [hRS]
      refine g_retZ X109 C d13_37 ?_ (by decide) (by decide)
      exact ⟨_, rfl, rfl, Or.inr ⟨by decide, 0, by decide, own_nz hc21_96⟩⟩
theorem ef_rmHF (m : MethodId) (a1 : Addr) (a2 : Addr) : entryFrame m #[(.ref a1), (.ref a2)] 4 = mkF m 0 #[.val (.ref a1), .val (.ref a2), .unset, .unset] [] := by first | (simp [entryFrame, mkF, argsToLocals, Value.category]; done) | rfl
set_option maxRecDepth 65536 in
set_option maxHeartbeats 40000000 in
theorem rmHF (l : Launch) (Z : State) (a0 : Array Value) (hw : ∀ d ∈ tables_1, d.before a0 Z = true) (a1 a2 : Addr) (tm sr ub fd c5 c6 c7 c8 : Addr) (nn wv : Int32) (lw : Int64) (bl : Int32) (sz : Int32) (wn : Nat) (g2 gf : Nat → Int64) (h0 : Heap) (n0 : Nat) (hz0 : Lo n0 h0.size) (hwn : own_W wn wv) (O_a1 : Ob Z h0 a1 "org/foreslot/planning/ClusterTimeline" NS_CT [(.ref tm), (.ref sr), (.ref ub), (.long (-9223372036854775808 : Int64)), (.long (1 : Int64)), (.long (9223372036854775807 : Int64)), (.long (-9223372036854775808 : Int64)), (.int nn), (.int wv), (.long lw), (.ref fd), (.ref c5), (.ref c6), (.ref c7), (.ref c8), (.int sz), (.int bl)]) (A_a2 : Ar Z h0 a2 .long 2 (fun j_ => .long (g2 j_))) (A_fd : Ar Z h0 fd .long wn (fun j_ => .long (gf j_))) (ws : List Jvm.Cond) :
    Ctr l (⟨"org/foreslot/planning/ClusterTimeline", "holdsFree", "([J)Z"⟩ : MethodName) prog_29_method_14_code 4 (some .boolean) ({ frames := 0, cells := 0, slots := 0, locals := 0 } : Room) Z n0 #[(.ref a1), (.ref a2)] h0 (fun v h => ∃ r : Int32, v = some (.int r) ∧ h = h0 ∧ ((r = 1 ∧ ∀ k, k < wn → g2 k &&& (gf k ^^^ (-1)) = 0) ∨ (r = 0 ∧ ∃ k, k < wn ∧ g2 k &&& (gf k ^^^ (-1)) ≠ 0))) ws := by
  refine ctr_of (plainFor_of_name pn_1) ?_
  intro p e s m below meth c T0 X0 C
  refine go_cast (ef_rmHF m a1 a2) ?_
  obtain ⟨RS, hRS⟩ : ∃ RS, RS = Rs s below n0 (fun v h => ∃ r : Int32, v = some (.int r) ∧ h = h0 ∧ ((r = 1 ∧ ∀ k, k < wn → g2 k &&& (gf k ^^^ (-1)) = 0) ∨ (r = 0 ∧ ∃ k, k < wn ∧ g2 k &&& (gf k ^^^ (-1)) ≠ 0))) ({ frames := 0, cells := 0, slots := 0, locals := 0 } : Room).cells ({ frames := 0, cells := 0, slots := 0, locals := 0 } : Room).slots := ⟨_, rfl⟩
  suffices HG : Go p e below RS T0 (mkF m 0 #[.val (.ref a1), .val (.ref a2), .unset, .unset] []) by rw [hRS] at HG; exact HG
  show Go p e below RS T0 (mkF m 0 #[.val (.ref a1), .val (.ref a2), .unset, .unset] [])
  rcases hwn with ⟨rfl, rfl⟩ | ⟨rfl, rfl⟩
  ·
    show Go p e below RS T0 (mkF m 0 #[.val (.ref a1), .val (.ref a2), .unset, .unset] [])
    refine g_iconst (v := 1) X0 C d22_0 (by decide) rfl ?_
    refine g_istoreN (L' := #[.val (.ref a1), .val (.ref a2), .val (.int (1 : Int32)), .unset]) X0 C d22_1 rfl rfl rfl ?_
    refine g_iconst (v := 0) X0 C d22_2 (by decide) rfl ?_
    refine g_istoreN (L' := #[.val (.ref a1), .val (.ref a2), .val (.int (1 : Int32)), .val (.int (0 : Int32))]) X0 C d22_3 rfl rfl rfl ?_
    refine g_iloadN X0 C d22_4 rfl rfl ?_
    refine g_aloadN X0 C d22_5 rfl rfl rfl ?_
    refine g_getO (i := 8) X0 C O_a1 rfl rfl (host := "") (Or.inl (hw _ (List.mem_of_getElem? (i := 31) rfl))) d22_6 rfl (fun T112 X113 => ?_)
    refine g_icmp_ge (a := 0) (b := 1) X113 C d22_9 (by decide) (by decide) (by decide) (pT := 47) (by decide) (pF := 12) rfl (fun hc9_114 => absurd hc9_114 (by omega)) (fun hc9_114 => ?_)
    refine g_iloadN X113 C d22_12 rfl rfl ?_
    refine g_if_eq (a := 1) X113 C d22_13 (by decide) (by decide) (pT := 47) (by decide) (pF := 16) rfl (fun hc13_115 => absurd hc13_115 (by omega)) (fun hc13_115 => ?_)
    refine g_aloadN X113 C d22_16 rfl rfl rfl ?_
    refine g_iloadN X113 C d22_17 rfl rfl ?_
    refine g_laload (i := 0) (v := (.long (g2 0))) X113 C A_a2 (by decide) (by decide) rfl d22_18 rfl ?_
    refine g_aloadN X113 C d22_19 rfl rfl rfl ?_
    refine g_getO (i := 10) X113 C O_a1 rfl rfl (host := "") (Or.inl (hw _ (List.mem_of_getElem? (i := 35) rfl))) d22_20 rfl (fun T116 X117 => ?_)
    refine g_iloadN X117 C d22_23 rfl rfl ?_
    refine g_laload (i := 0) (v := (.long (gf 0))) X117 C A_fd (by decide) (by decide) rfl d22_24 rfl ?_
    refine g_ldcJ X117 C (hw _ (List.mem_of_getElem? (i := 144) rfl)) d22_25 rfl ?_
    refine g_lxor X117 C d22_28 rfl ?_
    refine g_land X117 C d22_29 rfl ?_
    refine g_lconst (v := 0) X117 C d22_30 (by decide) rfl ?_
    refine g_lcmp X117 C d22_31 rfl ?_
    refine g_lif_ne (a := ((g2 0) &&& ((gf 0) ^^^ (-1 : Int64))).toInt) (b := 0) X117 C d22_32 rfl (by decide) (by decide) (pT := 39) (by decide) (pF := 35) rfl (fun hc32_118 => ?_) (fun hc32_118 => ?_)
    ·
      refine g_iconst (v := 0) X117 C d22_39 (by decide) rfl ?_
      refine g_istoreN (L' := #[.val (.ref a1), .val (.ref a2), .val (.int (0 : Int32)), .val (.int (0 : Int32))]) X117 C d22_40 rfl rfl rfl ?_
      refine g_iinc (v' := (1 : Int32)) (L' := #[.val (.ref a1), .val (.ref a2), .val (.int (0 : Int32)), .val (.int (1 : Int32))]) X117 C d22_41 rfl (by decide) rfl rfl ?_
      refine g_goto (pc' := 4) X117 C d22_44 (by decide) (by decide) ?_
      refine g_iloadN X117 C d22_4 rfl rfl ?_
      refine g_aloadN X117 C d22_5 rfl rfl rfl ?_
      refine g_getO (i := 8) X117 C O_a1 rfl rfl (host := "") (Or.inl (hw _ (List.mem_of_getElem? (i := 31) rfl))) d22_6 rfl (fun T119 X120 => ?_)
      refine g_icmp_ge (a := 1) (b := 1) X120 C d22_9 (by decide) (by decide) (by decide) (pT := 47) (by decide) (pF := 12) rfl (fun hc9_121 => ?_) (fun hc9_121 => absurd hc9_121 (by omega))
      refine g_iloadN X120 C d22_47 rfl rfl ?_
      rw [hRS]
      refine g_retZ X120 C d22_48 ?_ (by decide) (by decide)
      exact ⟨_, rfl, rfl, Or.inr ⟨by decide, 0, by decide, own_nz hc32_118⟩⟩
    ·
      refine g_iconst (v := 1) X117 C d22_35 (by decide) rfl ?_
      refine g_goto (pc' := 40) X117 C d22_36 (by decide) (by decide) ?_
      refine g_istoreN (L' := #[.val (.ref a1), .val (.ref a2), .val (.int (1 : Int32)), .val (.int (0 : Int32))]) X117 C d22_40 rfl rfl rfl ?_
      refine g_iinc (v' := (1 : Int32)) (L' := #[.val (.ref a1), .val (.ref a2), .val (.int (1 : Int32)), .val (.int (1 : Int32))]) X117 C d22_41 rfl (by decide) rfl rfl ?_
      refine g_goto (pc' := 4) X117 C d22_44 (by decide) (by decide) ?_
      refine g_iloadN X117 C d22_4 rfl rfl ?_
      refine g_aloadN X117 C d22_5 rfl rfl rfl ?_
      refine g_getO (i := 8) X117 C O_a1 rfl rfl (host := "") (Or.inl (hw _ (List.mem_of_getElem? (i := 31) rfl))) d22_6 rfl (fun T122 X123 => ?_)
      refine g_icmp_ge (a := 1) (b := 1) X123 C d22_9 (by decide) (by decide) (by decide) (pT := 47) (by decide) (pF := 12) rfl (fun hc9_124 => ?_) (fun hc9_124 => absurd hc9_124 (by omega))
      refine g_iloadN X123 C d22_47 rfl rfl ?_
      rw [hRS]
      refine g_retZ X123 C d22_48 ?_ (by decide) (by decide)
      exact ⟨_, rfl, rfl, Or.inl ⟨by decide, own_all1 (own_z hc32_118)⟩⟩
  ·
    show Go p e below RS T0 (mkF m 0 #[.val (.ref a1), .val (.ref a2), .unset, .unset] [])
    refine g_iconst (v := 1) X0 C d22_0 (by decide) rfl ?_
    refine g_istoreN (L' := #[.val (.ref a1), .val (.ref a2), .val (.int (1 : Int32)), .unset]) X0 C d22_1 rfl rfl rfl ?_
    refine g_iconst (v := 0) X0 C d22_2 (by decide) rfl ?_
    refine g_istoreN (L' := #[.val (.ref a1), .val (.ref a2), .val (.int (1 : Int32)), .val (.int (0 : Int32))]) X0 C d22_3 rfl rfl rfl ?_
    refine g_iloadN X0 C d22_4 rfl rfl ?_
    refine g_aloadN X0 C d22_5 rfl rfl rfl ?_
    refine g_getO (i := 8) X0 C O_a1 rfl rfl (host := "") (Or.inl (hw _ (List.mem_of_getElem? (i := 31) rfl))) d22_6 rfl (fun T125 X126 => ?_)
    refine g_icmp_ge (a := 0) (b := 2) X126 C d22_9 (by decide) (by decide) (by decide) (pT := 47) (by decide) (pF := 12) rfl (fun hc9_127 => absurd hc9_127 (by omega)) (fun hc9_127 => ?_)
    refine g_iloadN X126 C d22_12 rfl rfl ?_
    refine g_if_eq (a := 1) X126 C d22_13 (by decide) (by decide) (pT := 47) (by decide) (pF := 16) rfl (fun hc13_128 => absurd hc13_128 (by omega)) (fun hc13_128 => ?_)
    refine g_aloadN X126 C d22_16 rfl rfl rfl ?_
    refine g_iloadN X126 C d22_17 rfl rfl ?_
    refine g_laload (i := 0) (v := (.long (g2 0))) X126 C A_a2 (by decide) (by decide) rfl d22_18 rfl ?_
    refine g_aloadN X126 C d22_19 rfl rfl rfl ?_
    refine g_getO (i := 10) X126 C O_a1 rfl rfl (host := "") (Or.inl (hw _ (List.mem_of_getElem? (i := 35) rfl))) d22_20 rfl (fun T129 X130 => ?_)
    refine g_iloadN X130 C d22_23 rfl rfl ?_
    refine g_laload (i := 0) (v := (.long (gf 0))) X130 C A_fd (by decide) (by decide) rfl d22_24 rfl ?_
    refine g_ldcJ X130 C (hw _ (List.mem_of_getElem? (i := 144) rfl)) d22_25 rfl ?_
    refine g_lxor X130 C d22_28 rfl ?_
    refine g_land X130 C d22_29 rfl ?_
    refine g_lconst (v := 0) X130 C d22_30 (by decide) rfl ?_
    refine g_lcmp X130 C d22_31 rfl ?_
    refine g_lif_ne (a := ((g2 0) &&& ((gf 0) ^^^ (-1 : Int64))).toInt) (b := 0) X130 C d22_32 rfl (by decide) (by decide) (pT := 39) (by decide) (pF := 35) rfl (fun hc32_131 => ?_) (fun hc32_131 => ?_)
    ·
      refine g_iconst (v := 0) X130 C d22_39 (by decide) rfl ?_
      refine g_istoreN (L' := #[.val (.ref a1), .val (.ref a2), .val (.int (0 : Int32)), .val (.int (0 : Int32))]) X130 C d22_40 rfl rfl rfl ?_
      refine g_iinc (v' := (1 : Int32)) (L' := #[.val (.ref a1), .val (.ref a2), .val (.int (0 : Int32)), .val (.int (1 : Int32))]) X130 C d22_41 rfl (by decide) rfl rfl ?_
      refine g_goto (pc' := 4) X130 C d22_44 (by decide) (by decide) ?_
      refine g_iloadN X130 C d22_4 rfl rfl ?_
      refine g_aloadN X130 C d22_5 rfl rfl rfl ?_
      refine g_getO (i := 8) X130 C O_a1 rfl rfl (host := "") (Or.inl (hw _ (List.mem_of_getElem? (i := 31) rfl))) d22_6 rfl (fun T132 X133 => ?_)
      refine g_icmp_ge (a := 1) (b := 2) X133 C d22_9 (by decide) (by decide) (by decide) (pT := 47) (by decide) (pF := 12) rfl (fun hc9_134 => absurd hc9_134 (by omega)) (fun hc9_134 => ?_)
      refine g_iloadN X133 C d22_12 rfl rfl ?_
      refine g_if_eq (a := 0) X133 C d22_13 (by decide) (by decide) (pT := 47) (by decide) (pF := 16) rfl (fun hc13_135 => ?_) (fun hc13_135 => absurd hc13_135 (by omega))
      refine g_iloadN X133 C d22_47 rfl rfl ?_
      rw [hRS]
      refine g_retZ X133 C d22_48 ?_ (by decide) (by decide)
      exact ⟨_, rfl, rfl, Or.inr ⟨by decide, 0, by decide, own_nz hc32_131⟩⟩
    ·
      refine g_iconst (v := 1) X130 C d22_35 (by decide) rfl ?_
      refine g_goto (pc' := 40) X130 C d22_36 (by decide) (by decide) ?_
      refine g_istoreN (L' := #[.val (.ref a1), .val (.ref a2), .val (.int (1 : Int32)), .val (.int (0 : Int32))]) X130 C d22_40 rfl rfl rfl ?_
      refine g_iinc (v' := (1 : Int32)) (L' := #[.val (.ref a1), .val (.ref a2), .val (.int (1 : Int32)), .val (.int (1 : Int32))]) X130 C d22_41 rfl (by decide) rfl rfl ?_
      refine g_goto (pc' := 4) X130 C d22_44 (by decide) (by decide) ?_
      refine g_iloadN X130 C d22_4 rfl rfl ?_
      refine g_aloadN X130 C d22_5 rfl rfl rfl ?_
      refine g_getO (i := 8) X130 C O_a1 rfl rfl (host := "") (Or.inl (hw _ (List.mem_of_getElem? (i := 31) rfl))) d22_6 rfl (fun T136 X137 => ?_)
      refine g_icmp_ge (a := 1) (b := 2) X137 C d22_9 (by decide) (by decide) (by decide) (pT := 47) (by decide) (pF := 12) rfl (fun hc9_138 => absurd hc9_138 (by omega)) (fun hc9_138 => ?_)
      refine g_iloadN X137 C d22_12 rfl rfl ?_
      refine g_if_eq (a := 1) X137 C d22_13 (by decide) (by decide) (pT := 47) (by decide) (pF := 16) rfl (fun hc13_139 => absurd hc13_139 (by omega)) (fun hc13_139 => ?_)
      refine g_aloadN X137 C d22_16 rfl rfl rfl ?_
      refine g_iloadN X137 C d22_17 rfl rfl ?_
      refine g_laload (i := 1) (v := (.long (g2 1))) X137 C A_a2 (by decide) (by decide) rfl d22_18 rfl ?_
      refine g_aloadN X137 C d22_19 rfl rfl rfl ?_
      refine g_getO (i := 10) X137 C O_a1 rfl rfl (host := "") (Or.inl (hw _ (List.mem_of_getElem? (i := 35) rfl))) d22_20 rfl (fun T140 X141 => ?_)
      refine g_iloadN X141 C d22_23 rfl rfl ?_
      refine g_laload (i := 1) (v := (.long (gf 1))) X141 C A_fd (by decide) (by decide) rfl d22_24 rfl ?_
      refine g_ldcJ X141 C (hw _ (List.mem_of_getElem? (i := 144) rfl)) d22_25 rfl ?_
      refine g_lxor X141 C d22_28 rfl ?_
      refine g_land X141 C d22_29 rfl ?_
      refine g_lconst (v := 0) X141 C d22_30 (by decide) rfl ?_
      refine g_lcmp X141 C d22_31 rfl ?_
      refine g_lif_ne (a := ((g2 1) &&& ((gf 1) ^^^ (-1 : Int64))).toInt) (b := 0) X141 C d22_32 rfl (by decide) (by decide) (pT := 39) (by decide) (pF := 35) rfl (fun hc32_142 => ?_) (fun hc32_142 => ?_)
      ·
        refine g_iconst (v := 0) X141 C d22_39 (by decide) rfl ?_
        refine g_istoreN (L' := #[.val (.ref a1), .val (.ref a2), .val (.int (0 : Int32)), .val (.int (1 : Int32))]) X141 C d22_40 rfl rfl rfl ?_
        refine g_iinc (v' := (2 : Int32)) (L' := #[.val (.ref a1), .val (.ref a2), .val (.int (0 : Int32)), .val (.int (2 : Int32))]) X141 C d22_41 rfl (by decide) rfl rfl ?_
        refine g_goto (pc' := 4) X141 C d22_44 (by decide) (by decide) ?_
        refine g_iloadN X141 C d22_4 rfl rfl ?_
        refine g_aloadN X141 C d22_5 rfl rfl rfl ?_
        refine g_getO (i := 8) X141 C O_a1 rfl rfl (host := "") (Or.inl (hw _ (List.mem_of_getElem? (i := 31) rfl))) d22_6 rfl (fun T143 X144 => ?_)
        refine g_icmp_ge (a := 2) (b := 2) X144 C d22_9 (by decide) (by decide) (by decide) (pT := 47) (by decide) (pF := 12) rfl (fun hc9_145 => ?_) (fun hc9_145 => absurd hc9_145 (by omega))
        refine g_iloadN X144 C d22_47 rfl rfl ?_
        rw [hRS]
        refine g_retZ X144 C d22_48 ?_ (by decide) (by decide)
        exact ⟨_, rfl, rfl, Or.inr ⟨by decide, 1, by decide, own_nz hc32_142⟩⟩
      ·
        refine g_iconst (v := 1) X141 C d22_35 (by decide) rfl ?_
        refine g_goto (pc' := 40) X141 C d22_36 (by decide) (by decide) ?_
        refine g_istoreN (L' := #[.val (.ref a1), .val (.ref a2), .val (.int (1 : Int32)), .val (.int (1 : Int32))]) X141 C d22_40 rfl rfl rfl ?_
        refine g_iinc (v' := (2 : Int32)) (L' := #[.val (.ref a1), .val (.ref a2), .val (.int (1 : Int32)), .val (.int (2 : Int32))]) X141 C d22_41 rfl (by decide) rfl rfl ?_
        refine g_goto (pc' := 4) X141 C d22_44 (by decide) (by decide) ?_
        refine g_iloadN X141 C d22_4 rfl rfl ?_
        refine g_aloadN X141 C d22_5 rfl rfl rfl ?_
        refine g_getO (i := 8) X141 C O_a1 rfl rfl (host := "") (Or.inl (hw _ (List.mem_of_getElem? (i := 31) rfl))) d22_6 rfl (fun T146 X147 => ?_)
        refine g_icmp_ge (a := 2) (b := 2) X147 C d22_9 (by decide) (by decide) (by decide) (pT := 47) (by decide) (pF := 12) rfl (fun hc9_148 => ?_) (fun hc9_148 => absurd hc9_148 (by omega))
        refine g_iloadN X147 C d22_47 rfl rfl ?_
        rw [hRS]
        refine g_retZ X147 C d22_48 ?_ (by decide) (by decide)
        exact ⟨_, rfl, rfl, Or.inl ⟨by decide, own_all2 (own_z hc32_131) (own_z hc32_142)⟩⟩
theorem ef_rmCount (m : MethodId) (a1 : Addr) (a2 : Addr) : entryFrame m #[(.ref a1), (.ref a2)] 4 = mkF m 0 #[.val (.ref a1), .val (.ref a2), .unset, .unset] [] := by first | (simp [entryFrame, mkF, argsToLocals, Value.category]; done) | rfl
set_option maxRecDepth 65536 in
set_option maxHeartbeats 40000000 in
theorem rmCount (l : Launch) (Z : State) (a0 : Array Value) (hw : ∀ d ∈ tables_1, d.before a0 Z = true) (a1 a2 : Addr) (tm sr ub fd c5 c6 c7 c8 : Addr) (nn wv : Int32) (lw : Int64) (bl : Int32) (sz : Int32) (wn : Nat) (g2 : Nat → Int64) (h0 : Heap) (n0 : Nat) (hz0 : Lo n0 h0.size) (hwn : own_W wn wv) (O_a1 : Ob Z h0 a1 "org/foreslot/planning/ClusterTimeline" NS_CT [(.ref tm), (.ref sr), (.ref ub), (.long (-9223372036854775808 : Int64)), (.long (1 : Int64)), (.long (9223372036854775807 : Int64)), (.long (-9223372036854775808 : Int64)), (.int nn), (.int wv), (.long lw), (.ref fd), (.ref c5), (.ref c6), (.ref c7), (.ref c8), (.int sz), (.int bl)]) (A_a2 : Ar Z h0 a2 .long wn (fun j_ => .long (g2 j_))) (ws : List Jvm.Cond) :
    Ctr l (⟨"org/foreslot/planning/ClusterTimeline", "count", "([J)I"⟩ : MethodName) prog_29_method_45_code 4 (some .int) ({ frames := 1, cells := 0, slots := 0, locals := 16 } : Room) Z n0 #[(.ref a1), (.ref a2)] h0 (fun v h => ∃ r : Int32, v = some (.int r) ∧ h = h0) ws := by
  refine ctr_of (plainFor_of_name pn_1) ?_
  intro p e s m below meth c T0 X0 C
  refine go_cast (ef_rmCount m a1 a2) ?_
  obtain ⟨RS, hRS⟩ : ∃ RS, RS = Rs s below n0 (fun v h => ∃ r : Int32, v = some (.int r) ∧ h = h0) ({ frames := 1, cells := 0, slots := 0, locals := 16 } : Room).cells ({ frames := 1, cells := 0, slots := 0, locals := 16 } : Room).slots := ⟨_, rfl⟩
  suffices HG : Go p e below RS T0 (mkF m 0 #[.val (.ref a1), .val (.ref a2), .unset, .unset] []) by rw [hRS] at HG; exact HG
  show Go p e below RS T0 (mkF m 0 #[.val (.ref a1), .val (.ref a2), .unset, .unset] [])
  rcases hwn with ⟨rfl, rfl⟩ | ⟨rfl, rfl⟩
  ·
    show Go p e below RS T0 (mkF m 0 #[.val (.ref a1), .val (.ref a2), .unset, .unset] [])
    refine g_iconst (v := 0) X0 C d19_0 (by decide) rfl ?_
    refine g_istoreN (L' := #[.val (.ref a1), .val (.ref a2), .val (.int (0 : Int32)), .unset]) X0 C d19_1 rfl rfl rfl ?_
    refine g_iconst (v := 0) X0 C d19_2 (by decide) rfl ?_
    refine g_istoreN (L' := #[.val (.ref a1), .val (.ref a2), .val (.int (0 : Int32)), .val (.int (0 : Int32))]) X0 C d19_3 rfl rfl rfl ?_
    refine g_iloadN X0 C d19_4 rfl rfl ?_
    refine g_aloadN X0 C d19_5 rfl rfl rfl ?_
    refine g_getO (i := 8) X0 C O_a1 rfl rfl (host := "") (Or.inl (hw _ (List.mem_of_getElem? (i := 31) rfl))) d19_6 rfl (fun T149 X150 => ?_)
    refine g_icmp_ge (a := 0) (b := 1) X150 C d19_9 (by decide) (by decide) (by decide) (pT := 27) (by decide) (pF := 12) rfl (fun hc9 => absurd hc9 (by omega)) (fun hc9 => ?_)
    refine g_iloadN X150 C d19_12 rfl rfl ?_
    refine g_aloadN X150 C d19_13 rfl rfl rfl ?_
    refine g_iloadN X150 C d19_14 rfl rfl ?_
    refine g_laload (i := 0) (v := (.long (g2 0))) X150 C A_a2 (by decide) (by decide) rfl d19_15 rfl ?_
    refine g_static (argsL := [(.long (g2 0))]) (rest := [(.int (0 : Int32))]) (W := 1) X150 C (rmBC l Z a0 hw (g2 0) h0 n0 hz0 []) (hw _ (List.mem_of_getElem? (i := 153) rfl)) (hw _ (List.mem_of_getElem? (i := 154) rfl)) (hw _ (List.mem_of_getElem? (i := 155) rfl)) (hw _ (List.mem_of_getElem? (i := 156) rfl)) (by decide) pd_0 rfl rfl rfl rfl rfl (by decide) (by decide) (by decide) (by decide) d19_16 rfl (fun r154 T151 h153 hQ155 X152 => ?_)
    obtain ⟨q156, rfl, hh⟩ := hQ155; rw [hh] at X152
    show Go p e below RS T151 (mkF m 19 #[.val (.ref a1), .val (.ref a2), .val (.int (0 : Int32)), .val (.int (0 : Int32))] [(.int q156), (.int (0 : Int32))])
    refine g_iadd X152 C d19_19 rfl ?_
    obtain ⟨i157, h_i157⟩ : ∃ z, z = ((0 : Int32) + q156) := ⟨_, rfl⟩
    refine g_istoreN (L' := #[.val (.ref a1), .val (.ref a2), .val (.int i157), .val (.int (0 : Int32))]) X152 C d19_20 h_i157 rfl rfl ?_
    refine g_iinc (v' := (1 : Int32)) (L' := #[.val (.ref a1), .val (.ref a2), .val (.int i157), .val (.int (1 : Int32))]) X152 C d19_21 rfl (by decide) rfl rfl ?_
    refine g_goto (pc' := 4) X152 C d19_24 (by decide) (by decide) ?_
    refine g_iloadN X152 C d19_4 rfl rfl ?_
    refine g_aloadN X152 C d19_5 rfl rfl rfl ?_
    refine g_getO (i := 8) X152 C O_a1 rfl rfl (host := "") (Or.inl (hw _ (List.mem_of_getElem? (i := 31) rfl))) d19_6 rfl (fun T158 X159 => ?_)
    refine g_icmp_ge (a := 1) (b := 1) X159 C d19_9 (by decide) (by decide) (by decide) (pT := 27) (by decide) (pF := 12) rfl (fun hc9 => ?_) (fun hc9 => absurd hc9 (by omega))
    refine g_iloadN X159 C d19_27 rfl rfl ?_
    rw [hRS]
    refine g_retI X159 C d19_28 ?_ (by decide) (by decide)
    exact ⟨_, rfl, rfl⟩
  ·
    show Go p e below RS T0 (mkF m 0 #[.val (.ref a1), .val (.ref a2), .unset, .unset] [])
    refine g_iconst (v := 0) X0 C d19_0 (by decide) rfl ?_
    refine g_istoreN (L' := #[.val (.ref a1), .val (.ref a2), .val (.int (0 : Int32)), .unset]) X0 C d19_1 rfl rfl rfl ?_
    refine g_iconst (v := 0) X0 C d19_2 (by decide) rfl ?_
    refine g_istoreN (L' := #[.val (.ref a1), .val (.ref a2), .val (.int (0 : Int32)), .val (.int (0 : Int32))]) X0 C d19_3 rfl rfl rfl ?_
    refine g_iloadN X0 C d19_4 rfl rfl ?_
    refine g_aloadN X0 C d19_5 rfl rfl rfl ?_
    refine g_getO (i := 8) X0 C O_a1 rfl rfl (host := "") (Or.inl (hw _ (List.mem_of_getElem? (i := 31) rfl))) d19_6 rfl (fun T160 X161 => ?_)
    refine g_icmp_ge (a := 0) (b := 2) X161 C d19_9 (by decide) (by decide) (by decide) (pT := 27) (by decide) (pF := 12) rfl (fun hc9 => absurd hc9 (by omega)) (fun hc9 => ?_)
    refine g_iloadN X161 C d19_12 rfl rfl ?_
    refine g_aloadN X161 C d19_13 rfl rfl rfl ?_
    refine g_iloadN X161 C d19_14 rfl rfl ?_
    refine g_laload (i := 0) (v := (.long (g2 0))) X161 C A_a2 (by decide) (by decide) rfl d19_15 rfl ?_
    refine g_static (argsL := [(.long (g2 0))]) (rest := [(.int (0 : Int32))]) (W := 1) X161 C (rmBC l Z a0 hw (g2 0) h0 n0 hz0 []) (hw _ (List.mem_of_getElem? (i := 153) rfl)) (hw _ (List.mem_of_getElem? (i := 154) rfl)) (hw _ (List.mem_of_getElem? (i := 155) rfl)) (hw _ (List.mem_of_getElem? (i := 156) rfl)) (by decide) pd_0 rfl rfl rfl rfl rfl (by decide) (by decide) (by decide) (by decide) d19_16 rfl (fun r165 T162 h164 hQ166 X163 => ?_)
    obtain ⟨q167, rfl, hh⟩ := hQ166; rw [hh] at X163
    show Go p e below RS T162 (mkF m 19 #[.val (.ref a1), .val (.ref a2), .val (.int (0 : Int32)), .val (.int (0 : Int32))] [(.int q167), (.int (0 : Int32))])
    refine g_iadd X163 C d19_19 rfl ?_
    obtain ⟨i168, h_i168⟩ : ∃ z, z = ((0 : Int32) + q167) := ⟨_, rfl⟩
    refine g_istoreN (L' := #[.val (.ref a1), .val (.ref a2), .val (.int i168), .val (.int (0 : Int32))]) X163 C d19_20 h_i168 rfl rfl ?_
    refine g_iinc (v' := (1 : Int32)) (L' := #[.val (.ref a1), .val (.ref a2), .val (.int i168), .val (.int (1 : Int32))]) X163 C d19_21 rfl (by decide) rfl rfl ?_
    refine g_goto (pc' := 4) X163 C d19_24 (by decide) (by decide) ?_
    refine g_iloadN X163 C d19_4 rfl rfl ?_
    refine g_aloadN X163 C d19_5 rfl rfl rfl ?_
    refine g_getO (i := 8) X163 C O_a1 rfl rfl (host := "") (Or.inl (hw _ (List.mem_of_getElem? (i := 31) rfl))) d19_6 rfl (fun T169 X170 => ?_)
    refine g_icmp_ge (a := 1) (b := 2) X170 C d19_9 (by decide) (by decide) (by decide) (pT := 27) (by decide) (pF := 12) rfl (fun hc9 => absurd hc9 (by omega)) (fun hc9 => ?_)
    refine g_iloadN X170 C d19_12 rfl rfl ?_
    refine g_aloadN X170 C d19_13 rfl rfl rfl ?_
    refine g_iloadN X170 C d19_14 rfl rfl ?_
    refine g_laload (i := 1) (v := (.long (g2 1))) X170 C A_a2 (by decide) (by decide) rfl d19_15 rfl ?_
    refine g_static (argsL := [(.long (g2 1))]) (rest := [(.int i168)]) (W := 1) X170 C (rmBC l Z a0 hw (g2 1) h0 n0 hz0 []) (hw _ (List.mem_of_getElem? (i := 153) rfl)) (hw _ (List.mem_of_getElem? (i := 154) rfl)) (hw _ (List.mem_of_getElem? (i := 155) rfl)) (hw _ (List.mem_of_getElem? (i := 156) rfl)) (by decide) pd_0 rfl rfl rfl rfl rfl (by decide) (by decide) (by decide) (by decide) d19_16 rfl (fun r174 T171 h173 hQ175 X172 => ?_)
    obtain ⟨q176, rfl, hh⟩ := hQ175; rw [hh] at X172
    show Go p e below RS T171 (mkF m 19 #[.val (.ref a1), .val (.ref a2), .val (.int i168), .val (.int (1 : Int32))] [(.int q176), (.int i168)])
    refine g_iadd X172 C d19_19 rfl ?_
    obtain ⟨i177, h_i177⟩ : ∃ z, z = (i168 + q176) := ⟨_, rfl⟩
    refine g_istoreN (L' := #[.val (.ref a1), .val (.ref a2), .val (.int i177), .val (.int (1 : Int32))]) X172 C d19_20 h_i177 rfl rfl ?_
    refine g_iinc (v' := (2 : Int32)) (L' := #[.val (.ref a1), .val (.ref a2), .val (.int i177), .val (.int (2 : Int32))]) X172 C d19_21 rfl (by decide) rfl rfl ?_
    refine g_goto (pc' := 4) X172 C d19_24 (by decide) (by decide) ?_
    refine g_iloadN X172 C d19_4 rfl rfl ?_
    refine g_aloadN X172 C d19_5 rfl rfl rfl ?_
    refine g_getO (i := 8) X172 C O_a1 rfl rfl (host := "") (Or.inl (hw _ (List.mem_of_getElem? (i := 31) rfl))) d19_6 rfl (fun T178 X179 => ?_)
    refine g_icmp_ge (a := 2) (b := 2) X179 C d19_9 (by decide) (by decide) (by decide) (pT := 27) (by decide) (pF := 12) rfl (fun hc9 => ?_) (fun hc9 => absurd hc9 (by omega))
    refine g_iloadN X179 C d19_27 rfl rfl ?_
    rw [hRS]
    refine g_retI X179 C d19_28 ?_ (by decide) (by decide)
    exact ⟨_, rfl, rfl⟩
theorem ef_rmUA (m : MethodId) (a1 : Addr) (p2 : Int32) : entryFrame m #[(.ref a1), (.int p2)] 2 = mkF m 0 #[.val (.ref a1), .val (.int p2)] [] := by first | (simp [entryFrame, mkF, argsToLocals, Value.category]; done) | rfl
set_option maxRecDepth 65536 in
set_option maxHeartbeats 40000000 in
theorem rmUA (l : Launch) (Z : State) (a0 : Array Value) (hw : ∀ d ∈ tables_1, d.before a0 Z = true) (a1 : Addr) (p2 : Int32) (tm sr ub fd c5 c6 c7 c8 : Addr) (nn wv : Int32) (lw : Int64) (bl : Int32) (sz : Int32) (gu : Nat → Int32) (h0 : Heap) (n0 : Nat) (hz0 : Lo n0 h0.size) (hnn : 0 ≤ nn.toInt) (hgu : ∀ k, k < 2 → 0 ≤ (gu k).toInt) (hp2 : p2.toInt < 2) (O_a1 : Ob Z h0 a1 "org/foreslot/planning/ClusterTimeline" NS_CT [(.ref tm), (.ref sr), (.ref ub), (.long (-9223372036854775808 : Int64)), (.long (1 : Int64)), (.long (9223372036854775807 : Int64)), (.long (-9223372036854775808 : Int64)), (.int nn), (.int wv), (.long lw), (.ref fd), (.ref c5), (.ref c6), (.ref c7), (.ref c8), (.int sz), (.int bl)]) (A_ub : Ar Z h0 ub .int 16 (fun k => .int (gu k))) (ws : List Jvm.Cond) :
    Ctr l (⟨"org/foreslot/planning/ClusterTimeline", "unbookedAt", "(I)I"⟩ : MethodName) prog_29_method_27_code 2 (some .int) ({ frames := 0, cells := 0, slots := 0, locals := 0 } : Room) Z n0 #[(.ref a1), (.int p2)] h0 (fun v h => ∃ r : Int32, v = some (.int r) ∧ h = h0 ∧ 0 ≤ r.toInt) ws := by
  refine ctr_of (plainFor_of_name pn_1) ?_
  intro p e s m below meth c T0 X0 C
  refine go_cast (ef_rmUA m a1 p2) ?_
  obtain ⟨RS, hRS⟩ : ∃ RS, RS = Rs s below n0 (fun v h => ∃ r : Int32, v = some (.int r) ∧ h = h0 ∧ 0 ≤ r.toInt) ({ frames := 0, cells := 0, slots := 0, locals := 0 } : Room).cells ({ frames := 0, cells := 0, slots := 0, locals := 0 } : Room).slots := ⟨_, rfl⟩
  suffices HG : Go p e below RS T0 (mkF m 0 #[.val (.ref a1), .val (.int p2)] []) by rw [hRS] at HG; exact HG
  show Go p e below RS T0 (mkF m 0 #[.val (.ref a1), .val (.int p2)] [])
  refine g_iloadN X0 C d23_0 rfl rfl ?_
  refine g_if_ge (a := p2.toInt) X0 C d23_1 rfl (by decide) (pT := 11) (by decide) (pF := 4) rfl (fun hc1 => ?_) (fun hc1 => ?_)
  ·
    refine g_aloadN X0 C d23_11 rfl rfl rfl ?_
    refine g_getO (i := 2) X0 C O_a1 rfl rfl (host := "") (Or.inl (hw _ (List.mem_of_getElem? (i := 17) rfl))) d23_12 rfl (fun T180 X181 => ?_)
    refine g_iloadN X181 C d23_15 rfl rfl ?_
    refine g_iaload (i := p2.toInt.toNat) (v := (.int (gu p2.toInt.toNat))) X181 C A_ub (by omega) (by omega) rfl d23_16 rfl ?_
    rw [hRS]
    refine g_retI X181 C d23_17 ?_ (by decide) (by decide)
    first | exact ⟨_, rfl, rfl, hnn⟩ | exact ⟨_, rfl, rfl, hgu _ (by omega)⟩
  ·
    refine g_aloadN X0 C d23_4 rfl rfl rfl ?_
    refine g_getO (i := 7) X0 C O_a1 rfl rfl (host := "") (Or.inl (hw _ (List.mem_of_getElem? (i := 29) rfl))) d23_5 rfl (fun T182 X183 => ?_)
    refine g_goto (pc' := 17) X183 C d23_8 (by decide) (by decide) ?_
    rw [hRS]
    refine g_retI X183 C d23_17 ?_ (by decide) (by decide)
    first | exact ⟨_, rfl, rfl, hnn⟩ | exact ⟨_, rfl, rfl, hgu _ (by omega)⟩
theorem ef_rmX0 (m : MethodId) (a1 : Addr) (p2 : Int64) : entryFrame m #[(.ref a1), (.long p2)] 6 = mkF m 0 #[.val (.ref a1), .val (.long p2), .second, .unset, .unset, .unset] [] := by first | (simp [entryFrame, mkF, argsToLocals, Value.category]; done) | rfl
set_option maxRecDepth 65536 in
set_option maxHeartbeats 40000000 in
theorem rmX0 (l : Launch) (Z : State) (a0 : Array Value) (hw : ∀ d ∈ tables_1, d.before a0 Z = true) (a1 : Addr) (p2 : Int64) (tm sr ub fd c5 c6 c7 c8 : Addr) (nn wv : Int32) (lw : Int64) (bl : Int32) (g : Nat → Int64) (h0 : Heap) (n0 : Nat) (hz0 : Lo n0 h0.size) (O_a1 : Ob Z h0 a1 "org/foreslot/planning/ClusterTimeline" NS_CT [(.ref tm), (.ref sr), (.ref ub), (.long (-9223372036854775808 : Int64)), (.long (1 : Int64)), (.long (9223372036854775807 : Int64)), (.long (-9223372036854775808 : Int64)), (.int nn), (.int wv), (.long lw), (.ref fd), (.ref c5), (.ref c6), (.ref c7), (.ref c8), (.int (0 : Int32)), (.int bl)]) (A_tm : Ar Z h0 tm .long 16 (fun j_ => .long (g j_))) (ws : List Jvm.Cond) :
    Ctr l (⟨"org/foreslot/planning/ClusterTimeline", "indexAt", "(J)I"⟩ : MethodName) prog_29_method_39_code 6 (some .int) ({ frames := 0, cells := 0, slots := 0, locals := 0 } : Room) Z n0 #[(.ref a1), (.long p2)] h0 (fun v h => v = some (.int (-1)) ∧ h = h0) ws := by
  refine ctr_of (plainFor_of_name pn_1) ?_
  intro p e s m below meth c T0 X0 C
  refine go_cast (ef_rmX0 m a1 p2) ?_
  obtain ⟨RS, hRS⟩ : ∃ RS, RS = Rs s below n0 (fun v h => v = some (.int (-1)) ∧ h = h0) ({ frames := 0, cells := 0, slots := 0, locals := 0 } : Room).cells ({ frames := 0, cells := 0, slots := 0, locals := 0 } : Room).slots := ⟨_, rfl⟩
  suffices HG : Go p e below RS T0 (mkF m 0 #[.val (.ref a1), .val (.long p2), .second, .unset, .unset, .unset] []) by rw [hRS] at HG; exact HG
  show Go p e below RS T0 (mkF m 0 #[.val (.ref a1), .val (.long p2), .second, .unset, .unset, .unset] [])
  refine g_iconst (v := 0) X0 C d8_0 (by decide) rfl ?_
  refine g_istoreN (L' := #[.val (.ref a1), .val (.long p2), .second, .val (.int (0 : Int32)), .unset, .unset]) X0 C d8_1 rfl rfl rfl ?_
  refine g_aloadN X0 C d8_2 rfl rfl rfl ?_
  refine g_getO (i := 15) X0 C O_a1 rfl rfl (host := "") (Or.inl (hw _ (List.mem_of_getElem? (i := 74) rfl))) d8_3 rfl (fun T184 X185 => ?_)
  refine g_istore (L' := #[.val (.ref a1), .val (.long p2), .second, .val (.int (0 : Int32)), .val (.int (0 : Int32)), .unset]) X185 C d8_6 rfl rfl rfl ?_
  refine g_iloadN X185 C d8_8 rfl rfl ?_
  refine g_iload X185 C d8_9 rfl rfl ?_
  refine g_icmp_ge (a := 0) (b := 0) X185 C d8_11 (by decide) (by decide) (by decide) (pT := 49) (by decide) (pF := 14) rfl (fun hc11_186 => ?_) (fun hc11_186 => absurd hc11_186 (by omega))
  refine g_iloadN X185 C d8_49 rfl rfl ?_
  refine g_iconst (v := 1) X185 C d8_50 (by decide) rfl ?_
  refine g_isub X185 C d8_51 rfl ?_
  rw [show ((0 : Int32) - (1 : Int32)) = (-1 : Int32) by decide]
  rw [hRS]
  refine g_retI X185 C d8_52 ?_ (by decide) (by decide)
  exact ⟨rfl, rfl⟩
theorem ef_rmX1 (m : MethodId) (a1 : Addr) (p2 : Int64) : entryFrame m #[(.ref a1), (.long p2)] 6 = mkF m 0 #[.val (.ref a1), .val (.long p2), .second, .unset, .unset, .unset] [] := by first | (simp [entryFrame, mkF, argsToLocals, Value.category]; done) | rfl
set_option maxRecDepth 65536 in
set_option maxHeartbeats 40000000 in
theorem rmX1 (l : Launch) (Z : State) (a0 : Array Value) (hw : ∀ d ∈ tables_1, d.before a0 Z = true) (a1 : Addr) (p2 : Int64) (tm sr ub fd c5 c6 c7 c8 : Addr) (nn wv : Int32) (lw : Int64) (bl : Int32) (g : Nat → Int64) (h0 : Heap) (n0 : Nat) (hz0 : Lo n0 h0.size) (O_a1 : Ob Z h0 a1 "org/foreslot/planning/ClusterTimeline" NS_CT [(.ref tm), (.ref sr), (.ref ub), (.long (-9223372036854775808 : Int64)), (.long (1 : Int64)), (.long (9223372036854775807 : Int64)), (.long (-9223372036854775808 : Int64)), (.int nn), (.int wv), (.long lw), (.ref fd), (.ref c5), (.ref c6), (.ref c7), (.ref c8), (.int (1 : Int32)), (.int bl)]) (A_tm : Ar Z h0 tm .long 16 (fun j_ => .long (g j_))) (ws : List Jvm.Cond) :
    Ctr l (⟨"org/foreslot/planning/ClusterTimeline", "indexAt", "(J)I"⟩ : MethodName) prog_29_method_39_code 6 (some .int) ({ frames := 0, cells := 0, slots := 0, locals := 0 } : Room) Z n0 #[(.ref a1), (.long p2)] h0 (fun v h => ∃ r : Int32, v = some (.int r) ∧ h = h0 ∧ ((r = -1 ∧ p2.toInt < (g 0).toInt) ∨ (r = 0 ∧ (g 0).toInt ≤ p2.toInt))) ws := by
  refine ctr_of (plainFor_of_name pn_1) ?_
  intro p e s m below meth c T0 X0 C
  refine go_cast (ef_rmX1 m a1 p2) ?_
  obtain ⟨RS, hRS⟩ : ∃ RS, RS = Rs s below n0 (fun v h => ∃ r : Int32, v = some (.int r) ∧ h = h0 ∧ ((r = -1 ∧ p2.toInt < (g 0).toInt) ∨ (r = 0 ∧ (g 0).toInt ≤ p2.toInt))) ({ frames := 0, cells := 0, slots := 0, locals := 0 } : Room).cells ({ frames := 0, cells := 0, slots := 0, locals := 0 } : Room).slots := ⟨_, rfl⟩
  suffices HG : Go p e below RS T0 (mkF m 0 #[.val (.ref a1), .val (.long p2), .second, .unset, .unset, .unset] []) by rw [hRS] at HG; exact HG
  show Go p e below RS T0 (mkF m 0 #[.val (.ref a1), .val (.long p2), .second, .unset, .unset, .unset] [])
  refine g_iconst (v := 0) X0 C d8_0 (by decide) rfl ?_
  refine g_istoreN (L' := #[.val (.ref a1), .val (.long p2), .second, .val (.int (0 : Int32)), .unset, .unset]) X0 C d8_1 rfl rfl rfl ?_
  refine g_aloadN X0 C d8_2 rfl rfl rfl ?_
  refine g_getO (i := 15) X0 C O_a1 rfl rfl (host := "") (Or.inl (hw _ (List.mem_of_getElem? (i := 74) rfl))) d8_3 rfl (fun T187 X188 => ?_)
  refine g_istore (L' := #[.val (.ref a1), .val (.long p2), .second, .val (.int (0 : Int32)), .val (.int (1 : Int32)), .unset]) X188 C d8_6 rfl rfl rfl ?_
  refine g_iloadN X188 C d8_8 rfl rfl ?_
  refine g_iload X188 C d8_9 rfl rfl ?_
  refine g_icmp_ge (a := 0) (b := 1) X188 C d8_11 (by decide) (by decide) (by decide) (pT := 49) (by decide) (pF := 14) rfl (fun hc11_189 => absurd hc11_189 (by omega)) (fun hc11_189 => ?_)
  refine g_iloadN X188 C d8_14 rfl rfl ?_
  refine g_iload X188 C d8_15 rfl rfl ?_
  refine g_iadd X188 C d8_17 rfl ?_
  rw [show ((0 : Int32) + (1 : Int32)) = (1 : Int32) by decide]
  refine g_iconst (v := 1) X188 C d8_18 (by decide) rfl ?_
  refine g_iushr X188 C d8_19 rfl ?_
  rw [show (((1 : Int32).toUInt32 >>> ((1 : Int32) &&& 31).toUInt32).toInt32) = (0 : Int32) by decide]
  refine g_istore (L' := #[.val (.ref a1), .val (.long p2), .second, .val (.int (0 : Int32)), .val (.int (1 : Int32)), .val (.int (0 : Int32))]) X188 C d8_20 rfl rfl rfl ?_
  refine g_aloadN X188 C d8_22 rfl rfl rfl ?_
  refine g_getO (i := 0) X188 C O_a1 rfl rfl (host := "") (Or.inl (hw _ (List.mem_of_getElem? (i := 10) rfl))) d8_23 rfl (fun T190 X191 => ?_)
  refine g_iload X191 C d8_26 rfl rfl ?_
  refine g_laload (i := 0) (v := (.long (g 0))) X191 C A_tm (by decide) (by decide) rfl d8_28 rfl ?_
  refine g_lloadN X191 C d8_29 rfl rfl ?_
  refine g_lcmp X191 C d8_30 rfl ?_
  refine g_lif_gt (a := (g 0).toInt) (b := p2.toInt) X191 C d8_31 rfl rfl (by decide) (pT := 42) (by decide) (pF := 34) rfl (fun hc31_192 => ?_) (fun hc31_192 => ?_)
  ·
    refine g_iload X191 C d8_42 rfl rfl ?_
    refine g_istore (L' := #[.val (.ref a1), .val (.long p2), .second, .val (.int (0 : Int32)), .val (.int (0 : Int32)), .val (.int (0 : Int32))]) X191 C d8_44 rfl rfl rfl ?_
    refine g_goto (pc' := 8) X191 C d8_46 (by decide) (by decide) ?_
    refine g_iloadN X191 C d8_8 rfl rfl ?_
    refine g_iload X191 C d8_9 rfl rfl ?_
    refine g_icmp_ge (a := 0) (b := 0) X191 C d8_11 (by decide) (by decide) (by decide) (pT := 49) (by decide) (pF := 14) rfl (fun hc11_193 => ?_) (fun hc11_193 => absurd hc11_193 (by omega))
    refine g_iloadN X191 C d8_49 rfl rfl ?_
    refine g_iconst (v := 1) X191 C d8_50 (by decide) rfl ?_
    refine g_isub X191 C d8_51 rfl ?_
    rw [show ((0 : Int32) - (1 : Int32)) = (-1 : Int32) by decide]
    rw [hRS]
    refine g_retI X191 C d8_52 ?_ (by decide) (by decide)
    exact ⟨_, rfl, rfl, Or.inl ⟨rfl, hc31_192⟩⟩
  ·
    refine g_iload X191 C d8_34 rfl rfl ?_
    refine g_iconst (v := 1) X191 C d8_36 (by decide) rfl ?_
    refine g_iadd X191 C d8_37 rfl ?_
    rw [show ((0 : Int32) + (1 : Int32)) = (1 : Int32) by decide]
    refine g_istoreN (L' := #[.val (.ref a1), .val (.long p2), .second, .val (.int (1 : Int32)), .val (.int (1 : Int32)), .val (.int (0 : Int32))]) X191 C d8_38 rfl rfl rfl ?_
    refine g_goto (pc' := 46) X191 C d8_39 (by decide) (by decide) ?_
    refine g_goto (pc' := 8) X191 C d8_46 (by decide) (by decide) ?_
    refine g_iloadN X191 C d8_8 rfl rfl ?_
    refine g_iload X191 C d8_9 rfl rfl ?_
    refine g_icmp_ge (a := 1) (b := 1) X191 C d8_11 (by decide) (by decide) (by decide) (pT := 49) (by decide) (pF := 14) rfl (fun hc11_194 => ?_) (fun hc11_194 => absurd hc11_194 (by omega))
    refine g_iloadN X191 C d8_49 rfl rfl ?_
    refine g_iconst (v := 1) X191 C d8_50 (by decide) rfl ?_
    refine g_isub X191 C d8_51 rfl ?_
    rw [show ((1 : Int32) - (1 : Int32)) = (0 : Int32) by decide]
    rw [hRS]
    refine g_retI X191 C d8_52 ?_ (by decide) (by decide)
    exact ⟨_, rfl, rfl, Or.inr ⟨rfl, hc31_192⟩⟩
theorem ef_rmX2 (m : MethodId) (a1 : Addr) (p2 : Int64) : entryFrame m #[(.ref a1), (.long p2)] 6 = mkF m 0 #[.val (.ref a1), .val (.long p2), .second, .unset, .unset, .unset] [] := by first | (simp [entryFrame, mkF, argsToLocals, Value.category]; done) | rfl
set_option maxRecDepth 65536 in
set_option maxHeartbeats 40000000 in
theorem rmX2 (l : Launch) (Z : State) (a0 : Array Value) (hw : ∀ d ∈ tables_1, d.before a0 Z = true) (a1 : Addr) (p2 : Int64) (tm sr ub fd c5 c6 c7 c8 : Addr) (nn wv : Int32) (lw : Int64) (bl : Int32) (g : Nat → Int64) (h0 : Heap) (n0 : Nat) (hz0 : Lo n0 h0.size) (O_a1 : Ob Z h0 a1 "org/foreslot/planning/ClusterTimeline" NS_CT [(.ref tm), (.ref sr), (.ref ub), (.long (-9223372036854775808 : Int64)), (.long (1 : Int64)), (.long (9223372036854775807 : Int64)), (.long (-9223372036854775808 : Int64)), (.int nn), (.int wv), (.long lw), (.ref fd), (.ref c5), (.ref c6), (.ref c7), (.ref c8), (.int (2 : Int32)), (.int bl)]) (A_tm : Ar Z h0 tm .long 16 (fun j_ => .long (g j_))) (ws : List Jvm.Cond) :
    Ctr l (⟨"org/foreslot/planning/ClusterTimeline", "indexAt", "(J)I"⟩ : MethodName) prog_29_method_39_code 6 (some .int) ({ frames := 0, cells := 0, slots := 0, locals := 0 } : Room) Z n0 #[(.ref a1), (.long p2)] h0 (fun v h => ∃ r : Int32, v = some (.int r) ∧ h = h0 ∧ ((r = -1 ∧ p2.toInt < (g 0).toInt ∧ p2.toInt < (g 1).toInt) ∨ (r = 0 ∧ (g 0).toInt ≤ p2.toInt ∧ p2.toInt < (g 1).toInt) ∨ (r = 1 ∧ (g 1).toInt ≤ p2.toInt))) ws := by
  refine ctr_of (plainFor_of_name pn_1) ?_
  intro p e s m below meth c T0 X0 C
  refine go_cast (ef_rmX2 m a1 p2) ?_
  obtain ⟨RS, hRS⟩ : ∃ RS, RS = Rs s below n0 (fun v h => ∃ r : Int32, v = some (.int r) ∧ h = h0 ∧ ((r = -1 ∧ p2.toInt < (g 0).toInt ∧ p2.toInt < (g 1).toInt) ∨ (r = 0 ∧ (g 0).toInt ≤ p2.toInt ∧ p2.toInt < (g 1).toInt) ∨ (r = 1 ∧ (g 1).toInt ≤ p2.toInt))) ({ frames := 0, cells := 0, slots := 0, locals := 0 } : Room).cells ({ frames := 0, cells := 0, slots := 0, locals := 0 } : Room).slots := ⟨_, rfl⟩
  suffices HG : Go p e below RS T0 (mkF m 0 #[.val (.ref a1), .val (.long p2), .second, .unset, .unset, .unset] []) by rw [hRS] at HG; exact HG
  show Go p e below RS T0 (mkF m 0 #[.val (.ref a1), .val (.long p2), .second, .unset, .unset, .unset] [])
  refine g_iconst (v := 0) X0 C d8_0 (by decide) rfl ?_
  refine g_istoreN (L' := #[.val (.ref a1), .val (.long p2), .second, .val (.int (0 : Int32)), .unset, .unset]) X0 C d8_1 rfl rfl rfl ?_
  refine g_aloadN X0 C d8_2 rfl rfl rfl ?_
  refine g_getO (i := 15) X0 C O_a1 rfl rfl (host := "") (Or.inl (hw _ (List.mem_of_getElem? (i := 74) rfl))) d8_3 rfl (fun T195 X196 => ?_)
  refine g_istore (L' := #[.val (.ref a1), .val (.long p2), .second, .val (.int (0 : Int32)), .val (.int (2 : Int32)), .unset]) X196 C d8_6 rfl rfl rfl ?_
  refine g_iloadN X196 C d8_8 rfl rfl ?_
  refine g_iload X196 C d8_9 rfl rfl ?_
  refine g_icmp_ge (a := 0) (b := 2) X196 C d8_11 (by decide) (by decide) (by decide) (pT := 49) (by decide) (pF := 14) rfl (fun hc11_197 => absurd hc11_197 (by omega)) (fun hc11_197 => ?_)
  refine g_iloadN X196 C d8_14 rfl rfl ?_
  refine g_iload X196 C d8_15 rfl rfl ?_
  refine g_iadd X196 C d8_17 rfl ?_
  rw [show ((0 : Int32) + (2 : Int32)) = (2 : Int32) by decide]
  refine g_iconst (v := 1) X196 C d8_18 (by decide) rfl ?_
  refine g_iushr X196 C d8_19 rfl ?_
  rw [show (((2 : Int32).toUInt32 >>> ((1 : Int32) &&& 31).toUInt32).toInt32) = (1 : Int32) by decide]
  refine g_istore (L' := #[.val (.ref a1), .val (.long p2), .second, .val (.int (0 : Int32)), .val (.int (2 : Int32)), .val (.int (1 : Int32))]) X196 C d8_20 rfl rfl rfl ?_
  refine g_aloadN X196 C d8_22 rfl rfl rfl ?_
  refine g_getO (i := 0) X196 C O_a1 rfl rfl (host := "") (Or.inl (hw _ (List.mem_of_getElem? (i := 10) rfl))) d8_23 rfl (fun T198 X199 => ?_)
  refine g_iload X199 C d8_26 rfl rfl ?_
  refine g_laload (i := 1) (v := (.long (g 1))) X199 C A_tm (by decide) (by decide) rfl d8_28 rfl ?_
  refine g_lloadN X199 C d8_29 rfl rfl ?_
  refine g_lcmp X199 C d8_30 rfl ?_
  refine g_lif_gt (a := (g 1).toInt) (b := p2.toInt) X199 C d8_31 rfl rfl (by decide) (pT := 42) (by decide) (pF := 34) rfl (fun hc31_200 => ?_) (fun hc31_200 => ?_)
  ·
    refine g_iload X199 C d8_42 rfl rfl ?_
    refine g_istore (L' := #[.val (.ref a1), .val (.long p2), .second, .val (.int (0 : Int32)), .val (.int (1 : Int32)), .val (.int (1 : Int32))]) X199 C d8_44 rfl rfl rfl ?_
    refine g_goto (pc' := 8) X199 C d8_46 (by decide) (by decide) ?_
    refine g_iloadN X199 C d8_8 rfl rfl ?_
    refine g_iload X199 C d8_9 rfl rfl ?_
    refine g_icmp_ge (a := 0) (b := 1) X199 C d8_11 (by decide) (by decide) (by decide) (pT := 49) (by decide) (pF := 14) rfl (fun hc11_201 => absurd hc11_201 (by omega)) (fun hc11_201 => ?_)
    refine g_iloadN X199 C d8_14 rfl rfl ?_
    refine g_iload X199 C d8_15 rfl rfl ?_
    refine g_iadd X199 C d8_17 rfl ?_
    rw [show ((0 : Int32) + (1 : Int32)) = (1 : Int32) by decide]
    refine g_iconst (v := 1) X199 C d8_18 (by decide) rfl ?_
    refine g_iushr X199 C d8_19 rfl ?_
    rw [show (((1 : Int32).toUInt32 >>> ((1 : Int32) &&& 31).toUInt32).toInt32) = (0 : Int32) by decide]
    refine g_istore (L' := #[.val (.ref a1), .val (.long p2), .second, .val (.int (0 : Int32)), .val (.int (1 : Int32)), .val (.int (0 : Int32))]) X199 C d8_20 rfl rfl rfl ?_
    refine g_aloadN X199 C d8_22 rfl rfl rfl ?_
    refine g_getO (i := 0) X199 C O_a1 rfl rfl (host := "") (Or.inl (hw _ (List.mem_of_getElem? (i := 10) rfl))) d8_23 rfl (fun T202 X203 => ?_)
    refine g_iload X203 C d8_26 rfl rfl ?_
    refine g_laload (i := 0) (v := (.long (g 0))) X203 C A_tm (by decide) (by decide) rfl d8_28 rfl ?_
    refine g_lloadN X203 C d8_29 rfl rfl ?_
    refine g_lcmp X203 C d8_30 rfl ?_
    refine g_lif_gt (a := (g 0).toInt) (b := p2.toInt) X203 C d8_31 rfl rfl (by decide) (pT := 42) (by decide) (pF := 34) rfl (fun hc31_204 => ?_) (fun hc31_204 => ?_)
    ·
      refine g_iload X203 C d8_42 rfl rfl ?_
      refine g_istore (L' := #[.val (.ref a1), .val (.long p2), .second, .val (.int (0 : Int32)), .val (.int (0 : Int32)), .val (.int (0 : Int32))]) X203 C d8_44 rfl rfl rfl ?_
      refine g_goto (pc' := 8) X203 C d8_46 (by decide) (by decide) ?_
      refine g_iloadN X203 C d8_8 rfl rfl ?_
      refine g_iload X203 C d8_9 rfl rfl ?_
      refine g_icmp_ge (a := 0) (b := 0) X203 C d8_11 (by decide) (by decide) (by decide) (pT := 49) (by decide) (pF := 14) rfl (fun hc11_205 => ?_) (fun hc11_205 => absurd hc11_205 (by omega))
      refine g_iloadN X203 C d8_49 rfl rfl ?_
      refine g_iconst (v := 1) X203 C d8_50 (by decide) rfl ?_
      refine g_isub X203 C d8_51 rfl ?_
      rw [show ((0 : Int32) - (1 : Int32)) = (-1 : Int32) by decide]
      rw [hRS]
      refine g_retI X203 C d8_52 ?_ (by decide) (by decide)
      exact ⟨_, rfl, rfl, Or.inl ⟨rfl, hc31_204, hc31_200⟩⟩
    ·
      refine g_iload X203 C d8_34 rfl rfl ?_
      refine g_iconst (v := 1) X203 C d8_36 (by decide) rfl ?_
      refine g_iadd X203 C d8_37 rfl ?_
      rw [show ((0 : Int32) + (1 : Int32)) = (1 : Int32) by decide]
      refine g_istoreN (L' := #[.val (.ref a1), .val (.long p2), .second, .val (.int (1 : Int32)), .val (.int (1 : Int32)), .val (.int (0 : Int32))]) X203 C d8_38 rfl rfl rfl ?_
      refine g_goto (pc' := 46) X203 C d8_39 (by decide) (by decide) ?_
      refine g_goto (pc' := 8) X203 C d8_46 (by decide) (by decide) ?_
      refine g_iloadN X203 C d8_8 rfl rfl ?_
      refine g_iload X203 C d8_9 rfl rfl ?_
      refine g_icmp_ge (a := 1) (b := 1) X203 C d8_11 (by decide) (by decide) (by decide) (pT := 49) (by decide) (pF := 14) rfl (fun hc11_206 => ?_) (fun hc11_206 => absurd hc11_206 (by omega))
      refine g_iloadN X203 C d8_49 rfl rfl ?_
      refine g_iconst (v := 1) X203 C d8_50 (by decide) rfl ?_
      refine g_isub X203 C d8_51 rfl ?_
      rw [show ((1 : Int32) - (1 : Int32)) = (0 : Int32) by decide]
      rw [hRS]
      refine g_retI X203 C d8_52 ?_ (by decide) (by decide)
      exact ⟨_, rfl, rfl, Or.inr (Or.inl ⟨rfl, hc31_204, hc31_200⟩)⟩
  ·
    refine g_iload X199 C d8_34 rfl rfl ?_
    refine g_iconst (v := 1) X199 C d8_36 (by decide) rfl ?_
    refine g_iadd X199 C d8_37 rfl ?_
    rw [show ((1 : Int32) + (1 : Int32)) = (2 : Int32) by decide]
    refine g_istoreN (L' := #[.val (.ref a1), .val (.long p2), .second, .val (.int (2 : Int32)), .val (.int (2 : Int32)), .val (.int (1 : Int32))]) X199 C d8_38 rfl rfl rfl ?_
    refine g_goto (pc' := 46) X199 C d8_39 (by decide) (by decide) ?_
    refine g_goto (pc' := 8) X199 C d8_46 (by decide) (by decide) ?_
    refine g_iloadN X199 C d8_8 rfl rfl ?_
    refine g_iload X199 C d8_9 rfl rfl ?_
    refine g_icmp_ge (a := 2) (b := 2) X199 C d8_11 (by decide) (by decide) (by decide) (pT := 49) (by decide) (pF := 14) rfl (fun hc11_207 => ?_) (fun hc11_207 => absurd hc11_207 (by omega))
    refine g_iloadN X199 C d8_49 rfl rfl ?_
    refine g_iconst (v := 1) X199 C d8_50 (by decide) rfl ?_
    refine g_isub X199 C d8_51 rfl ?_
    rw [show ((2 : Int32) - (1 : Int32)) = (1 : Int32) by decide]
    rw [hRS]
    refine g_retI X199 C d8_52 ?_ (by decide) (by decide)
    exact ⟨_, rfl, rfl, Or.inr (Or.inr ⟨rfl, hc31_200⟩)⟩
theorem ef_rmS (m : MethodId) (a1 : Addr) (a2 : Addr) : entryFrame m #[(.ref a1), (.ref a2), .null] 3 = mkF m 0 #[.val (.ref a1), .val (.ref a2), .val .null] [] := by first | (simp [entryFrame, mkF, argsToLocals, Value.category]; done) | rfl
set_option maxRecDepth 65536 in
set_option maxHeartbeats 40000000 in
theorem rmS (l : Launch) (Z : State) (a0 : Array Value) (hw : ∀ d ∈ tables_1, d.before a0 Z = true) (a1 a2 : Addr) (wn : Nat) (wv : Int32) (g2 : Nat → Int64) (h0 : Heap) (n0 : Nat) (hz0 : Lo n0 h0.size) (hwn : own_W wn wv) (ga_a1 : Lo n0 a1) (ne21 : NE a2 a1) (O_a1 : Ob Z h0 a1 "org/foreslot/planning/ClusterTimeline$Stretch" NS_SR [.null, .null, .null, .null, .null]) (A_a2 : Ar Z h0 a2 .long wn (fun j_ => .long (g2 j_))) (ws : List Jvm.Cond) :
    Ctr l (⟨"org/foreslot/planning/ClusterTimeline$Stretch", "<init>", "([J[J)V"⟩ : MethodName) prog_31_method_1_code 3 none ({ frames := 1, cells := 1, slots := 2, locals := 12 } : Room) Z n0 #[(.ref a1), (.ref a2), .null] h0 (fun v h => v = none ∧ Keep h0 h [a1] ∧ ∃ b, Lo h0.size b ∧ Ob Z h a1 "org/foreslot/planning/ClusterTimeline$Stretch" NS_SR [(.ref a2), (.ref b), .null, .null, .null] ∧ Ar Z h b .long wn (fun _ => .long 0)) ws := by
  refine ctr_of (plainFor_of_name pn_2) ?_
  intro p e s m below meth c T0 X0 C
  refine go_cast (ef_rmS m a1 a2) ?_
  obtain ⟨RS, hRS⟩ : ∃ RS, RS = Rs s below n0 (fun v h => v = none ∧ Keep h0 h [a1] ∧ ∃ b, Lo h0.size b ∧ Ob Z h a1 "org/foreslot/planning/ClusterTimeline$Stretch" NS_SR [(.ref a2), (.ref b), .null, .null, .null] ∧ Ar Z h b .long wn (fun _ => .long 0)) ({ frames := 1, cells := 1, slots := 2, locals := 12 } : Room).cells ({ frames := 1, cells := 1, slots := 2, locals := 12 } : Room).slots := ⟨_, rfl⟩
  suffices HG : Go p e below RS T0 (mkF m 0 #[.val (.ref a1), .val (.ref a2), .val .null] []) by rw [hRS] at HG; exact HG
  have hw2 := hwn.le
  show Go p e below RS T0 (mkF m 0 #[.val (.ref a1), .val (.ref a2), .val .null] [])
  refine g_aloadN X0 C d9_0 rfl rfl rfl ?_
  refine g_initO (W := 0) X0 C (hw _ (List.mem_of_getElem? (i := 85) rfl)) (hw _ (List.mem_of_getElem? (i := 7) rfl)) (hw _ (List.mem_of_getElem? (i := 8) rfl)) rfl rfl (by decide) (by decide) d9_1 rfl (fun T208 X209 => ?_)
  refine g_aloadN X209 C d9_4 rfl rfl rfl ?_
  refine g_aloadN X209 C d9_5 rfl rfl rfl ?_
  refine g_putO (i := 0) (vs' := [(.ref a2), .null, .null, .null, .null]) X209 C O_a1 (CF_SR hw) rfl rfl rfl ga_a1 (host := "") (Or.inl (hw _ (List.mem_of_getElem? (i := 86) rfl))) (Or.inr ⟨(hw _ (List.mem_of_getElem? (i := 87) rfl)), rfl, rfl⟩) (ty := (.array .long)) (by decide) rfl rfl d9_6 rfl (fun T210 h212 X211 O_a1 K213 => ?_)
  have A_a2 := A_a2.keep K213 (ninN ne21 nin0)
  have hz214 : Lo n0 h212.size := Lo.keep hz0 K213
  have KK215 := (Keep.refl h0 [a1]).trans K213 (allS (Or.inl (List.mem_of_getElem? (i := 0) rfl)) all0)
  refine g_aloadN X211 C d9_9 rfl rfl rfl ?_
  refine g_aloadN X211 C d9_10 rfl rfl rfl ?_
  refine g_arrlen (z := wv) X211 C A_a2 hwn.len d9_11 rfl ?_
  refine g_newarr (n := wn) (cap := 2) X211 C (hw _ (List.mem_of_getElem? (i := 9) rfl)) hwn.v hw2 (by decide) (by decide) (by decide) d9_12 rfl (fun T216 h218 b220 hb221 X217 A_b220 K219 => ?_)
  have A_b220 : Ar Z h218 b220 .long wn (fun _ => .long 0) := A_b220
  have ne_a1_b220 : NE a1 b220 := hb221.ne O_a1.lt
  have ne_a2_b220 : NE a2 b220 := hb221.ne A_a2.lt
  have ga_b220 : Lo n0 b220 := Sz.lo hb221 hz214
  have sz_b220 : Lo h0.size b220 := Sz.lo hb221 (KK215.1)
  have O_a1 := O_a1.keep K219 nin0
  have A_a2 := A_a2.keep K219 nin0
  have hz222 : Lo n0 h218.size := Lo.keep hz214 K219
  have KK223 := KK215.trans K219 (fun x hx => nomatch hx)
  refine g_putO (i := 1) (vs' := [(.ref a2), (.ref b220), .null, .null, .null]) X217 C O_a1 (CF_SR hw) rfl rfl rfl ga_a1 (host := "") (Or.inl (hw _ (List.mem_of_getElem? (i := 88) rfl))) (Or.inr ⟨(hw _ (List.mem_of_getElem? (i := 89) rfl)), rfl, rfl⟩) (ty := (.array .long)) (by decide) rfl rfl d9_14 rfl (fun T224 h226 X225 O_a1 K227 => ?_)
  have A_a2 := A_a2.keep K227 (ninN ne21 nin0)
  have A_b220 := A_b220.keep K227 (ninN (NE.symm ne_a1_b220) nin0)
  have hz228 : Lo n0 h226.size := Lo.keep hz222 K227
  have KK229 := KK223.trans K227 (allS (Or.inl (List.mem_of_getElem? (i := 0) rfl)) all0)
  refine g_aloadN X225 C d9_17 rfl rfl rfl ?_
  refine g_aloadN X225 C d9_18 rfl rfl rfl ?_
  refine g_putO (i := 2) (vs' := [(.ref a2), (.ref b220), .null, .null, .null]) X225 C O_a1 (CF_SR hw) rfl rfl rfl ga_a1 (host := "") (Or.inl (hw _ (List.mem_of_getElem? (i := 90) rfl))) (Or.inl (hw _ (List.mem_of_getElem? (i := 91) rfl))) (ty := (.array .long)) (by decide) rfl rfl d9_19 rfl (fun T230 h232 X231 O_a1 K233 => ?_)
  have A_a2 := A_a2.keep K233 (ninN ne21 nin0)
  have A_b220 := A_b220.keep K233 (ninN (NE.symm ne_a1_b220) nin0)
  have hz234 : Lo n0 h232.size := Lo.keep hz228 K233
  have KK235 := KK229.trans K233 (allS (Or.inl (List.mem_of_getElem? (i := 0) rfl)) all0)
  rw [hRS]
  refine g_retV X231 C d9_22 ?_ (by decide) (by decide)
  exact ⟨rfl, KK235, b220, sz_b220, O_a1, A_b220⟩
theorem ef_rmIns0 (m : MethodId) (a1 : Addr) (p2 : Int64) : entryFrame m #[(.ref a1), (.long p2)] 5 = mkF m 0 #[.val (.ref a1), .val (.long p2), .second, .unset, .unset] [] := by first | (simp [entryFrame, mkF, argsToLocals, Value.category]; done) | rfl
set_option maxRecDepth 65536 in
set_option maxHeartbeats 40000000 in
theorem rmIns0 (l : Launch) (Z : State) (a0 : Array Value) (hw : ∀ d ∈ tables_1, d.before a0 Z = true) (a1 : Addr) (p2 : Int64) (tm sr ub fd c5 c6 c7 c8 : Addr) (nn wv : Int32) (lw : Int64) (bl : Int32) (wn : Nat) (g : Nat → Int64) (fn : Nat → Value) (gu : Nat → Int32) (h0 : Heap) (n0 : Nat) (hz0 : Lo n0 h0.size) (hwn : own_W wn wv) (ga_a1 : Lo n0 a1) (ga_tm : Lo n0 tm) (ga_sr : Lo n0 sr) (ga_ub : Lo n0 ub) (ne_a1_tm : NE a1 tm) (ne_a1_sr : NE a1 sr) (ne_a1_ub : NE a1 ub) (ne_tm_sr : NE tm sr) (ne_tm_ub : NE tm ub) (ne_sr_ub : NE sr ub) (O_a1 : Ob Z h0 a1 "org/foreslot/planning/ClusterTimeline" NS_CT [(.ref tm), (.ref sr), (.ref ub), (.long (-9223372036854775808 : Int64)), (.long (1 : Int64)), (.long (9223372036854775807 : Int64)), (.long (-9223372036854775808 : Int64)), (.int nn), (.int wv), (.long lw), (.ref fd), (.ref c5), (.ref c6), (.ref c7), (.ref c8), (.int (0 : Int32)), (.int bl)]) (A_tm : Ar Z h0 tm .long 16 (fun j_ => .long (g j_))) (A_sr : ArR Z h0 sr "org/foreslot/planning/ClusterTimeline$Stretch" 16 fn) (A_ub : Ar Z h0 ub .int 16 (fun k => .int (gu k))) (hfn : ∀ k, k < 16 → (fn k).isRef = true) (ws : List Jvm.Cond) :
    Ctr l (⟨"org/foreslot/planning/ClusterTimeline", "insert", "(J)I"⟩ : MethodName) prog_29_method_35_code 5 (some .int) ({ frames := 2, cells := 3, slots := 10, locals := 60 } : Room) Z n0 #[(.ref a1), (.long p2)] h0 (fun v h => v = some (.int 0) ∧ Keep h0 h [a1, tm, sr, ub] ∧ ∃ s b e, Lo h0.size s ∧ Lo h0.size b ∧ Lo h0.size e ∧ NE s b ∧ NE s e ∧ NE b e ∧ Ob Z h a1 "org/foreslot/planning/ClusterTimeline" NS_CT [(.ref tm), (.ref sr), (.ref ub), (.long (-9223372036854775808 : Int64)), (.long (1 : Int64)), (.long (9223372036854775807 : Int64)), (.long (-9223372036854775808 : Int64)), (.int nn), (.int wv), (.long lw), (.ref fd), (.ref c5), (.ref c6), (.ref c7), (.ref c8), (.int (1 : Int32)), (.int bl)] ∧ Ar Z h tm .long 16 (fun k => .long (if k = 0 then p2 else g k)) ∧ ArR Z h sr "org/foreslot/planning/ClusterTimeline$Stretch" 16 (fun k => if k = 0 then .ref s else fn k) ∧ Ar Z h ub .int 16 (fun k => .int (if k = 0 then nn else gu k)) ∧ Ob Z h s "org/foreslot/planning/ClusterTimeline$Stretch" NS_SR [(.ref b), (.ref e), .null, .null, .null] ∧ Ar Z h b .long wn (fun k => .long (0)) ∧ Exa Z h b "[J" ∧ Ar Z h e .long wn (fun _ => .long 0)) ws := by
  refine ctr_of (plainFor_of_name pn_1) ?_
  intro p e s m below meth c T0 X0 C
  refine go_cast (ef_rmIns0 m a1 p2) ?_
  obtain ⟨RS, hRS⟩ : ∃ RS, RS = Rs s below n0 (fun v h => v = some (.int 0) ∧ Keep h0 h [a1, tm, sr, ub] ∧ ∃ s b e, Lo h0.size s ∧ Lo h0.size b ∧ Lo h0.size e ∧ NE s b ∧ NE s e ∧ NE b e ∧ Ob Z h a1 "org/foreslot/planning/ClusterTimeline" NS_CT [(.ref tm), (.ref sr), (.ref ub), (.long (-9223372036854775808 : Int64)), (.long (1 : Int64)), (.long (9223372036854775807 : Int64)), (.long (-9223372036854775808 : Int64)), (.int nn), (.int wv), (.long lw), (.ref fd), (.ref c5), (.ref c6), (.ref c7), (.ref c8), (.int (1 : Int32)), (.int bl)] ∧ Ar Z h tm .long 16 (fun k => .long (if k = 0 then p2 else g k)) ∧ ArR Z h sr "org/foreslot/planning/ClusterTimeline$Stretch" 16 (fun k => if k = 0 then .ref s else fn k) ∧ Ar Z h ub .int 16 (fun k => .int (if k = 0 then nn else gu k)) ∧ Ob Z h s "org/foreslot/planning/ClusterTimeline$Stretch" NS_SR [(.ref b), (.ref e), .null, .null, .null] ∧ Ar Z h b .long wn (fun k => .long (0)) ∧ Exa Z h b "[J" ∧ Ar Z h e .long wn (fun _ => .long 0)) ({ frames := 2, cells := 3, slots := 10, locals := 60 } : Room).cells ({ frames := 2, cells := 3, slots := 10, locals := 60 } : Room).slots := ⟨_, rfl⟩
  suffices HG : Go p e below RS T0 (mkF m 0 #[.val (.ref a1), .val (.long p2), .second, .unset, .unset] []) by rw [hRS] at HG; exact HG
  have hw2 := hwn.le
  show Go p e below RS T0 (mkF m 0 #[.val (.ref a1), .val (.long p2), .second, .unset, .unset] [])
  refine g_aloadN X0 C d7_0 rfl rfl rfl ?_
  refine g_lloadN X0 C d7_1 rfl rfl ?_
  refine g_private (argsL := [(.long p2)]) (rest := []) (W := 0) (a := a1) X0 C (rmX0 l Z a0 hw a1 p2 tm sr ub fd c5 c6 c7 c8 nn wv lw bl g h0 n0 hz0 O_a1 A_tm []) O_a1.1 (hw _ (List.mem_of_getElem? (i := 70) rfl)) (hw _ (List.mem_of_getElem? (i := 71) rfl)) (hw _ (List.mem_of_getElem? (i := 72) rfl)) (hw _ (List.mem_of_getElem? (i := 1) rfl)) (hw _ (List.mem_of_getElem? (i := 2) rfl)) (hw _ (List.mem_of_getElem? (i := 73) rfl)) (by decide) pd_0 rfl rfl rfl rfl rfl (by decide) (by decide) (by decide) (by decide) d7_2 rfl (fun r239 T236 h238 hQ240 X237 => ?_)
  obtain ⟨rfl, hh⟩ := hQ240; rw [hh] at X237
  show Go p e below RS T236 (mkF m 5 #[.val (.ref a1), .val (.long p2), .second, .unset, .unset] [(.int (-1 : Int32))])
  refine g_istoreN (L' := #[.val (.ref a1), .val (.long p2), .second, .val (.int (-1 : Int32)), .unset]) X237 C d7_5 rfl rfl rfl ?_
  refine g_iloadN X237 C d7_6 rfl rfl ?_
  refine g_if_lt (a := (-1)) X237 C d7_7 (by decide) (by decide) (pT := 23) (by decide) (pF := 10) rfl (fun hc7 => ?_) (fun hc7 => absurd hc7 (by omega))
  refine g_iinc (v' := (0 : Int32)) (L' := #[.val (.ref a1), .val (.long p2), .second, .val (.int (0 : Int32)), .unset]) X237 C d7_23 rfl (by decide) rfl rfl ?_
  refine g_aloadN X237 C d7_26 rfl rfl rfl ?_
  refine g_getO (i := 15) X237 C O_a1 rfl rfl (host := "") (Or.inl (hw _ (List.mem_of_getElem? (i := 74) rfl))) d7_27 rfl (fun T241 X242 => ?_)
  refine g_aloadN X242 C d7_30 rfl rfl rfl ?_
  refine g_getO (i := 0) X242 C O_a1 rfl rfl (host := "") (Or.inl (hw _ (List.mem_of_getElem? (i := 10) rfl))) d7_31 rfl (fun T243 X244 => ?_)
  refine g_arrlen (z := (16 : Int32)) X244 C A_tm rfl d7_34 rfl ?_
  refine g_icmp_ne (a := 0) (b := 16) X244 C d7_35 (by decide) (by decide) (by decide) (pT := 92) (by decide) (pF := 38) rfl (fun hc35 => ?_) (fun hc35 => absurd hc35 (by omega))
  refine g_aloadN X244 C d7_92 rfl rfl rfl ?_
  refine g_getO (i := 0) X244 C O_a1 rfl rfl (host := "") (Or.inl (hw _ (List.mem_of_getElem? (i := 10) rfl))) d7_93 rfl (fun T245 X246 => ?_)
  refine g_iloadN X246 C d7_96 rfl rfl ?_
  refine g_aloadN X246 C d7_97 rfl rfl rfl ?_
  refine g_getO (i := 0) X246 C O_a1 rfl rfl (host := "") (Or.inl (hw _ (List.mem_of_getElem? (i := 10) rfl))) d7_98 rfl (fun T247 X248 => ?_)
  refine g_iloadN X248 C d7_101 rfl rfl ?_
  refine g_iconst (v := 1) X248 C d7_102 (by decide) rfl ?_
  refine g_iadd X248 C d7_103 rfl ?_
  rw [show ((0 : Int32) + (1 : Int32)) = (1 : Int32) by decide]
  refine g_aloadN X248 C d7_104 rfl rfl rfl ?_
  refine g_getO (i := 15) X248 C O_a1 rfl rfl (host := "") (Or.inl (hw _ (List.mem_of_getElem? (i := 74) rfl))) d7_105 rfl (fun T249 X250 => ?_)
  refine g_iloadN X250 C d7_108 rfl rfl ?_
  refine g_isub X250 C d7_109 rfl ?_
  rw [show ((0 : Int32) - (0 : Int32)) = (0 : Int32) by decide]
  refine g_copy0 (i := 0) (j := 1) (W := 0) X250 C (hw _ (List.mem_of_getElem? (i := 76) rfl)) (hw _ (List.mem_of_getElem? (i := 79) rfl)) (hw _ (List.mem_of_getElem? (i := 77) rfl)) (hw _ (List.mem_of_getElem? (i := 78) rfl)) A_tm rfl (fun _ _ => rfl) (by decide) (by decide) (by decide) (by decide) (by decide) (by decide) ga_tm rfl rfl (by decide) (by decide) d7_110 rfl (fun T251 h253 X252 A_tm K254 => ?_)
  have O_a1 := O_a1.keep K254 (ninN ne_a1_tm nin0)
  have A_sr := A_sr.keep K254 (ninN (NE.symm ne_tm_sr) nin0)
  have A_ub := A_ub.keep K254 (ninN (NE.symm ne_tm_ub) nin0)
  have hz255 : Lo n0 h253.size := Lo.keep hz0 K254
  have KK256 := (Keep.refl h0 [a1, tm, sr, ub]).trans K254 (allS (Or.inl (List.mem_of_getElem? (i := 1) rfl)) all0)
  refine g_aloadN X252 C d7_113 rfl rfl rfl ?_
  refine g_getO (i := 1) X252 C O_a1 rfl rfl (host := "") (Or.inl (hw _ (List.mem_of_getElem? (i := 14) rfl))) d7_114 rfl (fun T257 X258 => ?_)
  refine g_iloadN X258 C d7_117 rfl rfl ?_
  refine g_aloadN X258 C d7_118 rfl rfl rfl ?_
  refine g_getO (i := 1) X258 C O_a1 rfl rfl (host := "") (Or.inl (hw _ (List.mem_of_getElem? (i := 14) rfl))) d7_119 rfl (fun T259 X260 => ?_)
  refine g_iloadN X260 C d7_122 rfl rfl ?_
  refine g_iconst (v := 1) X260 C d7_123 (by decide) rfl ?_
  refine g_iadd X260 C d7_124 rfl ?_
  rw [show ((0 : Int32) + (1 : Int32)) = (1 : Int32) by decide]
  refine g_aloadN X260 C d7_125 rfl rfl rfl ?_
  refine g_getO (i := 15) X260 C O_a1 rfl rfl (host := "") (Or.inl (hw _ (List.mem_of_getElem? (i := 74) rfl))) d7_126 rfl (fun T261 X262 => ?_)
  refine g_iloadN X262 C d7_129 rfl rfl ?_
  refine g_isub X262 C d7_130 rfl ?_
  rw [show ((0 : Int32) - (0 : Int32)) = (0 : Int32) by decide]
  refine g_copy0R (i := 0) (j := 1) (W := 0) X262 C (hw _ (List.mem_of_getElem? (i := 76) rfl)) (hw _ (List.mem_of_getElem? (i := 79) rfl)) (hw _ (List.mem_of_getElem? (i := 77) rfl)) (hw _ (List.mem_of_getElem? (i := 78) rfl)) A_sr hfn (by decide) (by decide) (by decide) (by decide) (by decide) (by decide) ga_sr rfl rfl (by decide) (by decide) d7_131 rfl (fun T263 h265 X264 A_sr K266 => ?_)
  have O_a1 := O_a1.keep K266 (ninN ne_a1_sr nin0)
  have A_tm := A_tm.keep K266 (ninN ne_tm_sr nin0)
  have A_ub := A_ub.keep K266 (ninN (NE.symm ne_sr_ub) nin0)
  have hz267 : Lo n0 h265.size := Lo.keep hz255 K266
  have KK268 := KK256.trans K266 (allS (Or.inl (List.mem_of_getElem? (i := 2) rfl)) all0)
  refine g_aloadN X264 C d7_134 rfl rfl rfl ?_
  refine g_getO (i := 2) X264 C O_a1 rfl rfl (host := "") (Or.inl (hw _ (List.mem_of_getElem? (i := 17) rfl))) d7_135 rfl (fun T269 X270 => ?_)
  refine g_iloadN X270 C d7_138 rfl rfl ?_
  refine g_aloadN X270 C d7_139 rfl rfl rfl ?_
  refine g_getO (i := 2) X270 C O_a1 rfl rfl (host := "") (Or.inl (hw _ (List.mem_of_getElem? (i := 17) rfl))) d7_140 rfl (fun T271 X272 => ?_)
  refine g_iloadN X272 C d7_143 rfl rfl ?_
  refine g_iconst (v := 1) X272 C d7_144 (by decide) rfl ?_
  refine g_iadd X272 C d7_145 rfl ?_
  rw [show ((0 : Int32) + (1 : Int32)) = (1 : Int32) by decide]
  refine g_aloadN X272 C d7_146 rfl rfl rfl ?_
  refine g_getO (i := 15) X272 C O_a1 rfl rfl (host := "") (Or.inl (hw _ (List.mem_of_getElem? (i := 74) rfl))) d7_147 rfl (fun T273 X274 => ?_)
  refine g_iloadN X274 C d7_150 rfl rfl ?_
  refine g_isub X274 C d7_151 rfl ?_
  rw [show ((0 : Int32) - (0 : Int32)) = (0 : Int32) by decide]
  refine g_copy0 (i := 0) (j := 1) (W := 0) X274 C (hw _ (List.mem_of_getElem? (i := 76) rfl)) (hw _ (List.mem_of_getElem? (i := 79) rfl)) (hw _ (List.mem_of_getElem? (i := 77) rfl)) (hw _ (List.mem_of_getElem? (i := 78) rfl)) A_ub rfl (fun _ _ => rfl) (by decide) (by decide) (by decide) (by decide) (by decide) (by decide) ga_ub rfl rfl (by decide) (by decide) d7_152 rfl (fun T275 h277 X276 A_ub K278 => ?_)
  have O_a1 := O_a1.keep K278 (ninN ne_a1_ub nin0)
  have A_tm := A_tm.keep K278 (ninN ne_tm_ub nin0)
  have A_sr := A_sr.keep K278 (ninN ne_sr_ub nin0)
  have hz279 : Lo n0 h277.size := Lo.keep hz267 K278
  have KK280 := KK268.trans K278 (allS (Or.inl (List.mem_of_getElem? (i := 3) rfl)) all0)
  refine g_aloadN X276 C d7_155 rfl rfl rfl ?_
  refine g_dup X276 C d7_156 rfl rfl ?_
  refine g_getO (i := 15) X276 C O_a1 rfl rfl (host := "") (Or.inl (hw _ (List.mem_of_getElem? (i := 74) rfl))) d7_157 rfl (fun T281 X282 => ?_)
  refine g_iconst (v := 1) X282 C d7_160 (by decide) rfl ?_
  refine g_iadd X282 C d7_161 rfl ?_
  rw [show ((0 : Int32) + (1 : Int32)) = (1 : Int32) by decide]
  refine g_putO (i := 15) (vs' := [(.ref tm), (.ref sr), (.ref ub), (.long (-9223372036854775808 : Int64)), (.long (1 : Int64)), (.long (9223372036854775807 : Int64)), (.long (-9223372036854775808 : Int64)), (.int nn), (.int wv), (.long lw), (.ref fd), (.ref c5), (.ref c6), (.ref c7), (.ref c8), (.int (1 : Int32)), (.int bl)]) X282 C O_a1 (CF_CT hw) rfl rfl rfl ga_a1 (host := "") (Or.inl (hw _ (List.mem_of_getElem? (i := 74) rfl))) (Or.inl (hw _ (List.mem_of_getElem? (i := 75) rfl))) (ty := .int) (by decide) rfl rfl d7_162 rfl (fun T283 h285 X284 O_a1 K286 => ?_)
  have A_tm := A_tm.keep K286 (ninN (NE.symm ne_a1_tm) nin0)
  have A_sr := A_sr.keep K286 (ninN (NE.symm ne_a1_sr) nin0)
  have A_ub := A_ub.keep K286 (ninN (NE.symm ne_a1_ub) nin0)
  have hz287 : Lo n0 h285.size := Lo.keep hz279 K286
  have KK288 := KK280.trans K286 (allS (Or.inl (List.mem_of_getElem? (i := 0) rfl)) all0)
  refine g_aloadN X284 C d7_165 rfl rfl rfl ?_
  refine g_getO (i := 0) X284 C O_a1 rfl rfl (host := "") (Or.inl (hw _ (List.mem_of_getElem? (i := 10) rfl))) d7_166 rfl (fun T289 X290 => ?_)
  refine g_iloadN X290 C d7_169 rfl rfl ?_
  refine g_lloadN X290 C d7_170 rfl rfl ?_
  refine g_lastore (i := 0) X290 C A_tm (by decide) (by decide) ga_tm d7_171 rfl (fun T291 h293 X292 A_tm K294 => ?_)
  have O_a1 := O_a1.keep K294 (ninN ne_a1_tm nin0)
  have A_sr := A_sr.keep K294 (ninN (NE.symm ne_tm_sr) nin0)
  have A_ub := A_ub.keep K294 (ninN (NE.symm ne_tm_ub) nin0)
  have hz295 : Lo n0 h293.size := Lo.keep hz287 K294
  have KK296 := KK288.trans K294 (allS (Or.inl (List.mem_of_getElem? (i := 1) rfl)) all0)
  refine g_iloadN X292 C d7_172 rfl rfl ?_
  refine g_if_le (a := 0) X292 C d7_173 (by decide) (by decide) (pT := 187) (by decide) (pF := 176) rfl (fun hc173 => ?_) (fun hc173 => absurd hc173 (by omega))
  refine g_aconst X292 C d7_187 rfl ?_
  refine g_astore (L' := #[.val (.ref a1), .val (.long p2), .second, .val (.int (0 : Int32)), .val .null]) X292 C d7_188 rfl rfl rfl ?_
  refine g_aloadN X292 C d7_190 rfl rfl rfl ?_
  refine g_getO (i := 1) X292 C O_a1 rfl rfl (host := "") (Or.inl (hw _ (List.mem_of_getElem? (i := 14) rfl))) d7_191 rfl (fun T297 X298 => ?_)
  refine g_iloadN X298 C d7_194 rfl rfl ?_
  refine g_aload X298 C d7_195 rfl rfl rfl ?_
  refine g_nonnullN (pF := 200) X298 C d7_197 rfl ?_
  refine g_newO (vs := [.null, .null, .null, .null, .null]) X298 C (hw _ (List.mem_of_getElem? (i := 12) rfl)) (CF_SR hw) (hw _ (List.mem_of_getElem? (i := 81) rfl)) (by decide) (by decide) (by decide) d7_200 rfl (fun T299 h301 b303 hb304 X300 O_b303 K302 => ?_)
  have ne_a1_b303 : NE a1 b303 := hb304.ne O_a1.lt
  have ne_tm_b303 : NE tm b303 := hb304.ne A_tm.lt
  have ne_sr_b303 : NE sr b303 := hb304.ne A_sr.lt
  have ne_ub_b303 : NE ub b303 := hb304.ne A_ub.lt
  have ga_b303 : Lo n0 b303 := Sz.lo hb304 hz295
  have sz_b303 : Lo h0.size b303 := Sz.lo hb304 (KK296.1)
  have O_a1 := O_a1.keep K302 nin0
  have A_tm := A_tm.keep K302 nin0
  have A_sr := A_sr.keep K302 nin0
  have A_ub := A_ub.keep K302 nin0
  have hz305 : Lo n0 h301.size := Lo.keep hz295 K302
  have KK306 := KK296.trans K302 (fun x hx => nomatch hx)
  refine g_dup X300 C d7_203 rfl rfl ?_
  refine g_aloadN X300 C d7_204 rfl rfl rfl ?_
  refine g_getO (i := 8) X300 C O_a1 rfl rfl (host := "") (Or.inl (hw _ (List.mem_of_getElem? (i := 31) rfl))) d7_205 rfl (fun T307 X308 => ?_)
  refine g_newarrE (ad := "[J") (n := wn) (cap := 2) X308 C (by decide +kernel) (hw _ (List.mem_of_getElem? (i := 9) rfl)) hwn.v hw2 (by decide) (by decide) (by decide) d7_208 rfl (fun T309 h311 b313 hb314 X310 A_b313 E_b313 K312 => ?_)
  have A_b313 : Ar Z h311 b313 .long wn (fun _ => .long 0) := A_b313
  have ne_a1_b313 : NE a1 b313 := hb314.ne O_a1.lt
  have ne_tm_b313 : NE tm b313 := hb314.ne A_tm.lt
  have ne_sr_b313 : NE sr b313 := hb314.ne A_sr.lt
  have ne_ub_b313 : NE ub b313 := hb314.ne A_ub.lt
  have ne_b303_b313 : NE b303 b313 := hb314.ne O_b303.lt
  have ga_b313 : Lo n0 b313 := Sz.lo hb314 hz305
  have sz_b313 : Lo h0.size b313 := Sz.lo hb314 (KK306.1)
  have O_a1 := O_a1.keep K312 nin0
  have A_tm := A_tm.keep K312 nin0
  have A_sr := A_sr.keep K312 nin0
  have A_ub := A_ub.keep K312 nin0
  have O_b303 := O_b303.keep K312 nin0
  have hz315 : Lo n0 h311.size := Lo.keep hz305 K312
  have KK316 := KK306.trans K312 (fun x hx => nomatch hx)
  refine g_aconst X310 C d7_210 rfl ?_
  refine g_special (argsL := [(.ref b313), .null]) (rest := [(.ref b303), (.int (0 : Int32)), (.ref sr)]) (W := 3) (a := b303) X310 C (rmS l Z a0 hw b303 b313 wn wv (fun _ => 0) h311 n0 hz315 hwn ga_b303 (NE.symm ne_b303_b313) O_b303 A_b313 []) rfl rfl (hw _ (List.mem_of_getElem? (i := 82) rfl)) (hw _ (List.mem_of_getElem? (i := 83) rfl)) (hw _ (List.mem_of_getElem? (i := 81) rfl)) (hw _ (List.mem_of_getElem? (i := 84) rfl)) (by decide) pd_1 rfl rfl rfl rfl rfl (by decide) (by decide) (by decide) (by decide) d7_211 rfl (fun r320 T317 h319 hQ321 X318 => ?_)
  obtain ⟨rfl, KS, e1, lo_e1, O_s, A_e1⟩ := hQ321
  have ne_a1_e1 : NE a1 e1 := lone O_a1.lt lo_e1
  have ne_tm_e1 : NE tm e1 := lone A_tm.lt lo_e1
  have ne_sr_e1 : NE sr e1 := lone A_sr.lt lo_e1
  have ne_ub_e1 : NE ub e1 := lone A_ub.lt lo_e1
  have ne_b303_e1 : NE b303 e1 := lone O_b303.lt lo_e1
  have ne_b313_e1 : NE b313 e1 := lone A_b313.lt lo_e1
  have ga_e1 : Lo n0 e1 := Lo.tr hz315 lo_e1
  have sz_e1 : Lo h0.size e1 := Lo.kt KK316 lo_e1
  have O_a1 := O_a1.keep KS (ninN ne_a1_b303 nin0)
  have A_tm := A_tm.keep KS (ninN ne_tm_b303 nin0)
  have A_sr := A_sr.keep KS (ninN ne_sr_b303 nin0)
  have A_ub := A_ub.keep KS (ninN ne_ub_b303 nin0)
  have E_b313 := E_b313.keep KS
  have A_b313 := A_b313.keep KS (ninN (NE.symm ne_b303_b313) nin0)
  have hz322 : Lo n0 h319.size := Lo.keep hz315 KS
  have KK323 := KK316.trans KS (allS (Or.inr sz_b303) all0)
  show Go p e below RS T317 (mkF m 214 #[.val (.ref a1), .val (.long p2), .second, .val (.int (0 : Int32)), .val .null] [(.ref b303), (.int (0 : Int32)), (.ref sr)])
  refine g_goto (pc' := 258) X318 C d7_214 (by decide) (by decide) ?_
  refine g_aastore (i := 0) X318 C A_sr (Ins.self O_s.1) (by decide) (by decide) ga_sr d7_258 rfl (fun T324 h326 X325 A_sr K327 => ?_)
  have O_a1 := O_a1.keep K327 (ninN ne_a1_sr nin0)
  have A_tm := A_tm.keep K327 (ninN ne_tm_sr nin0)
  have A_ub := A_ub.keep K327 (ninN (NE.symm ne_sr_ub) nin0)
  have O_s := O_s.keep K327 (ninN (NE.symm ne_sr_b303) nin0)
  have E_b313 := E_b313.keep K327
  have A_b313 := A_b313.keep K327 (ninN (NE.symm ne_sr_b313) nin0)
  have A_e1 := A_e1.keep K327 (ninN (NE.symm ne_sr_e1) nin0)
  have hz328 : Lo n0 h326.size := Lo.keep hz322 K327
  have KK329 := KK323.trans K327 (allS (Or.inl (List.mem_of_getElem? (i := 2) rfl)) all0)
  refine g_aloadN X325 C d7_259 rfl rfl rfl ?_
  refine g_getO (i := 2) X325 C O_a1 rfl rfl (host := "") (Or.inl (hw _ (List.mem_of_getElem? (i := 17) rfl))) d7_260 rfl (fun T330 X331 => ?_)
  refine g_iloadN X331 C d7_263 rfl rfl ?_
  refine g_aload X331 C d7_264 rfl rfl rfl ?_
  refine g_nonnullN (pF := 269) X331 C d7_266 rfl ?_
  refine g_aloadN X331 C d7_269 rfl rfl rfl ?_
  refine g_getO (i := 7) X331 C O_a1 rfl rfl (host := "") (Or.inl (hw _ (List.mem_of_getElem? (i := 29) rfl))) d7_270 rfl (fun T332 X333 => ?_)
  refine g_goto (pc' := 284) X333 C d7_273 (by decide) (by decide) ?_
  refine g_iastore (i := 0) X333 C A_ub (by decide) (by decide) ga_ub d7_284 rfl (fun T334 h336 X335 A_ub K337 => ?_)
  have O_a1 := O_a1.keep K337 (ninN ne_a1_ub nin0)
  have A_tm := A_tm.keep K337 (ninN ne_tm_ub nin0)
  have A_sr := A_sr.keep K337 (ninN ne_sr_ub nin0)
  have O_s := O_s.keep K337 (ninN (NE.symm ne_ub_b303) nin0)
  have E_b313 := E_b313.keep K337
  have A_b313 := A_b313.keep K337 (ninN (NE.symm ne_ub_b313) nin0)
  have A_e1 := A_e1.keep K337 (ninN (NE.symm ne_ub_e1) nin0)
  have hz338 : Lo n0 h336.size := Lo.keep hz328 K337
  have KK339 := KK329.trans K337 (allS (Or.inl (List.mem_of_getElem? (i := 3) rfl)) all0)
  refine g_iloadN X335 C d7_285 rfl rfl ?_
  rw [hRS]
  refine g_retI X335 C d7_286 ?_ (by decide) (by decide)
  exact ⟨rfl, KK339, b303, b313, e1, sz_b303, sz_b313, sz_e1, ne_b303_b313, ne_b303_e1, ne_b313_e1, O_a1, A_tm, A_sr, A_ub, O_s, A_b313, E_b313, A_e1⟩
theorem ef_rmIns1 (m : MethodId) (a1 : Addr) (p2 : Int64) : entryFrame m #[(.ref a1), (.long p2)] 5 = mkF m 0 #[.val (.ref a1), .val (.long p2), .second, .unset, .unset] [] := by first | (simp [entryFrame, mkF, argsToLocals, Value.category]; done) | rfl
set_option maxRecDepth 65536 in
set_option maxHeartbeats 40000000 in
theorem rmIns1 (l : Launch) (Z : State) (a0 : Array Value) (hw : ∀ d ∈ tables_1, d.before a0 Z = true) (a1 : Addr) (p2 : Int64) (tm sr ub fd c5 c6 c7 c8 : Addr) (nn wv : Int32) (lw : Int64) (bl : Int32) (wn : Nat) (g : Nat → Int64) (fn : Nat → Value) (gu : Nat → Int32) (s0 b0 e0 : Addr) (gb : Nat → Int64) (h0 : Heap) (n0 : Nat) (hz0 : Lo n0 h0.size) (hwn : own_W wn wv) (ga_a1 : Lo n0 a1) (ga_tm : Lo n0 tm) (ga_sr : Lo n0 sr) (ga_ub : Lo n0 ub) (ne_a1_tm : NE a1 tm) (ne_a1_sr : NE a1 sr) (ne_a1_ub : NE a1 ub) (ne_tm_sr : NE tm sr) (ne_tm_ub : NE tm ub) (ne_sr_ub : NE sr ub) (O_a1 : Ob Z h0 a1 "org/foreslot/planning/ClusterTimeline" NS_CT [(.ref tm), (.ref sr), (.ref ub), (.long (-9223372036854775808 : Int64)), (.long (1 : Int64)), (.long (9223372036854775807 : Int64)), (.long (-9223372036854775808 : Int64)), (.int nn), (.int wv), (.long lw), (.ref fd), (.ref c5), (.ref c6), (.ref c7), (.ref c8), (.int (1 : Int32)), (.int bl)]) (A_tm : Ar Z h0 tm .long 16 (fun j_ => .long (g j_))) (A_sr : ArR Z h0 sr "org/foreslot/planning/ClusterTimeline$Stretch" 16 fn) (A_ub : Ar Z h0 ub .int 16 (fun k => .int (gu k))) (hfn : ∀ k, k < 16 → (fn k).isRef = true) (hg : (g 0).toInt < p2.toInt) (hfn0 : fn 0 = .ref s0) (ne_s0_a1 : NE s0 a1) (ne_b0_a1 : NE b0 a1) (ne_s0_tm : NE s0 tm) (ne_b0_tm : NE b0 tm) (ne_s0_sr : NE s0 sr) (ne_b0_sr : NE b0 sr) (ne_s0_ub : NE s0 ub) (ne_b0_ub : NE b0 ub) (O_s0 : Ob Z h0 s0 "org/foreslot/planning/ClusterTimeline$Stretch" NS_SR [(.ref b0), (.ref e0), .null, .null, .null]) (A_b0 : Ar Z h0 b0 .long wn (fun j_ => .long (gb j_))) (E_b0 : Exa Z h0 b0 "[J") (ws : List Jvm.Cond) :
    Ctr l (⟨"org/foreslot/planning/ClusterTimeline", "insert", "(J)I"⟩ : MethodName) prog_29_method_35_code 5 (some .int) ({ frames := 2, cells := 3, slots := 10, locals := 60 } : Room) Z n0 #[(.ref a1), (.long p2)] h0 (fun v h => v = some (.int 1) ∧ Keep h0 h [a1, tm, sr, ub] ∧ ∃ s b e, Lo h0.size s ∧ Lo h0.size b ∧ Lo h0.size e ∧ NE s b ∧ NE s e ∧ NE b e ∧ Ob Z h a1 "org/foreslot/planning/ClusterTimeline" NS_CT [(.ref tm), (.ref sr), (.ref ub), (.long (-9223372036854775808 : Int64)), (.long (1 : Int64)), (.long (9223372036854775807 : Int64)), (.long (-9223372036854775808 : Int64)), (.int nn), (.int wv), (.long lw), (.ref fd), (.ref c5), (.ref c6), (.ref c7), (.ref c8), (.int (2 : Int32)), (.int bl)] ∧ Ar Z h tm .long 16 (fun k => .long (if k = 1 then p2 else g k)) ∧ ArR Z h sr "org/foreslot/planning/ClusterTimeline$Stretch" 16 (fun k => if k = 1 then .ref s else fn k) ∧ Ar Z h ub .int 16 (fun k => .int (if k = 1 then gu 0 else gu k)) ∧ Ob Z h s "org/foreslot/planning/ClusterTimeline$Stretch" NS_SR [(.ref b), (.ref e), .null, .null, .null] ∧ Ar Z h b .long wn (fun k => .long (gb k)) ∧ Exa Z h b "[J" ∧ Ar Z h e .long wn (fun _ => .long 0)) ws := by
  refine ctr_of (plainFor_of_name pn_1) ?_
  intro p e s m below meth c T0 X0 C
  refine go_cast (ef_rmIns1 m a1 p2) ?_
  obtain ⟨RS, hRS⟩ : ∃ RS, RS = Rs s below n0 (fun v h => v = some (.int 1) ∧ Keep h0 h [a1, tm, sr, ub] ∧ ∃ s b e, Lo h0.size s ∧ Lo h0.size b ∧ Lo h0.size e ∧ NE s b ∧ NE s e ∧ NE b e ∧ Ob Z h a1 "org/foreslot/planning/ClusterTimeline" NS_CT [(.ref tm), (.ref sr), (.ref ub), (.long (-9223372036854775808 : Int64)), (.long (1 : Int64)), (.long (9223372036854775807 : Int64)), (.long (-9223372036854775808 : Int64)), (.int nn), (.int wv), (.long lw), (.ref fd), (.ref c5), (.ref c6), (.ref c7), (.ref c8), (.int (2 : Int32)), (.int bl)] ∧ Ar Z h tm .long 16 (fun k => .long (if k = 1 then p2 else g k)) ∧ ArR Z h sr "org/foreslot/planning/ClusterTimeline$Stretch" 16 (fun k => if k = 1 then .ref s else fn k) ∧ Ar Z h ub .int 16 (fun k => .int (if k = 1 then gu 0 else gu k)) ∧ Ob Z h s "org/foreslot/planning/ClusterTimeline$Stretch" NS_SR [(.ref b), (.ref e), .null, .null, .null] ∧ Ar Z h b .long wn (fun k => .long (gb k)) ∧ Exa Z h b "[J" ∧ Ar Z h e .long wn (fun _ => .long 0)) ({ frames := 2, cells := 3, slots := 10, locals := 60 } : Room).cells ({ frames := 2, cells := 3, slots := 10, locals := 60 } : Room).slots := ⟨_, rfl⟩
  suffices HG : Go p e below RS T0 (mkF m 0 #[.val (.ref a1), .val (.long p2), .second, .unset, .unset] []) by rw [hRS] at HG; exact HG
  have hw2 := hwn.le
  show Go p e below RS T0 (mkF m 0 #[.val (.ref a1), .val (.long p2), .second, .unset, .unset] [])
  refine g_aloadN X0 C d7_0 rfl rfl rfl ?_
  refine g_lloadN X0 C d7_1 rfl rfl ?_
  refine g_private (argsL := [(.long p2)]) (rest := []) (W := 0) (a := a1) X0 C (rmX1 l Z a0 hw a1 p2 tm sr ub fd c5 c6 c7 c8 nn wv lw bl g h0 n0 hz0 O_a1 A_tm []) O_a1.1 (hw _ (List.mem_of_getElem? (i := 70) rfl)) (hw _ (List.mem_of_getElem? (i := 71) rfl)) (hw _ (List.mem_of_getElem? (i := 72) rfl)) (hw _ (List.mem_of_getElem? (i := 1) rfl)) (hw _ (List.mem_of_getElem? (i := 2) rfl)) (hw _ (List.mem_of_getElem? (i := 73) rfl)) (by decide) pd_0 rfl rfl rfl rfl rfl (by decide) (by decide) (by decide) (by decide) d7_2 rfl (fun r343 T340 h342 hQ344 X341 => ?_)
  obtain ⟨rx, rfl, hh, hx⟩ := hQ344; rw [hh] at X341
  obtain rfl : rx = 0 := by rcases hx with ⟨_, q⟩ | ⟨q, _⟩
                            · omega
                            · exact q
  show Go p e below RS T340 (mkF m 5 #[.val (.ref a1), .val (.long p2), .second, .unset, .unset] [(.int (0 : Int32))])
  refine g_istoreN (L' := #[.val (.ref a1), .val (.long p2), .second, .val (.int (0 : Int32)), .unset]) X341 C d7_5 rfl rfl rfl ?_
  refine g_iloadN X341 C d7_6 rfl rfl ?_
  refine g_if_lt (a := 0) X341 C d7_7 (by decide) (by decide) (pT := 23) (by decide) (pF := 10) rfl (fun hc7 => absurd hc7 (by omega)) (fun hc7 => ?_)
  refine g_aloadN X341 C d7_10 rfl rfl rfl ?_
  refine g_getO (i := 0) X341 C O_a1 rfl rfl (host := "") (Or.inl (hw _ (List.mem_of_getElem? (i := 10) rfl))) d7_11 rfl (fun T345 X346 => ?_)
  refine g_iloadN X346 C d7_14 rfl rfl ?_
  refine g_laload (i := 0) (v := (.long (g 0))) X346 C A_tm (by decide) (by decide) rfl d7_15 rfl ?_
  refine g_lloadN X346 C d7_16 rfl rfl ?_
  refine g_lcmp X346 C d7_17 rfl ?_
  refine g_lif_ne (a := (g 0).toInt) (b := p2.toInt) X346 C d7_18 rfl rfl (by decide) (pT := 23) (by decide) (pF := 21) rfl (fun hc18 => ?_) (fun hc18 => absurd hc18 (by omega))
  refine g_iinc (v' := (1 : Int32)) (L' := #[.val (.ref a1), .val (.long p2), .second, .val (.int (1 : Int32)), .unset]) X346 C d7_23 rfl (by decide) rfl rfl ?_
  refine g_aloadN X346 C d7_26 rfl rfl rfl ?_
  refine g_getO (i := 15) X346 C O_a1 rfl rfl (host := "") (Or.inl (hw _ (List.mem_of_getElem? (i := 74) rfl))) d7_27 rfl (fun T347 X348 => ?_)
  refine g_aloadN X348 C d7_30 rfl rfl rfl ?_
  refine g_getO (i := 0) X348 C O_a1 rfl rfl (host := "") (Or.inl (hw _ (List.mem_of_getElem? (i := 10) rfl))) d7_31 rfl (fun T349 X350 => ?_)
  refine g_arrlen (z := (16 : Int32)) X350 C A_tm rfl d7_34 rfl ?_
  refine g_icmp_ne (a := 1) (b := 16) X350 C d7_35 (by decide) (by decide) (by decide) (pT := 92) (by decide) (pF := 38) rfl (fun hc35 => ?_) (fun hc35 => absurd hc35 (by omega))
  refine g_aloadN X350 C d7_92 rfl rfl rfl ?_
  refine g_getO (i := 0) X350 C O_a1 rfl rfl (host := "") (Or.inl (hw _ (List.mem_of_getElem? (i := 10) rfl))) d7_93 rfl (fun T351 X352 => ?_)
  refine g_iloadN X352 C d7_96 rfl rfl ?_
  refine g_aloadN X352 C d7_97 rfl rfl rfl ?_
  refine g_getO (i := 0) X352 C O_a1 rfl rfl (host := "") (Or.inl (hw _ (List.mem_of_getElem? (i := 10) rfl))) d7_98 rfl (fun T353 X354 => ?_)
  refine g_iloadN X354 C d7_101 rfl rfl ?_
  refine g_iconst (v := 1) X354 C d7_102 (by decide) rfl ?_
  refine g_iadd X354 C d7_103 rfl ?_
  rw [show ((1 : Int32) + (1 : Int32)) = (2 : Int32) by decide]
  refine g_aloadN X354 C d7_104 rfl rfl rfl ?_
  refine g_getO (i := 15) X354 C O_a1 rfl rfl (host := "") (Or.inl (hw _ (List.mem_of_getElem? (i := 74) rfl))) d7_105 rfl (fun T355 X356 => ?_)
  refine g_iloadN X356 C d7_108 rfl rfl ?_
  refine g_isub X356 C d7_109 rfl ?_
  rw [show ((1 : Int32) - (1 : Int32)) = (0 : Int32) by decide]
  refine g_copy0 (i := 1) (j := 2) (W := 0) X356 C (hw _ (List.mem_of_getElem? (i := 76) rfl)) (hw _ (List.mem_of_getElem? (i := 79) rfl)) (hw _ (List.mem_of_getElem? (i := 77) rfl)) (hw _ (List.mem_of_getElem? (i := 78) rfl)) A_tm rfl (fun _ _ => rfl) (by decide) (by decide) (by decide) (by decide) (by decide) (by decide) ga_tm rfl rfl (by decide) (by decide) d7_110 rfl (fun T357 h359 X358 A_tm K360 => ?_)
  have O_a1 := O_a1.keep K360 (ninN ne_a1_tm nin0)
  have A_sr := A_sr.keep K360 (ninN (NE.symm ne_tm_sr) nin0)
  have A_ub := A_ub.keep K360 (ninN (NE.symm ne_tm_ub) nin0)
  have O_s0 := O_s0.keep K360 (ninN ne_s0_tm nin0)
  have E_b0 := E_b0.keep K360
  have A_b0 := A_b0.keep K360 (ninN ne_b0_tm nin0)
  have hz361 : Lo n0 h359.size := Lo.keep hz0 K360
  have KK362 := (Keep.refl h0 [a1, tm, sr, ub]).trans K360 (allS (Or.inl (List.mem_of_getElem? (i := 1) rfl)) all0)
  refine g_aloadN X358 C d7_113 rfl rfl rfl ?_
  refine g_getO (i := 1) X358 C O_a1 rfl rfl (host := "") (Or.inl (hw _ (List.mem_of_getElem? (i := 14) rfl))) d7_114 rfl (fun T363 X364 => ?_)
  refine g_iloadN X364 C d7_117 rfl rfl ?_
  refine g_aloadN X364 C d7_118 rfl rfl rfl ?_
  refine g_getO (i := 1) X364 C O_a1 rfl rfl (host := "") (Or.inl (hw _ (List.mem_of_getElem? (i := 14) rfl))) d7_119 rfl (fun T365 X366 => ?_)
  refine g_iloadN X366 C d7_122 rfl rfl ?_
  refine g_iconst (v := 1) X366 C d7_123 (by decide) rfl ?_
  refine g_iadd X366 C d7_124 rfl ?_
  rw [show ((1 : Int32) + (1 : Int32)) = (2 : Int32) by decide]
  refine g_aloadN X366 C d7_125 rfl rfl rfl ?_
  refine g_getO (i := 15) X366 C O_a1 rfl rfl (host := "") (Or.inl (hw _ (List.mem_of_getElem? (i := 74) rfl))) d7_126 rfl (fun T367 X368 => ?_)
  refine g_iloadN X368 C d7_129 rfl rfl ?_
  refine g_isub X368 C d7_130 rfl ?_
  rw [show ((1 : Int32) - (1 : Int32)) = (0 : Int32) by decide]
  refine g_copy0R (i := 1) (j := 2) (W := 0) X368 C (hw _ (List.mem_of_getElem? (i := 76) rfl)) (hw _ (List.mem_of_getElem? (i := 79) rfl)) (hw _ (List.mem_of_getElem? (i := 77) rfl)) (hw _ (List.mem_of_getElem? (i := 78) rfl)) A_sr hfn (by decide) (by decide) (by decide) (by decide) (by decide) (by decide) ga_sr rfl rfl (by decide) (by decide) d7_131 rfl (fun T369 h371 X370 A_sr K372 => ?_)
  have O_a1 := O_a1.keep K372 (ninN ne_a1_sr nin0)
  have A_tm := A_tm.keep K372 (ninN ne_tm_sr nin0)
  have A_ub := A_ub.keep K372 (ninN (NE.symm ne_sr_ub) nin0)
  have O_s0 := O_s0.keep K372 (ninN ne_s0_sr nin0)
  have E_b0 := E_b0.keep K372
  have A_b0 := A_b0.keep K372 (ninN ne_b0_sr nin0)
  have hz373 : Lo n0 h371.size := Lo.keep hz361 K372
  have KK374 := KK362.trans K372 (allS (Or.inl (List.mem_of_getElem? (i := 2) rfl)) all0)
  refine g_aloadN X370 C d7_134 rfl rfl rfl ?_
  refine g_getO (i := 2) X370 C O_a1 rfl rfl (host := "") (Or.inl (hw _ (List.mem_of_getElem? (i := 17) rfl))) d7_135 rfl (fun T375 X376 => ?_)
  refine g_iloadN X376 C d7_138 rfl rfl ?_
  refine g_aloadN X376 C d7_139 rfl rfl rfl ?_
  refine g_getO (i := 2) X376 C O_a1 rfl rfl (host := "") (Or.inl (hw _ (List.mem_of_getElem? (i := 17) rfl))) d7_140 rfl (fun T377 X378 => ?_)
  refine g_iloadN X378 C d7_143 rfl rfl ?_
  refine g_iconst (v := 1) X378 C d7_144 (by decide) rfl ?_
  refine g_iadd X378 C d7_145 rfl ?_
  rw [show ((1 : Int32) + (1 : Int32)) = (2 : Int32) by decide]
  refine g_aloadN X378 C d7_146 rfl rfl rfl ?_
  refine g_getO (i := 15) X378 C O_a1 rfl rfl (host := "") (Or.inl (hw _ (List.mem_of_getElem? (i := 74) rfl))) d7_147 rfl (fun T379 X380 => ?_)
  refine g_iloadN X380 C d7_150 rfl rfl ?_
  refine g_isub X380 C d7_151 rfl ?_
  rw [show ((1 : Int32) - (1 : Int32)) = (0 : Int32) by decide]
  refine g_copy0 (i := 1) (j := 2) (W := 0) X380 C (hw _ (List.mem_of_getElem? (i := 76) rfl)) (hw _ (List.mem_of_getElem? (i := 79) rfl)) (hw _ (List.mem_of_getElem? (i := 77) rfl)) (hw _ (List.mem_of_getElem? (i := 78) rfl)) A_ub rfl (fun _ _ => rfl) (by decide) (by decide) (by decide) (by decide) (by decide) (by decide) ga_ub rfl rfl (by decide) (by decide) d7_152 rfl (fun T381 h383 X382 A_ub K384 => ?_)
  have O_a1 := O_a1.keep K384 (ninN ne_a1_ub nin0)
  have A_tm := A_tm.keep K384 (ninN ne_tm_ub nin0)
  have A_sr := A_sr.keep K384 (ninN ne_sr_ub nin0)
  have O_s0 := O_s0.keep K384 (ninN ne_s0_ub nin0)
  have E_b0 := E_b0.keep K384
  have A_b0 := A_b0.keep K384 (ninN ne_b0_ub nin0)
  have hz385 : Lo n0 h383.size := Lo.keep hz373 K384
  have KK386 := KK374.trans K384 (allS (Or.inl (List.mem_of_getElem? (i := 3) rfl)) all0)
  refine g_aloadN X382 C d7_155 rfl rfl rfl ?_
  refine g_dup X382 C d7_156 rfl rfl ?_
  refine g_getO (i := 15) X382 C O_a1 rfl rfl (host := "") (Or.inl (hw _ (List.mem_of_getElem? (i := 74) rfl))) d7_157 rfl (fun T387 X388 => ?_)
  refine g_iconst (v := 1) X388 C d7_160 (by decide) rfl ?_
  refine g_iadd X388 C d7_161 rfl ?_
  rw [show ((1 : Int32) + (1 : Int32)) = (2 : Int32) by decide]
  refine g_putO (i := 15) (vs' := [(.ref tm), (.ref sr), (.ref ub), (.long (-9223372036854775808 : Int64)), (.long (1 : Int64)), (.long (9223372036854775807 : Int64)), (.long (-9223372036854775808 : Int64)), (.int nn), (.int wv), (.long lw), (.ref fd), (.ref c5), (.ref c6), (.ref c7), (.ref c8), (.int (2 : Int32)), (.int bl)]) X388 C O_a1 (CF_CT hw) rfl rfl rfl ga_a1 (host := "") (Or.inl (hw _ (List.mem_of_getElem? (i := 74) rfl))) (Or.inl (hw _ (List.mem_of_getElem? (i := 75) rfl))) (ty := .int) (by decide) rfl rfl d7_162 rfl (fun T389 h391 X390 O_a1 K392 => ?_)
  have A_tm := A_tm.keep K392 (ninN (NE.symm ne_a1_tm) nin0)
  have A_sr := A_sr.keep K392 (ninN (NE.symm ne_a1_sr) nin0)
  have A_ub := A_ub.keep K392 (ninN (NE.symm ne_a1_ub) nin0)
  have O_s0 := O_s0.keep K392 (ninN ne_s0_a1 nin0)
  have E_b0 := E_b0.keep K392
  have A_b0 := A_b0.keep K392 (ninN ne_b0_a1 nin0)
  have hz393 : Lo n0 h391.size := Lo.keep hz385 K392
  have KK394 := KK386.trans K392 (allS (Or.inl (List.mem_of_getElem? (i := 0) rfl)) all0)
  refine g_aloadN X390 C d7_165 rfl rfl rfl ?_
  refine g_getO (i := 0) X390 C O_a1 rfl rfl (host := "") (Or.inl (hw _ (List.mem_of_getElem? (i := 10) rfl))) d7_166 rfl (fun T395 X396 => ?_)
  refine g_iloadN X396 C d7_169 rfl rfl ?_
  refine g_lloadN X396 C d7_170 rfl rfl ?_
  refine g_lastore (i := 1) X396 C A_tm (by decide) (by decide) ga_tm d7_171 rfl (fun T397 h399 X398 A_tm K400 => ?_)
  have O_a1 := O_a1.keep K400 (ninN ne_a1_tm nin0)
  have A_sr := A_sr.keep K400 (ninN (NE.symm ne_tm_sr) nin0)
  have A_ub := A_ub.keep K400 (ninN (NE.symm ne_tm_ub) nin0)
  have O_s0 := O_s0.keep K400 (ninN ne_s0_tm nin0)
  have E_b0 := E_b0.keep K400
  have A_b0 := A_b0.keep K400 (ninN ne_b0_tm nin0)
  have hz401 : Lo n0 h399.size := Lo.keep hz393 K400
  have KK402 := KK394.trans K400 (allS (Or.inl (List.mem_of_getElem? (i := 1) rfl)) all0)
  refine g_iloadN X398 C d7_172 rfl rfl ?_
  refine g_if_le (a := 1) X398 C d7_173 (by decide) (by decide) (pT := 187) (by decide) (pF := 176) rfl (fun hc173 => absurd hc173 (by omega)) (fun hc173 => ?_)
  refine g_aloadN X398 C d7_176 rfl rfl rfl ?_
  refine g_getO (i := 1) X398 C O_a1 rfl rfl (host := "") (Or.inl (hw _ (List.mem_of_getElem? (i := 14) rfl))) d7_177 rfl (fun T403 X404 => ?_)
  refine g_iloadN X404 C d7_180 rfl rfl ?_
  refine g_iconst (v := 1) X404 C d7_181 (by decide) rfl ?_
  refine g_isub X404 C d7_182 rfl ?_
  rw [show ((1 : Int32) - (1 : Int32)) = (0 : Int32) by decide]
  refine g_aaload (i := 0) (v := (.ref s0)) X404 C A_sr (by decide) (by decide) hfn0 d7_183 rfl ?_
  refine g_goto (pc' := 188) X404 C d7_184 (by decide) (by decide) ?_
  refine g_astore (L' := #[.val (.ref a1), .val (.long p2), .second, .val (.int (1 : Int32)), .val (.ref s0)]) X404 C d7_188 rfl rfl rfl ?_
  refine g_aloadN X404 C d7_190 rfl rfl rfl ?_
  refine g_getO (i := 1) X404 C O_a1 rfl rfl (host := "") (Or.inl (hw _ (List.mem_of_getElem? (i := 14) rfl))) d7_191 rfl (fun T405 X406 => ?_)
  refine g_iloadN X406 C d7_194 rfl rfl ?_
  refine g_aload X406 C d7_195 rfl rfl rfl ?_
  refine g_nonnullY X406 C d7_197 (by decide) (pT := 217) (by decide) ?_
  refine g_newO (vs := [.null, .null, .null, .null, .null]) X406 C (hw _ (List.mem_of_getElem? (i := 12) rfl)) (CF_SR hw) (hw _ (List.mem_of_getElem? (i := 81) rfl)) (by decide) (by decide) (by decide) d7_217 rfl (fun T407 h409 b411 hb412 X408 O_b411 K410 => ?_)
  have ne_a1_b411 : NE a1 b411 := hb412.ne O_a1.lt
  have ne_tm_b411 : NE tm b411 := hb412.ne A_tm.lt
  have ne_sr_b411 : NE sr b411 := hb412.ne A_sr.lt
  have ne_ub_b411 : NE ub b411 := hb412.ne A_ub.lt
  have ne_s0_b411 : NE s0 b411 := hb412.ne O_s0.lt
  have ne_b0_b411 : NE b0 b411 := hb412.ne A_b0.lt
  have ga_b411 : Lo n0 b411 := Sz.lo hb412 hz401
  have sz_b411 : Lo h0.size b411 := Sz.lo hb412 (KK402.1)
  have O_a1 := O_a1.keep K410 nin0
  have A_tm := A_tm.keep K410 nin0
  have A_sr := A_sr.keep K410 nin0
  have A_ub := A_ub.keep K410 nin0
  have O_s0 := O_s0.keep K410 nin0
  have E_b0 := E_b0.keep K410
  have A_b0 := A_b0.keep K410 nin0
  have hz413 : Lo n0 h409.size := Lo.keep hz401 K410
  have KK414 := KK402.trans K410 (fun x hx => nomatch hx)
  refine g_dup X408 C d7_220 rfl rfl ?_
  refine g_aload X408 C d7_221 rfl rfl rfl ?_
  refine g_getO (i := 0) X408 C O_s0 rfl rfl (host := "") (Or.inl (hw _ (List.mem_of_getElem? (i := 93) rfl))) d7_223 rfl (fun T415 X416 => ?_)
  refine g_cloneJ (ad := "[J") (n := wn) (cap := 2) (W := 4) (g := gb) X416 C (hw _ (List.mem_of_getElem? (i := 94) rfl)) (hw _ (List.mem_of_getElem? (i := 95) rfl)) (hw _ (List.mem_of_getElem? (i := 99) rfl)) (hw _ (List.mem_of_getElem? (i := 97) rfl)) (hw _ (List.mem_of_getElem? (i := 98) rfl)) (hw _ (List.mem_of_getElem? (i := 100) rfl)) A_b0 E_b0 rfl rfl (by decide) (by decide) (by omega) (by decide) (by decide) d7_226 rfl (fun T417 h419 b421 hb422 X418 A_b421 E_b421 K420 => ?_)
  have ne_a1_b421 : NE a1 b421 := hb422.ne O_a1.lt
  have ne_tm_b421 : NE tm b421 := hb422.ne A_tm.lt
  have ne_sr_b421 : NE sr b421 := hb422.ne A_sr.lt
  have ne_ub_b421 : NE ub b421 := hb422.ne A_ub.lt
  have ne_s0_b421 : NE s0 b421 := hb422.ne O_s0.lt
  have ne_b0_b421 : NE b0 b421 := hb422.ne A_b0.lt
  have ne_b411_b421 : NE b411 b421 := hb422.ne O_b411.lt
  have ga_b421 : Lo n0 b421 := Sz.lo hb422 hz413
  have sz_b421 : Lo h0.size b421 := Sz.lo hb422 (KK414.1)
  have O_a1 := O_a1.keep K420 nin0
  have A_tm := A_tm.keep K420 nin0
  have A_sr := A_sr.keep K420 nin0
  have A_ub := A_ub.keep K420 nin0
  have O_s0 := O_s0.keep K420 nin0
  have E_b0 := E_b0.keep K420
  have A_b0 := A_b0.keep K420 nin0
  have O_b411 := O_b411.keep K420 nin0
  have hz423 : Lo n0 h419.size := Lo.keep hz413 K420
  have KK424 := KK414.trans K420 (fun x hx => nomatch hx)
  refine g_cast X418 C (hw _ (List.mem_of_getElem? (i := 101) rfl)) (Ins.self E_b421) d7_229 rfl (fun T425 X426 => ?_)
  refine g_aload X426 C d7_232 rfl rfl rfl ?_
  refine g_getO (i := 2) X426 C O_s0 rfl rfl (host := "") (Or.inl (hw _ (List.mem_of_getElem? (i := 103) rfl))) d7_234 rfl (fun T427 X428 => ?_)
  refine g_nonnullN (pF := 240) X428 C d7_237 rfl ?_
  refine g_aconst X428 C d7_240 rfl ?_
  refine g_goto (pc' := 255) X428 C d7_241 (by decide) (by decide) ?_
  refine g_special (argsL := [(.ref b421), .null]) (rest := [(.ref b411), (.int (1 : Int32)), (.ref sr)]) (W := 3) (a := b411) X428 C (rmS l Z a0 hw b411 b421 wn wv gb h419 n0 hz423 hwn ga_b411 (NE.symm ne_b411_b421) O_b411 A_b421 []) rfl rfl (hw _ (List.mem_of_getElem? (i := 82) rfl)) (hw _ (List.mem_of_getElem? (i := 83) rfl)) (hw _ (List.mem_of_getElem? (i := 81) rfl)) (hw _ (List.mem_of_getElem? (i := 84) rfl)) (by decide) pd_1 rfl rfl rfl rfl rfl (by decide) (by decide) (by decide) (by decide) d7_255 rfl (fun r432 T429 h431 hQ433 X430 => ?_)
  obtain ⟨rfl, KS, e1, lo_e1, O_s, A_e1⟩ := hQ433
  have ne_a1_e1 : NE a1 e1 := lone O_a1.lt lo_e1
  have ne_tm_e1 : NE tm e1 := lone A_tm.lt lo_e1
  have ne_sr_e1 : NE sr e1 := lone A_sr.lt lo_e1
  have ne_ub_e1 : NE ub e1 := lone A_ub.lt lo_e1
  have ne_s0_e1 : NE s0 e1 := lone O_s0.lt lo_e1
  have ne_b0_e1 : NE b0 e1 := lone A_b0.lt lo_e1
  have ne_b411_e1 : NE b411 e1 := lone O_b411.lt lo_e1
  have ne_b421_e1 : NE b421 e1 := lone A_b421.lt lo_e1
  have ga_e1 : Lo n0 e1 := Lo.tr hz423 lo_e1
  have sz_e1 : Lo h0.size e1 := Lo.kt KK424 lo_e1
  have O_a1 := O_a1.keep KS (ninN ne_a1_b411 nin0)
  have A_tm := A_tm.keep KS (ninN ne_tm_b411 nin0)
  have A_sr := A_sr.keep KS (ninN ne_sr_b411 nin0)
  have A_ub := A_ub.keep KS (ninN ne_ub_b411 nin0)
  have O_s0 := O_s0.keep KS (ninN ne_s0_b411 nin0)
  have E_b0 := E_b0.keep KS
  have A_b0 := A_b0.keep KS (ninN ne_b0_b411 nin0)
  have E_b421 := E_b421.keep KS
  have A_b421 := A_b421.keep KS (ninN (NE.symm ne_b411_b421) nin0)
  have hz434 : Lo n0 h431.size := Lo.keep hz423 KS
  have KK435 := KK424.trans KS (allS (Or.inr sz_b411) all0)
  show Go p e below RS T429 (mkF m 258 #[.val (.ref a1), .val (.long p2), .second, .val (.int (1 : Int32)), .val (.ref s0)] [(.ref b411), (.int (1 : Int32)), (.ref sr)])
  refine g_aastore (i := 1) X430 C A_sr (Ins.self O_s.1) (by decide) (by decide) ga_sr d7_258 rfl (fun T436 h438 X437 A_sr K439 => ?_)
  have O_a1 := O_a1.keep K439 (ninN ne_a1_sr nin0)
  have A_tm := A_tm.keep K439 (ninN ne_tm_sr nin0)
  have A_ub := A_ub.keep K439 (ninN (NE.symm ne_sr_ub) nin0)
  have O_s0 := O_s0.keep K439 (ninN ne_s0_sr nin0)
  have E_b0 := E_b0.keep K439
  have A_b0 := A_b0.keep K439 (ninN ne_b0_sr nin0)
  have O_s := O_s.keep K439 (ninN (NE.symm ne_sr_b411) nin0)
  have E_b421 := E_b421.keep K439
  have A_b421 := A_b421.keep K439 (ninN (NE.symm ne_sr_b421) nin0)
  have A_e1 := A_e1.keep K439 (ninN (NE.symm ne_sr_e1) nin0)
  have hz440 : Lo n0 h438.size := Lo.keep hz434 K439
  have KK441 := KK435.trans K439 (allS (Or.inl (List.mem_of_getElem? (i := 2) rfl)) all0)
  refine g_aloadN X437 C d7_259 rfl rfl rfl ?_
  refine g_getO (i := 2) X437 C O_a1 rfl rfl (host := "") (Or.inl (hw _ (List.mem_of_getElem? (i := 17) rfl))) d7_260 rfl (fun T442 X443 => ?_)
  refine g_iloadN X443 C d7_263 rfl rfl ?_
  refine g_aload X443 C d7_264 rfl rfl rfl ?_
  refine g_nonnullY X443 C d7_266 (by decide) (pT := 276) (by decide) ?_
  refine g_aloadN X443 C d7_276 rfl rfl rfl ?_
  refine g_getO (i := 2) X443 C O_a1 rfl rfl (host := "") (Or.inl (hw _ (List.mem_of_getElem? (i := 17) rfl))) d7_277 rfl (fun T444 X445 => ?_)
  refine g_iloadN X445 C d7_280 rfl rfl ?_
  refine g_iconst (v := 1) X445 C d7_281 (by decide) rfl ?_
  refine g_isub X445 C d7_282 rfl ?_
  rw [show ((1 : Int32) - (1 : Int32)) = (0 : Int32) by decide]
  refine g_iaload (i := 0) (v := (.int (gu 0))) X445 C A_ub (by decide) (by decide) rfl d7_283 rfl ?_
  refine g_iastore (i := 1) X445 C A_ub (by decide) (by decide) ga_ub d7_284 rfl (fun T446 h448 X447 A_ub K449 => ?_)
  have O_a1 := O_a1.keep K449 (ninN ne_a1_ub nin0)
  have A_tm := A_tm.keep K449 (ninN ne_tm_ub nin0)
  have A_sr := A_sr.keep K449 (ninN ne_sr_ub nin0)
  have O_s0 := O_s0.keep K449 (ninN ne_s0_ub nin0)
  have E_b0 := E_b0.keep K449
  have A_b0 := A_b0.keep K449 (ninN ne_b0_ub nin0)
  have O_s := O_s.keep K449 (ninN (NE.symm ne_ub_b411) nin0)
  have E_b421 := E_b421.keep K449
  have A_b421 := A_b421.keep K449 (ninN (NE.symm ne_ub_b421) nin0)
  have A_e1 := A_e1.keep K449 (ninN (NE.symm ne_ub_e1) nin0)
  have hz450 : Lo n0 h448.size := Lo.keep hz440 K449
  have KK451 := KK441.trans K449 (allS (Or.inl (List.mem_of_getElem? (i := 3) rfl)) all0)
  refine g_iloadN X447 C d7_285 rfl rfl ?_
  rw [hRS]
  refine g_retI X447 C d7_286 ?_ (by decide) (by decide)
  exact ⟨rfl, KK451, b411, b421, e1, sz_b411, sz_b421, sz_e1, ne_b411_b421, ne_b411_e1, ne_b421_e1, O_a1, A_tm, A_sr, A_ub, O_s, A_b421, E_b421, A_e1⟩
theorem ef_rmNd1 (m : MethodId) (a1 : Addr) (p2 : Int32) (p3 : Int32) : entryFrame m #[(.ref a1), (.int p2), (.int p3)] 4 = mkF m 0 #[.val (.ref a1), .val (.int p2), .val (.int p3), .unset] [] := by first | (simp [entryFrame, mkF, argsToLocals, Value.category]; done) | rfl
set_option maxRecDepth 65536 in
set_option maxHeartbeats 40000000 in
theorem rmNd1 (l : Launch) (Z : State) (a0 : Array Value) (hw : ∀ d ∈ tables_1, d.before a0 Z = true) (a1 : Addr) (p2 p3 : Int32) (tm sr ub fd c5 c6 c7 c8 : Addr) (nn wv : Int32) (lw : Int64) (bl : Int32) (wn : Nat) (fn : Nat → Value) (gu : Nat → Int32) (si bi ei : Addr) (ge : Nat → Int64) (h0 : Heap) (n0 : Nat) (hz0 : Lo n0 h0.size) (hp2 : p2.toInt = (1 : Nat)) (hp3 : p3.toInt = 0) (hwn : own_W wn wv) (hne : ∃ k, k < wn ∧ ge k ≠ 0) (hfi : fn 1 = .ref si) (O_a1 : Ob Z h0 a1 "org/foreslot/planning/ClusterTimeline" NS_CT [(.ref tm), (.ref sr), (.ref ub), (.long (-9223372036854775808 : Int64)), (.long (1 : Int64)), (.long (9223372036854775807 : Int64)), (.long (-9223372036854775808 : Int64)), (.int nn), (.int wv), (.long lw), (.ref fd), (.ref c5), (.ref c6), (.ref c7), (.ref c8), (.int (2 : Int32)), (.int bl)]) (A_sr : ArR Z h0 sr "org/foreslot/planning/ClusterTimeline$Stretch" 16 fn) (A_ub : Ar Z h0 ub .int 16 (fun k => .int (gu k))) (O_si : Ob Z h0 si "org/foreslot/planning/ClusterTimeline$Stretch" NS_SR [(.ref bi), (.ref ei), .null, .null, .null]) (A_ei : Ar Z h0 ei .long wn (fun j_ => .long (ge j_))) (ws : List Jvm.Cond) :
    Ctr l (⟨"org/foreslot/planning/ClusterTimeline", "isNeedless", "(II)Z"⟩ : MethodName) prog_29_method_37_code 4 (some .boolean) ({ frames := 1, cells := 0, slots := 0, locals := 20 } : Room) Z n0 #[(.ref a1), (.int p2), (.int p3)] h0 (fun v h => v = some (.int 0) ∧ h = h0) ws := by
  refine ctr_of (plainFor_of_name pn_1) ?_
  intro p e s m below meth c T0 X0 C
  refine go_cast (ef_rmNd1 m a1 p2 p3) ?_
  obtain ⟨RS, hRS⟩ : ∃ RS, RS = Rs s below n0 (fun v h => v = some (.int 0) ∧ h = h0) ({ frames := 1, cells := 0, slots := 0, locals := 20 } : Room).cells ({ frames := 1, cells := 0, slots := 0, locals := 20 } : Room).slots := ⟨_, rfl⟩
  suffices HG : Go p e below RS T0 (mkF m 0 #[.val (.ref a1), .val (.int p2), .val (.int p3), .unset] []) by rw [hRS] at HG; exact HG
  show Go p e below RS T0 (mkF m 0 #[.val (.ref a1), .val (.int p2), .val (.int p3), .unset] [])
  refine g_aloadN X0 C d12_0 rfl rfl rfl ?_
  refine g_getO (i := 1) X0 C O_a1 rfl rfl (host := "") (Or.inl (hw _ (List.mem_of_getElem? (i := 14) rfl))) d12_1 rfl (fun T452 X453 => ?_)
  refine g_iloadN X453 C d12_4 rfl rfl ?_
  refine g_aaload (i := 1) (v := (.ref si)) X453 C A_sr hp2 (by decide) hfi d12_5 rfl ?_
  refine g_astoreN (L' := #[.val (.ref a1), .val (.int p2), .val (.int p3), .val (.ref si)]) X453 C d12_6 rfl rfl rfl ?_
  refine g_aloadN X453 C d12_7 rfl rfl rfl ?_
  refine g_getO (i := 3) X453 C O_si rfl rfl (host := "") (Or.inl (hw _ (List.mem_of_getElem? (i := 117) rfl))) d12_8 rfl (fun T454 X455 => ?_)
  refine g_nonnullN (pF := 14) X455 C d12_11 rfl ?_
  refine g_aloadN X455 C d12_14 rfl rfl rfl ?_
  refine g_getO (i := 4) X455 C O_si rfl rfl (host := "") (Or.inl (hw _ (List.mem_of_getElem? (i := 119) rfl))) d12_15 rfl (fun T456 X457 => ?_)
  refine g_nonnullN (pF := 21) X457 C d12_18 rfl ?_
  refine g_aloadN X457 C d12_21 rfl rfl rfl ?_
  refine g_aloadN X457 C d12_22 rfl rfl rfl ?_
  refine g_getO (i := 1) X457 C O_si rfl rfl (host := "") (Or.inl (hw _ (List.mem_of_getElem? (i := 108) rfl))) d12_23 rfl (fun T458 X459 => ?_)
  refine g_private (argsL := [(.ref ei)]) (rest := []) (W := 0) (a := a1) X459 C (rmAny l Z a0 hw a1 ei tm sr ub fd c5 c6 c7 c8 nn wv lw bl (2 : Int32) wn ge h0 n0 hz0 hwn O_a1 A_ei []) O_a1.1 (hw _ (List.mem_of_getElem? (i := 121) rfl)) (hw _ (List.mem_of_getElem? (i := 122) rfl)) (hw _ (List.mem_of_getElem? (i := 123) rfl)) (hw _ (List.mem_of_getElem? (i := 1) rfl)) (hw _ (List.mem_of_getElem? (i := 2) rfl)) (hw _ (List.mem_of_getElem? (i := 124) rfl)) (by decide) pd_2 rfl rfl rfl rfl rfl (by decide) (by decide) (by decide) (by decide) d12_26 rfl (fun r463 T460 h462 hQ464 X461 => ?_)
  obtain ⟨ra, rfl, hh, hra⟩ := hQ464; rw [hh] at X461
  obtain rfl : ra = 1 := by
    rcases hra with ⟨_, q⟩ | ⟨q, _⟩
    · obtain ⟨k, hk, q'⟩ := hne; exact absurd (q k hk) q'
    · exact q
  show Go p e below RS T460 (mkF m 29 #[.val (.ref a1), .val (.int p2), .val (.int p3), .val (.ref si)] [(.int (1 : Int32))])
  refine g_if_eq (a := 1) X461 C d12_29 (by decide) (by decide) (pT := 34) (by decide) (pF := 32) rfl (fun hc29 => absurd hc29 (by omega)) (fun hc29 => ?_)
  refine g_iconst (v := 0) X461 C d12_32 (by decide) rfl ?_
  rw [hRS]
  refine g_retZ X461 C d12_33 ?_ (by decide) (by decide)
  exact ⟨rfl, rfl⟩
theorem ef_rmDr1 (m : MethodId) (a1 : Addr) (p2 : Int32) : entryFrame m #[(.ref a1), (.int p2)] 2 = mkF m 0 #[.val (.ref a1), .val (.int p2)] [] := by first | (simp [entryFrame, mkF, argsToLocals, Value.category]; done) | rfl
set_option maxRecDepth 65536 in
set_option maxHeartbeats 40000000 in
theorem rmDr1 (l : Launch) (Z : State) (a0 : Array Value) (hw : ∀ d ∈ tables_1, d.before a0 Z = true) (a1 : Addr) (p2 : Int32) (tm sr ub fd c5 c6 c7 c8 : Addr) (nn wv : Int32) (lw : Int64) (bl : Int32) (wn : Nat) (fn : Nat → Value) (gu : Nat → Int32) (si bi ei : Addr) (ge : Nat → Int64) (h0 : Heap) (n0 : Nat) (hz0 : Lo n0 h0.size) (hp2 : p2.toInt = (1 : Nat)) (hwn : own_W wn wv) (hne : ∃ k, k < wn ∧ ge k ≠ 0) (hfi : fn 1 = .ref si) (O_a1 : Ob Z h0 a1 "org/foreslot/planning/ClusterTimeline" NS_CT [(.ref tm), (.ref sr), (.ref ub), (.long (-9223372036854775808 : Int64)), (.long (1 : Int64)), (.long (9223372036854775807 : Int64)), (.long (-9223372036854775808 : Int64)), (.int nn), (.int wv), (.long lw), (.ref fd), (.ref c5), (.ref c6), (.ref c7), (.ref c8), (.int (2 : Int32)), (.int bl)]) (A_sr : ArR Z h0 sr "org/foreslot/planning/ClusterTimeline$Stretch" 16 fn) (A_ub : Ar Z h0 ub .int 16 (fun k => .int (gu k))) (O_si : Ob Z h0 si "org/foreslot/planning/ClusterTimeline$Stretch" NS_SR [(.ref bi), (.ref ei), .null, .null, .null]) (A_ei : Ar Z h0 ei .long wn (fun j_ => .long (ge j_))) (ws : List Jvm.Cond) :
    Ctr l (⟨"org/foreslot/planning/ClusterTimeline", "dropIfNeedless", "(I)V"⟩ : MethodName) prog_29_method_36_code 2 none ({ frames := 2, cells := 0, slots := 0, locals := 44 } : Room) Z n0 #[(.ref a1), (.int p2)] h0 (fun v h => v = none ∧ h = h0) ws := by
  refine ctr_of (plainFor_of_name pn_1) ?_
  intro p e s m below meth c T0 X0 C
  refine go_cast (ef_rmDr1 m a1 p2) ?_
  obtain ⟨RS, hRS⟩ : ∃ RS, RS = Rs s below n0 (fun v h => v = none ∧ h = h0) ({ frames := 2, cells := 0, slots := 0, locals := 44 } : Room).cells ({ frames := 2, cells := 0, slots := 0, locals := 44 } : Room).slots := ⟨_, rfl⟩
  suffices HG : Go p e below RS T0 (mkF m 0 #[.val (.ref a1), .val (.int p2)] []) by rw [hRS] at HG; exact HG
  show Go p e below RS T0 (mkF m 0 #[.val (.ref a1), .val (.int p2)] [])
  refine g_iloadN X0 C d11_0 rfl rfl ?_
  refine g_aloadN X0 C d11_1 rfl rfl rfl ?_
  refine g_getO (i := 15) X0 C O_a1 rfl rfl (host := "") (Or.inl (hw _ (List.mem_of_getElem? (i := 74) rfl))) d11_2 rfl (fun T465 X466 => ?_)
  refine g_icmp_ge (a := p2.toInt) (b := 2) X466 C d11_5 rfl (by decide) (by decide) (pT := 27) (by decide) (pF := 8) rfl (fun hc5 => absurd hc5 (by omega)) (fun hc5 => ?_)
  refine g_aloadN X466 C d11_8 rfl rfl rfl ?_
  refine g_iloadN X466 C d11_9 rfl rfl ?_
  refine g_iloadN X466 C d11_10 rfl rfl ?_
  refine g_iconst (v := 1) X466 C d11_11 (by decide) rfl ?_
  refine g_isub X466 C d11_12 rfl ?_
  have hp3 : (p2 - 1).toInt = 0 := by
    have g1 := c_isub p2 1; have g2 := rng32 (p2 - 1); have g3 : (1 : Int32).toInt = 1 := by decide
    omega
  refine g_private (argsL := [(.int p2), (.int (p2 - (1 : Int32)))]) (rest := []) (W := 0) (a := a1) X466 C (rmNd1 l Z a0 hw a1 p2 (p2 - (1 : Int32)) tm sr ub fd c5 c6 c7 c8 nn wv lw bl wn fn gu si bi ei ge h0 n0 hz0 hp2 hp3 hwn hne  hfi O_a1 A_sr A_ub O_si A_ei []) O_a1.1 (hw _ (List.mem_of_getElem? (i := 113) rfl)) (hw _ (List.mem_of_getElem? (i := 114) rfl)) (hw _ (List.mem_of_getElem? (i := 115) rfl)) (hw _ (List.mem_of_getElem? (i := 1) rfl)) (hw _ (List.mem_of_getElem? (i := 2) rfl)) (hw _ (List.mem_of_getElem? (i := 116) rfl)) (by decide) pd_3 rfl rfl rfl rfl rfl (by decide) (by decide) (by decide) (by decide) d11_13 rfl (fun r470 T467 h469 hQ471 X468 => ?_)
  obtain ⟨rfl, hh⟩ := hQ471; rw [hh] at X468
  show Go p e below RS T467 (mkF m 16 #[.val (.ref a1), .val (.int p2)] [(.int (0 : Int32))])
  refine g_if_eq (a := 0) X468 C d11_16 (by decide) (by decide) (pT := 27) (by decide) (pF := 19) rfl (fun hc16 => ?_) (fun hc16 => absurd hc16 (by omega))
  rw [hRS]
  refine g_retV X468 C d11_27 ?_ (by decide) (by decide)
  exact ⟨rfl, rfl⟩
theorem ef_rmNd0 (m : MethodId) (a1 : Addr) (p2 : Int32) (p3 : Int32) : entryFrame m #[(.ref a1), (.int p2), (.int p3)] 4 = mkF m 0 #[.val (.ref a1), .val (.int p2), .val (.int p3), .unset] [] := by first | (simp [entryFrame, mkF, argsToLocals, Value.category]; done) | rfl
set_option maxRecDepth 65536 in
set_option maxHeartbeats 40000000 in
theorem rmNd0 (l : Launch) (Z : State) (a0 : Array Value) (hw : ∀ d ∈ tables_1, d.before a0 Z = true) (a1 : Addr) (p2 p3 : Int32) (tm sr ub fd c5 c6 c7 c8 : Addr) (nn wv : Int32) (lw : Int64) (bl : Int32) (wn : Nat) (fn : Nat → Value) (gu : Nat → Int32) (si bi ei : Addr) (ge : Nat → Int64) (h0 : Heap) (n0 : Nat) (hz0 : Lo n0 h0.size) (hp2 : p2.toInt = (0 : Nat)) (hp3 : p3.toInt = -1) (hwn : own_W wn wv) (hne : ∀ k, k < wn → ge k = 0) (hub : (gu 0).toInt ≠ nn.toInt) (hfi : fn 0 = .ref si) (O_a1 : Ob Z h0 a1 "org/foreslot/planning/ClusterTimeline" NS_CT [(.ref tm), (.ref sr), (.ref ub), (.long (-9223372036854775808 : Int64)), (.long (1 : Int64)), (.long (9223372036854775807 : Int64)), (.long (-9223372036854775808 : Int64)), (.int nn), (.int wv), (.long lw), (.ref fd), (.ref c5), (.ref c6), (.ref c7), (.ref c8), (.int (2 : Int32)), (.int bl)]) (A_sr : ArR Z h0 sr "org/foreslot/planning/ClusterTimeline$Stretch" 16 fn) (A_ub : Ar Z h0 ub .int 16 (fun k => .int (gu k))) (O_si : Ob Z h0 si "org/foreslot/planning/ClusterTimeline$Stretch" NS_SR [(.ref bi), (.ref ei), .null, .null, .null]) (A_ei : Ar Z h0 ei .long wn (fun j_ => .long (ge j_))) (ws : List Jvm.Cond) :
    Ctr l (⟨"org/foreslot/planning/ClusterTimeline", "isNeedless", "(II)Z"⟩ : MethodName) prog_29_method_37_code 4 (some .boolean) ({ frames := 1, cells := 0, slots := 0, locals := 20 } : Room) Z n0 #[(.ref a1), (.int p2), (.int p3)] h0 (fun v h => v = some (.int 0) ∧ h = h0) ws := by
  refine ctr_of (plainFor_of_name pn_1) ?_
  intro p e s m below meth c T0 X0 C
  refine go_cast (ef_rmNd0 m a1 p2 p3) ?_
  obtain ⟨RS, hRS⟩ : ∃ RS, RS = Rs s below n0 (fun v h => v = some (.int 0) ∧ h = h0) ({ frames := 1, cells := 0, slots := 0, locals := 20 } : Room).cells ({ frames := 1, cells := 0, slots := 0, locals := 20 } : Room).slots := ⟨_, rfl⟩
  suffices HG : Go p e below RS T0 (mkF m 0 #[.val (.ref a1), .val (.int p2), .val (.int p3), .unset] []) by rw [hRS] at HG; exact HG
  show Go p e below RS T0 (mkF m 0 #[.val (.ref a1), .val (.int p2), .val (.int p3), .unset] [])
  refine g_aloadN X0 C d12_0 rfl rfl rfl ?_
  refine g_getO (i := 1) X0 C O_a1 rfl rfl (host := "") (Or.inl (hw _ (List.mem_of_getElem? (i := 14) rfl))) d12_1 rfl (fun T472 X473 => ?_)
  refine g_iloadN X473 C d12_4 rfl rfl ?_
  refine g_aaload (i := 0) (v := (.ref si)) X473 C A_sr hp2 (by decide) hfi d12_5 rfl ?_
  refine g_astoreN (L' := #[.val (.ref a1), .val (.int p2), .val (.int p3), .val (.ref si)]) X473 C d12_6 rfl rfl rfl ?_
  refine g_aloadN X473 C d12_7 rfl rfl rfl ?_
  refine g_getO (i := 3) X473 C O_si rfl rfl (host := "") (Or.inl (hw _ (List.mem_of_getElem? (i := 117) rfl))) d12_8 rfl (fun T474 X475 => ?_)
  refine g_nonnullN (pF := 14) X475 C d12_11 rfl ?_
  refine g_aloadN X475 C d12_14 rfl rfl rfl ?_
  refine g_getO (i := 4) X475 C O_si rfl rfl (host := "") (Or.inl (hw _ (List.mem_of_getElem? (i := 119) rfl))) d12_15 rfl (fun T476 X477 => ?_)
  refine g_nonnullN (pF := 21) X477 C d12_18 rfl ?_
  refine g_aloadN X477 C d12_21 rfl rfl rfl ?_
  refine g_aloadN X477 C d12_22 rfl rfl rfl ?_
  refine g_getO (i := 1) X477 C O_si rfl rfl (host := "") (Or.inl (hw _ (List.mem_of_getElem? (i := 108) rfl))) d12_23 rfl (fun T478 X479 => ?_)
  refine g_private (argsL := [(.ref ei)]) (rest := []) (W := 0) (a := a1) X479 C (rmAny l Z a0 hw a1 ei tm sr ub fd c5 c6 c7 c8 nn wv lw bl (2 : Int32) wn ge h0 n0 hz0 hwn O_a1 A_ei []) O_a1.1 (hw _ (List.mem_of_getElem? (i := 121) rfl)) (hw _ (List.mem_of_getElem? (i := 122) rfl)) (hw _ (List.mem_of_getElem? (i := 123) rfl)) (hw _ (List.mem_of_getElem? (i := 1) rfl)) (hw _ (List.mem_of_getElem? (i := 2) rfl)) (hw _ (List.mem_of_getElem? (i := 124) rfl)) (by decide) pd_2 rfl rfl rfl rfl rfl (by decide) (by decide) (by decide) (by decide) d12_26 rfl (fun r483 T480 h482 hQ484 X481 => ?_)
  obtain ⟨ra, rfl, hh, hra⟩ := hQ484; rw [hh] at X481
  obtain rfl : ra = 0 := by
    rcases hra with ⟨q, _⟩ | ⟨_, k, hk, q⟩
    · exact q
    · exact absurd (hne k hk) q
  show Go p e below RS T480 (mkF m 29 #[.val (.ref a1), .val (.int p2), .val (.int p3), .val (.ref si)] [(.int (0 : Int32))])
  refine g_if_eq (a := 0) X481 C d12_29 (by decide) (by decide) (pT := 34) (by decide) (pF := 32) rfl (fun hc29 => ?_) (fun hc29 => absurd hc29 (by omega))
  refine g_iloadN X481 C d12_34 rfl rfl ?_
  refine g_if_ge (a := p3.toInt) X481 C d12_35 rfl (by decide) (pT := 66) (by decide) (pF := 38) rfl (fun hc35 => absurd hc35 (by omega)) (fun hc35 => ?_)
  refine g_aloadN X481 C d12_38 rfl rfl rfl ?_
  refine g_getO (i := 2) X481 C O_a1 rfl rfl (host := "") (Or.inl (hw _ (List.mem_of_getElem? (i := 17) rfl))) d12_39 rfl (fun T485 X486 => ?_)
  refine g_iloadN X486 C d12_42 rfl rfl ?_
  refine g_iaload (i := 0) (v := (.int (gu 0))) X486 C A_ub hp2 (by decide) rfl d12_43 rfl ?_
  refine g_aloadN X486 C d12_44 rfl rfl rfl ?_
  refine g_getO (i := 7) X486 C O_a1 rfl rfl (host := "") (Or.inl (hw _ (List.mem_of_getElem? (i := 29) rfl))) d12_45 rfl (fun T487 X488 => ?_)
  refine g_icmp_ne (a := (gu 0).toInt) (b := nn.toInt) X488 C d12_48 rfl rfl (by decide) (pT := 62) (by decide) (pF := 51) rfl (fun hc48 => ?_) (fun hc48 => absurd hc48 (by omega))
  refine g_iconst (v := 0) X488 C d12_62 (by decide) rfl ?_
  refine g_goto (pc' := 124) X488 C d12_63 (by decide) (by decide) ?_
  rw [hRS]
  refine g_retZ X488 C d12_124 ?_ (by decide) (by decide)
  exact ⟨rfl, rfl⟩
theorem ef_rmDr0 (m : MethodId) (a1 : Addr) (p2 : Int32) : entryFrame m #[(.ref a1), (.int p2)] 2 = mkF m 0 #[.val (.ref a1), .val (.int p2)] [] := by first | (simp [entryFrame, mkF, argsToLocals, Value.category]; done) | rfl
set_option maxRecDepth 65536 in
set_option maxHeartbeats 40000000 in
theorem rmDr0 (l : Launch) (Z : State) (a0 : Array Value) (hw : ∀ d ∈ tables_1, d.before a0 Z = true) (a1 : Addr) (p2 : Int32) (tm sr ub fd c5 c6 c7 c8 : Addr) (nn wv : Int32) (lw : Int64) (bl : Int32) (wn : Nat) (fn : Nat → Value) (gu : Nat → Int32) (si bi ei : Addr) (ge : Nat → Int64) (h0 : Heap) (n0 : Nat) (hz0 : Lo n0 h0.size) (hp2 : p2.toInt = (0 : Nat)) (hwn : own_W wn wv) (hne : ∀ k, k < wn → ge k = 0) (hub : (gu 0).toInt ≠ nn.toInt) (hfi : fn 0 = .ref si) (O_a1 : Ob Z h0 a1 "org/foreslot/planning/ClusterTimeline" NS_CT [(.ref tm), (.ref sr), (.ref ub), (.long (-9223372036854775808 : Int64)), (.long (1 : Int64)), (.long (9223372036854775807 : Int64)), (.long (-9223372036854775808 : Int64)), (.int nn), (.int wv), (.long lw), (.ref fd), (.ref c5), (.ref c6), (.ref c7), (.ref c8), (.int (2 : Int32)), (.int bl)]) (A_sr : ArR Z h0 sr "org/foreslot/planning/ClusterTimeline$Stretch" 16 fn) (A_ub : Ar Z h0 ub .int 16 (fun k => .int (gu k))) (O_si : Ob Z h0 si "org/foreslot/planning/ClusterTimeline$Stretch" NS_SR [(.ref bi), (.ref ei), .null, .null, .null]) (A_ei : Ar Z h0 ei .long wn (fun j_ => .long (ge j_))) (ws : List Jvm.Cond) :
    Ctr l (⟨"org/foreslot/planning/ClusterTimeline", "dropIfNeedless", "(I)V"⟩ : MethodName) prog_29_method_36_code 2 none ({ frames := 2, cells := 0, slots := 0, locals := 44 } : Room) Z n0 #[(.ref a1), (.int p2)] h0 (fun v h => v = none ∧ h = h0) ws := by
  refine ctr_of (plainFor_of_name pn_1) ?_
  intro p e s m below meth c T0 X0 C
  refine go_cast (ef_rmDr0 m a1 p2) ?_
  obtain ⟨RS, hRS⟩ : ∃ RS, RS = Rs s below n0 (fun v h => v = none ∧ h = h0) ({ frames := 2, cells := 0, slots := 0, locals := 44 } : Room).cells ({ frames := 2, cells := 0, slots := 0, locals := 44 } : Room).slots := ⟨_, rfl⟩
  suffices HG : Go p e below RS T0 (mkF m 0 #[.val (.ref a1), .val (.int p2)] []) by rw [hRS] at HG; exact HG
  show Go p e below RS T0 (mkF m 0 #[.val (.ref a1), .val (.int p2)] [])
  refine g_iloadN X0 C d11_0 rfl rfl ?_
  refine g_aloadN X0 C d11_1 rfl rfl rfl ?_
  refine g_getO (i := 15) X0 C O_a1 rfl rfl (host := "") (Or.inl (hw _ (List.mem_of_getElem? (i := 74) rfl))) d11_2 rfl (fun T489 X490 => ?_)
  refine g_icmp_ge (a := p2.toInt) (b := 2) X490 C d11_5 rfl (by decide) (by decide) (pT := 27) (by decide) (pF := 8) rfl (fun hc5 => absurd hc5 (by omega)) (fun hc5 => ?_)
  refine g_aloadN X490 C d11_8 rfl rfl rfl ?_
  refine g_iloadN X490 C d11_9 rfl rfl ?_
  refine g_iloadN X490 C d11_10 rfl rfl ?_
  refine g_iconst (v := 1) X490 C d11_11 (by decide) rfl ?_
  refine g_isub X490 C d11_12 rfl ?_
  have hp3 : (p2 - 1).toInt = -1 := by
    have g1 := c_isub p2 1; have g2 := rng32 (p2 - 1); have g3 : (1 : Int32).toInt = 1 := by decide
    omega
  refine g_private (argsL := [(.int p2), (.int (p2 - (1 : Int32)))]) (rest := []) (W := 0) (a := a1) X490 C (rmNd0 l Z a0 hw a1 p2 (p2 - (1 : Int32)) tm sr ub fd c5 c6 c7 c8 nn wv lw bl wn fn gu si bi ei ge h0 n0 hz0 hp2 hp3 hwn hne hub hfi O_a1 A_sr A_ub O_si A_ei []) O_a1.1 (hw _ (List.mem_of_getElem? (i := 113) rfl)) (hw _ (List.mem_of_getElem? (i := 114) rfl)) (hw _ (List.mem_of_getElem? (i := 115) rfl)) (hw _ (List.mem_of_getElem? (i := 1) rfl)) (hw _ (List.mem_of_getElem? (i := 2) rfl)) (hw _ (List.mem_of_getElem? (i := 116) rfl)) (by decide) pd_3 rfl rfl rfl rfl rfl (by decide) (by decide) (by decide) (by decide) d11_13 rfl (fun r494 T491 h493 hQ495 X492 => ?_)
  obtain ⟨rfl, hh⟩ := hQ495; rw [hh] at X492
  show Go p e below RS T491 (mkF m 16 #[.val (.ref a1), .val (.int p2)] [(.int (0 : Int32))])
  refine g_if_eq (a := 0) X492 C d11_16 (by decide) (by decide) (pT := 27) (by decide) (pF := 19) rfl (fun hc16 => ?_) (fun hc16 => absurd hc16 (by omega))
  rw [hRS]
  refine g_retV X492 C d11_27 ?_ (by decide) (by decide)
  exact ⟨rfl, rfl⟩
theorem ef_rmCh (m : MethodId) (a1 : Addr) (p2 : Int64) (p3 : Int64) (a4 : Addr) (a5 : Addr) (p6 : Int32) (p7 : Int32) : entryFrame m #[(.ref a1), (.long p2), (.long p3), (.ref a4), (.ref a5), (.int p6), (.int p7)] 13 = mkF m 0 #[.val (.ref a1), .val (.long p2), .second, .val (.long p3), .second, .val (.ref a4), .val (.ref a5), .val (.int p6), .val (.int p7), .unset, .unset, .unset, .unset] [] := by first | (simp [entryFrame, mkF, argsToLocals, Value.category]; done) | rfl
set_option maxRecDepth 65536 in
set_option maxHeartbeats 40000000 in
theorem rmCh (l : Launch) (Z : State) (a0 : Array Value) (hw : ∀ d ∈ tables_1, d.before a0 Z = true) (a1 : Addr) (p2 p3 : Int64) (a4 a5 : Addr) (p6 p7 : Int32) (tm sr ub fd c5 c6 c7 c8 : Addr) (nn wv : Int32) (lw : Int64) (bl : Int32) (wn k : Nat) (lk : Int32) (nd : Nat → Int32) (gm : Nat → Int64) (h0 : Heap) (n0 : Nat) (hz0 : Lo n0 h0.size) (hwn : own_W wn wv) (hk : (k = 1 ∧ lk = 1) ∨ (k = 2 ∧ lk = 2)) (hnn : 1 ≤ nn.toInt ∧ nn.toInt ≤ 128) (hp2 : p2.toInt = 0) (hp3 : p3.toInt = 10) (ga_a1 : Lo n0 a1) (ga_tm : Lo n0 tm) (ga_sr : Lo n0 sr) (ga_ub : Lo n0 ub) (ne_a1_tm : NE a1 tm) (ne_a1_sr : NE a1 sr) (ne_a1_ub : NE a1 ub) (ne_tm_sr : NE tm sr) (ne_tm_ub : NE tm ub) (ne_sr_ub : NE sr ub) (O_a1 : Ob Z h0 a1 "org/foreslot/planning/ClusterTimeline" NS_CT [(.ref tm), (.ref sr), (.ref ub), (.long (-9223372036854775808 : Int64)), (.long (1 : Int64)), (.long (9223372036854775807 : Int64)), (.long (-9223372036854775808 : Int64)), (.int nn), (.int wv), (.long lw), (.ref fd), (.ref c5), (.ref c6), (.ref c7), (.ref c8), (.int (0 : Int32)), (.int bl)]) (A_tm : Ar Z h0 tm .long 16 (fun _ => .long 0)) (A_sr : ArR Z h0 sr "org/foreslot/planning/ClusterTimeline$Stretch" 16 (fun _ => .null)) (A_ub : Ar Z h0 ub .int 16 (fun _ => .int 0)) (hp6 : p6.toInt = 1) (hp7 : p7.toInt = 1) (hgm : ∃ k, k < wn ∧ gm k ≠ 0) (ne_a4_a1 : NE a4 a1) (ne_a5_a1 : NE a5 a1) (ne_a4_tm : NE a4 tm) (ne_a5_tm : NE a5 tm) (ne_a4_sr : NE a4 sr) (ne_a5_sr : NE a5 sr) (ne_a4_ub : NE a4 ub) (ne_a5_ub : NE a5 ub) (A_a4 : Ar Z h0 a4 .int k (fun i => .int (nd i))) (A_a5 : Ar Z h0 a5 .long wn (fun j_ => .long (gm j_))) (ws : List Jvm.Cond) :
    Ctr l (⟨"org/foreslot/planning/ClusterTimeline", "change", "(JJ[I[JZZ)V"⟩ : MethodName) prog_29_method_32_code 13 none ({ frames := 3, cells := 6, slots := 20, locals := 90 } : Room) Z n0 #[(.ref a1), (.long p2), (.long p3), (.ref a4), (.ref a5), (.int p6), (.int p7)] h0 (fun v h => v = none ∧ Keep h0 h [a1, tm, sr, ub] ∧ ∃ (s0 b0 e0 s1 b1 e1 : Addr) (u0 : Int32), u0.toInt = nn.toInt - k ∧ Lo h0.size s0 ∧ Lo h0.size b0 ∧ Lo h0.size e0 ∧ Lo h0.size s1 ∧ Lo h0.size b1 ∧ Lo h0.size e1 ∧ Ob Z h a1 "org/foreslot/planning/ClusterTimeline" NS_CT [(.ref tm), (.ref sr), (.ref ub), (.long (-9223372036854775808 : Int64)), (.long (1 : Int64)), (.long (9223372036854775807 : Int64)), (.long (-9223372036854775808 : Int64)), (.int nn), (.int wv), (.long lw), (.ref fd), (.ref c5), (.ref c6), (.ref c7), (.ref c8), (.int (2 : Int32)), (.int bl)] ∧ Ar Z h tm .long 16 (fun k => .long (if k = 1 then p3 else if k = 0 then p2 else 0)) ∧ ArR Z h sr "org/foreslot/planning/ClusterTimeline$Stretch" 16 (fun k => if k = 1 then .ref s1 else if k = 0 then .ref s0 else .null) ∧ Ar Z h ub .int 16 (fun k => .int (if k = 0 then u0 else if k = 1 then nn else 0)) ∧ Ob Z h s0 "org/foreslot/planning/ClusterTimeline$Stretch" NS_SR [(.ref b0), (.ref e0), .null, .null, .null] ∧ Ob Z h s1 "org/foreslot/planning/ClusterTimeline$Stretch" NS_SR [(.ref b1), (.ref e1), .null, .null, .null] ∧ Ar Z h b0 .long wn (fun j_ => .long (gm j_)) ∧ Ar Z h e0 .long wn (fun j_ => .long ((fun _ => 0) j_)) ∧ Ar Z h b1 .long wn (fun j_ => .long ((fun _ => 0) j_)) ∧ Ar Z h e1 .long wn (fun j_ => .long (gm j_))) ws := by
  refine ctr_of (plainFor_of_name pn_1) ?_
  intro p e s m below meth c T0 X0 C
  refine go_cast (ef_rmCh m a1 p2 p3 a4 a5 p6 p7) ?_
  obtain ⟨RS, hRS⟩ : ∃ RS, RS = Rs s below n0 (fun v h => v = none ∧ Keep h0 h [a1, tm, sr, ub] ∧ ∃ (s0 b0 e0 s1 b1 e1 : Addr) (u0 : Int32), u0.toInt = nn.toInt - k ∧ Lo h0.size s0 ∧ Lo h0.size b0 ∧ Lo h0.size e0 ∧ Lo h0.size s1 ∧ Lo h0.size b1 ∧ Lo h0.size e1 ∧ Ob Z h a1 "org/foreslot/planning/ClusterTimeline" NS_CT [(.ref tm), (.ref sr), (.ref ub), (.long (-9223372036854775808 : Int64)), (.long (1 : Int64)), (.long (9223372036854775807 : Int64)), (.long (-9223372036854775808 : Int64)), (.int nn), (.int wv), (.long lw), (.ref fd), (.ref c5), (.ref c6), (.ref c7), (.ref c8), (.int (2 : Int32)), (.int bl)] ∧ Ar Z h tm .long 16 (fun k => .long (if k = 1 then p3 else if k = 0 then p2 else 0)) ∧ ArR Z h sr "org/foreslot/planning/ClusterTimeline$Stretch" 16 (fun k => if k = 1 then .ref s1 else if k = 0 then .ref s0 else .null) ∧ Ar Z h ub .int 16 (fun k => .int (if k = 0 then u0 else if k = 1 then nn else 0)) ∧ Ob Z h s0 "org/foreslot/planning/ClusterTimeline$Stretch" NS_SR [(.ref b0), (.ref e0), .null, .null, .null] ∧ Ob Z h s1 "org/foreslot/planning/ClusterTimeline$Stretch" NS_SR [(.ref b1), (.ref e1), .null, .null, .null] ∧ Ar Z h b0 .long wn (fun j_ => .long (gm j_)) ∧ Ar Z h e0 .long wn (fun j_ => .long ((fun _ => 0) j_)) ∧ Ar Z h b1 .long wn (fun j_ => .long ((fun _ => 0) j_)) ∧ Ar Z h e1 .long wn (fun j_ => .long (gm j_))) ({ frames := 3, cells := 6, slots := 20, locals := 90 } : Room).cells ({ frames := 3, cells := 6, slots := 20, locals := 90 } : Room).slots := ⟨_, rfl⟩
  suffices HG : Go p e below RS T0 (mkF m 0 #[.val (.ref a1), .val (.long p2), .second, .val (.long p3), .second, .val (.ref a4), .val (.ref a5), .val (.int p6), .val (.int p7), .unset, .unset, .unset, .unset] []) by rw [hRS] at HG; exact HG
  show Go p e below RS T0 (mkF m 0 #[.val (.ref a1), .val (.long p2), .second, .val (.long p3), .second, .val (.ref a4), .val (.ref a5), .val (.int p6), .val (.int p7), .unset, .unset, .unset, .unset] [])
  refine g_iload X0 C d5_0 rfl rfl ?_
  refine g_if_ne (a := p6.toInt) X0 C d5_2 rfl (by decide) (pT := 15) (by decide) (pF := 5) rfl (fun hc2 => ?_) (fun hc2 => absurd hc2 (by omega))
  refine g_lloadN X0 C d5_15 rfl rfl ?_
  refine g_lloadN X0 C d5_16 rfl rfl ?_
  refine g_lcmp X0 C d5_17 rfl ?_
  refine g_lif_ne (a := p2.toInt) (b := p3.toInt) X0 C d5_18 rfl rfl (by decide) (pT := 44) (by decide) (pF := 21) rfl (fun hc18 => ?_) (fun hc18 => absurd hc18 (by omega))
  refine g_lloadN X0 C d5_44 rfl rfl ?_
  refine g_aloadN X0 C d5_45 rfl rfl rfl ?_
  refine g_getO (i := 3) X0 C O_a1 rfl rfl (host := "") (Or.inl (hw _ (List.mem_of_getElem? (i := 20) rfl))) d5_46 rfl (fun T496 X497 => ?_)
  refine g_lcmp X497 C d5_49 rfl ?_
  refine g_lif_le (a := p3.toInt) (b := (-9223372036854775808)) X497 C d5_50 rfl (by decide) (by decide) (pT := 173) (by decide) (pF := 53) rfl (fun hc50 => absurd hc50 (by omega)) (fun hc50 => ?_)
  refine g_aloadN X497 C d5_53 rfl rfl rfl ?_
  refine g_lloadN X497 C d5_54 rfl rfl ?_
  refine g_aloadN X497 C d5_55 rfl rfl rfl ?_
  refine g_getO (i := 3) X497 C O_a1 rfl rfl (host := "") (Or.inl (hw _ (List.mem_of_getElem? (i := 20) rfl))) d5_56 rfl (fun T498 X499 => ?_)
  refine g_static (argsL := [(.long p2), (.long (-9223372036854775808 : Int64))]) (rest := [(.ref a1)]) (W := 1) X499 C (rmMax l Z a0 hw p2 (-9223372036854775808 : Int64) h0 n0 hz0 (by rw [show ((-9223372036854775808 : Int64)).toInt = -9223372036854775808 by decide]; omega) []) (hw _ (List.mem_of_getElem? (i := 62) rfl)) (hw _ (List.mem_of_getElem? (i := 63) rfl)) (hw _ (List.mem_of_getElem? (i := 64) rfl)) (hw _ (List.mem_of_getElem? (i := 65) rfl)) (by decide) pd_4 rfl rfl rfl rfl rfl (by decide) (by decide) (by decide) (by decide) d5_59 rfl (fun r503 T500 h502 hQ504 X501 => ?_)
  obtain ⟨rfl, hh⟩ := hQ504; rw [hh] at X501
  show Go p e below RS T500 (mkF m 62 #[.val (.ref a1), .val (.long p2), .second, .val (.long p3), .second, .val (.ref a4), .val (.ref a5), .val (.int p6), .val (.int p7), .unset, .unset, .unset, .unset] [(.long p2), (.ref a1)])
  refine g_private (argsL := [(.long p2)]) (rest := []) (W := 0) (a := a1) X501 C (rmIns0 l Z a0 hw a1 p2 tm sr ub fd c5 c6 c7 c8 nn wv lw bl wn (fun _ => 0) (fun _ => .null) (fun _ => 0) h0 n0 hz0 hwn ga_a1 ga_tm ga_sr ga_ub ne_a1_tm ne_a1_sr ne_a1_ub ne_tm_sr ne_tm_ub ne_sr_ub O_a1 A_tm A_sr A_ub (fun _ _ => rfl) []) O_a1.1 (hw _ (List.mem_of_getElem? (i := 66) rfl)) (hw _ (List.mem_of_getElem? (i := 67) rfl)) (hw _ (List.mem_of_getElem? (i := 68) rfl)) (hw _ (List.mem_of_getElem? (i := 1) rfl)) (hw _ (List.mem_of_getElem? (i := 2) rfl)) (hw _ (List.mem_of_getElem? (i := 69) rfl)) (by decide) pd_0 rfl rfl rfl rfl rfl (by decide) (by decide) (by decide) (by decide) d5_62 rfl (fun r508 T505 h507 hQ509 X506 => ?_)
  obtain ⟨rfl, KI0, s0, b0, e0, lo_s0, lo_b0, lo_e0, n_sb0, n_se0, n_be0, N_a1, N_tm, N_sr, N_ub, O_s0, A_b0, E_b0, A_e0⟩ := hQ509
  have ne_a1_s0 : NE a1 s0 := lone O_a1.lt lo_s0
  have ne_tm_s0 : NE tm s0 := lone A_tm.lt lo_s0
  have ne_sr_s0 : NE sr s0 := lone A_sr.lt lo_s0
  have ne_ub_s0 : NE ub s0 := lone A_ub.lt lo_s0
  have ne_a4_s0 : NE a4 s0 := lone A_a4.lt lo_s0
  have ne_a5_s0 : NE a5 s0 := lone A_a5.lt lo_s0
  have ga_s0 : Lo n0 s0 := Lo.tr hz0 lo_s0
  have sz_s0 : Lo h0.size s0 := Lo.kt (Keep.refl h0 [a1, tm, sr, ub]) lo_s0
  have ne_a1_b0 : NE a1 b0 := lone O_a1.lt lo_b0
  have ne_tm_b0 : NE tm b0 := lone A_tm.lt lo_b0
  have ne_sr_b0 : NE sr b0 := lone A_sr.lt lo_b0
  have ne_ub_b0 : NE ub b0 := lone A_ub.lt lo_b0
  have ne_a4_b0 : NE a4 b0 := lone A_a4.lt lo_b0
  have ne_a5_b0 : NE a5 b0 := lone A_a5.lt lo_b0
  have ga_b0 : Lo n0 b0 := Lo.tr hz0 lo_b0
  have sz_b0 : Lo h0.size b0 := Lo.kt (Keep.refl h0 [a1, tm, sr, ub]) lo_b0
  have ne_a1_e0 : NE a1 e0 := lone O_a1.lt lo_e0
  have ne_tm_e0 : NE tm e0 := lone A_tm.lt lo_e0
  have ne_sr_e0 : NE sr e0 := lone A_sr.lt lo_e0
  have ne_ub_e0 : NE ub e0 := lone A_ub.lt lo_e0
  have ne_a4_e0 : NE a4 e0 := lone A_a4.lt lo_e0
  have ne_a5_e0 : NE a5 e0 := lone A_a5.lt lo_e0
  have ga_e0 : Lo n0 e0 := Lo.tr hz0 lo_e0
  have sz_e0 : Lo h0.size e0 := Lo.kt (Keep.refl h0 [a1, tm, sr, ub]) lo_e0
  have A_a4 := A_a4.keep KI0 (ninN ne_a4_a1 (ninN ne_a4_tm (ninN ne_a4_sr (ninN ne_a4_ub nin0))))
  have A_a5 := A_a5.keep KI0 (ninN ne_a5_a1 (ninN ne_a5_tm (ninN ne_a5_sr (ninN ne_a5_ub nin0))))
  have hz510 : Lo n0 h507.size := Lo.keep hz0 KI0
  have KK511 := (Keep.refl h0 [a1, tm, sr, ub]).trans KI0 (allS (Or.inl (List.mem_of_getElem? (i := 0) rfl)) (allS (Or.inl (List.mem_of_getElem? (i := 1) rfl)) (allS (Or.inl (List.mem_of_getElem? (i := 2) rfl)) (allS (Or.inl (List.mem_of_getElem? (i := 3) rfl)) all0))))
  have O_a1 := N_a1; have A_tm := N_tm; have A_sr := N_sr; have A_ub := N_ub; clear N_a1 N_tm N_sr N_ub
  show Go p e below RS T505 (mkF m 65 #[.val (.ref a1), .val (.long p2), .second, .val (.long p3), .second, .val (.ref a4), .val (.ref a5), .val (.int p6), .val (.int p7), .unset, .unset, .unset, .unset] [(.int (0 : Int32))])
  refine g_istore (L' := #[.val (.ref a1), .val (.long p2), .second, .val (.long p3), .second, .val (.ref a4), .val (.ref a5), .val (.int p6), .val (.int p7), .val (.int (0 : Int32)), .unset, .unset, .unset]) X506 C d5_65 rfl rfl rfl ?_
  refine g_aloadN X506 C d5_67 rfl rfl rfl ?_
  refine g_lloadN X506 C d5_68 rfl rfl ?_
  refine g_private (argsL := [(.long p3)]) (rest := []) (W := 0) (a := a1) X506 C (rmIns1 l Z a0 hw a1 p3 tm sr ub fd c5 c6 c7 c8 nn wv lw bl wn (fun k => if k = 0 then p2 else 0) (fun k => if k = 0 then .ref s0 else .null) (fun k => if k = 0 then nn else 0) s0 b0 e0 (fun _ => 0) h507 n0 hz510 hwn ga_a1 ga_tm ga_sr ga_ub ne_a1_tm ne_a1_sr ne_a1_ub ne_tm_sr ne_tm_ub ne_sr_ub O_a1 A_tm A_sr A_ub (fun k _ => by split <;> rfl) (by show p2.toInt < p3.toInt; omega) rfl (NE.symm ne_a1_s0) (NE.symm ne_a1_b0) (NE.symm ne_tm_s0) (NE.symm ne_tm_b0) (NE.symm ne_sr_s0) (NE.symm ne_sr_b0) (NE.symm ne_ub_s0) (NE.symm ne_ub_b0) O_s0 A_b0 E_b0 []) O_a1.1 (hw _ (List.mem_of_getElem? (i := 66) rfl)) (hw _ (List.mem_of_getElem? (i := 67) rfl)) (hw _ (List.mem_of_getElem? (i := 68) rfl)) (hw _ (List.mem_of_getElem? (i := 1) rfl)) (hw _ (List.mem_of_getElem? (i := 2) rfl)) (hw _ (List.mem_of_getElem? (i := 69) rfl)) (by decide) pd_0 rfl rfl rfl rfl rfl (by decide) (by decide) (by decide) (by decide) d5_69 rfl (fun r515 T512 h514 hQ516 X513 => ?_)
  obtain ⟨rfl, KI1, s1, b1, e1, lo_s1, lo_b1, lo_e1, n_sb1, n_se1, n_be1, N_a1, N_tm, N_sr, N_ub, O_s1, A_b1, E_b1, A_e1⟩ := hQ516
  have ne_a1_s1 : NE a1 s1 := lone O_a1.lt lo_s1
  have ne_tm_s1 : NE tm s1 := lone A_tm.lt lo_s1
  have ne_sr_s1 : NE sr s1 := lone A_sr.lt lo_s1
  have ne_ub_s1 : NE ub s1 := lone A_ub.lt lo_s1
  have ne_a4_s1 : NE a4 s1 := lone A_a4.lt lo_s1
  have ne_a5_s1 : NE a5 s1 := lone A_a5.lt lo_s1
  have ne_s0_s1 : NE s0 s1 := lone O_s0.lt lo_s1
  have ne_b0_s1 : NE b0 s1 := lone A_b0.lt lo_s1
  have ne_e0_s1 : NE e0 s1 := lone A_e0.lt lo_s1
  have ga_s1 : Lo n0 s1 := Lo.tr hz510 lo_s1
  have sz_s1 : Lo h0.size s1 := Lo.kt KK511 lo_s1
  have ne_a1_b1 : NE a1 b1 := lone O_a1.lt lo_b1
  have ne_tm_b1 : NE tm b1 := lone A_tm.lt lo_b1
  have ne_sr_b1 : NE sr b1 := lone A_sr.lt lo_b1
  have ne_ub_b1 : NE ub b1 := lone A_ub.lt lo_b1
  have ne_a4_b1 : NE a4 b1 := lone A_a4.lt lo_b1
  have ne_a5_b1 : NE a5 b1 := lone A_a5.lt lo_b1
  have ne_s0_b1 : NE s0 b1 := lone O_s0.lt lo_b1
  have ne_b0_b1 : NE b0 b1 := lone A_b0.lt lo_b1
  have ne_e0_b1 : NE e0 b1 := lone A_e0.lt lo_b1
  have ga_b1 : Lo n0 b1 := Lo.tr hz510 lo_b1
  have sz_b1 : Lo h0.size b1 := Lo.kt KK511 lo_b1
  have ne_a1_e1 : NE a1 e1 := lone O_a1.lt lo_e1
  have ne_tm_e1 : NE tm e1 := lone A_tm.lt lo_e1
  have ne_sr_e1 : NE sr e1 := lone A_sr.lt lo_e1
  have ne_ub_e1 : NE ub e1 := lone A_ub.lt lo_e1
  have ne_a4_e1 : NE a4 e1 := lone A_a4.lt lo_e1
  have ne_a5_e1 : NE a5 e1 := lone A_a5.lt lo_e1
  have ne_s0_e1 : NE s0 e1 := lone O_s0.lt lo_e1
  have ne_b0_e1 : NE b0 e1 := lone A_b0.lt lo_e1
  have ne_e0_e1 : NE e0 e1 := lone A_e0.lt lo_e1
  have ga_e1 : Lo n0 e1 := Lo.tr hz510 lo_e1
  have sz_e1 : Lo h0.size e1 := Lo.kt KK511 lo_e1
  have A_a4 := A_a4.keep KI1 (ninN ne_a4_a1 (ninN ne_a4_tm (ninN ne_a4_sr (ninN ne_a4_ub nin0))))
  have A_a5 := A_a5.keep KI1 (ninN ne_a5_a1 (ninN ne_a5_tm (ninN ne_a5_sr (ninN ne_a5_ub nin0))))
  have O_s0 := O_s0.keep KI1 (ninN (NE.symm ne_a1_s0) (ninN (NE.symm ne_tm_s0) (ninN (NE.symm ne_sr_s0) (ninN (NE.symm ne_ub_s0) nin0))))
  have E_b0 := E_b0.keep KI1
  have A_b0 := A_b0.keep KI1 (ninN (NE.symm ne_a1_b0) (ninN (NE.symm ne_tm_b0) (ninN (NE.symm ne_sr_b0) (ninN (NE.symm ne_ub_b0) nin0))))
  have A_e0 := A_e0.keep KI1 (ninN (NE.symm ne_a1_e0) (ninN (NE.symm ne_tm_e0) (ninN (NE.symm ne_sr_e0) (ninN (NE.symm ne_ub_e0) nin0))))
  have hz517 : Lo n0 h514.size := Lo.keep hz510 KI1
  have KK518 := KK511.trans KI1 (allS (Or.inl (List.mem_of_getElem? (i := 0) rfl)) (allS (Or.inl (List.mem_of_getElem? (i := 1) rfl)) (allS (Or.inl (List.mem_of_getElem? (i := 2) rfl)) (allS (Or.inl (List.mem_of_getElem? (i := 3) rfl)) all0))))
  have O_a1 := N_a1; have A_tm := N_tm; have A_sr := N_sr; have A_ub := N_ub; clear N_a1 N_tm N_sr N_ub
  show Go p e below RS T512 (mkF m 72 #[.val (.ref a1), .val (.long p2), .second, .val (.long p3), .second, .val (.ref a4), .val (.ref a5), .val (.int p6), .val (.int p7), .val (.int (0 : Int32)), .unset, .unset, .unset] [(.int (1 : Int32))])
  refine g_istore (L' := #[.val (.ref a1), .val (.long p2), .second, .val (.long p3), .second, .val (.ref a4), .val (.ref a5), .val (.int p6), .val (.int p7), .val (.int (0 : Int32)), .val (.int (1 : Int32)), .unset, .unset]) X513 C d5_72 rfl rfl rfl ?_
  refine g_iload X513 C d5_74 rfl rfl ?_
  refine g_istore (L' := #[.val (.ref a1), .val (.long p2), .second, .val (.long p3), .second, .val (.ref a4), .val (.ref a5), .val (.int p6), .val (.int p7), .val (.int (0 : Int32)), .val (.int (1 : Int32)), .val (.int (0 : Int32)), .unset]) X513 C d5_76 rfl rfl rfl ?_
  refine g_iload X513 C d5_78 rfl rfl ?_
  refine g_iload X513 C d5_80 rfl rfl ?_
  refine g_icmp_ge (a := 0) (b := 1) X513 C d5_82 (by decide) (by decide) (by decide) (pT := 138) (by decide) (pF := 85) rfl (fun hc82 => absurd hc82 (by omega)) (fun hc82 => ?_)
  refine g_aloadN X513 C d5_85 rfl rfl rfl ?_
  refine g_getO (i := 1) X513 C O_a1 rfl rfl (host := "") (Or.inl (hw _ (List.mem_of_getElem? (i := 14) rfl))) d5_86 rfl (fun T519 X520 => ?_)
  refine g_iload X520 C d5_89 rfl rfl ?_
  refine g_aaload (i := 0) (v := (.ref s0)) X520 C A_sr (by decide) (by decide) rfl d5_91 rfl ?_
  refine g_astore (L' := #[.val (.ref a1), .val (.long p2), .second, .val (.long p3), .second, .val (.ref a4), .val (.ref a5), .val (.int p6), .val (.int p7), .val (.int (0 : Int32)), .val (.int (1 : Int32)), .val (.int (0 : Int32)), .val (.ref s0)]) X520 C d5_92 rfl rfl rfl ?_
  refine g_aloadN X520 C d5_94 rfl rfl rfl ?_
  refine g_aload X520 C d5_95 rfl rfl rfl ?_
  refine g_getO (i := 0) X520 C O_s0 rfl rfl (host := "") (Or.inl (hw _ (List.mem_of_getElem? (i := 93) rfl))) d5_97 rfl (fun T521 X522 => ?_)
  refine g_aload X522 C d5_100 rfl rfl rfl ?_
  refine g_iload X522 C d5_102 rfl rfl ?_
  refine g_private (argsL := [(.ref b0), (.ref a5), (.int p6)]) (rest := []) (W := 0) (a := a1) X522 C (rmPut l Z a0 hw a1 b0 a5 p6 tm sr ub fd c5 c6 c7 c8 nn wv lw bl (2 : Int32) wn (fun _ => 0) gm h514 n0 hz517 hwn hp6 ga_b0 ne_a1_b0 ne_a5_b0 O_a1 A_b0 A_a5 []) O_a1.1 (hw _ (List.mem_of_getElem? (i := 104) rfl)) (hw _ (List.mem_of_getElem? (i := 105) rfl)) (hw _ (List.mem_of_getElem? (i := 106) rfl)) (hw _ (List.mem_of_getElem? (i := 1) rfl)) (hw _ (List.mem_of_getElem? (i := 2) rfl)) (hw _ (List.mem_of_getElem? (i := 107) rfl)) (by decide) pd_5 rfl rfl rfl rfl rfl (by decide) (by decide) (by decide) (by decide) d5_104 rfl (fun r526 T523 h525 hQ527 X524 => ?_)
  obtain ⟨rfl, KP528, A_b0⟩ := hQ527
  have O_a1 := O_a1.keep KP528 (ninN ne_a1_b0 nin0)
  have A_tm := A_tm.keep KP528 (ninN ne_tm_b0 nin0)
  have A_sr := A_sr.keep KP528 (ninN ne_sr_b0 nin0)
  have A_ub := A_ub.keep KP528 (ninN ne_ub_b0 nin0)
  have A_a4 := A_a4.keep KP528 (ninN ne_a4_b0 nin0)
  have A_a5 := A_a5.keep KP528 (ninN ne_a5_b0 nin0)
  have O_s0 := O_s0.keep KP528 (ninN n_sb0 nin0)
  have E_b0 := E_b0.keep KP528
  have A_e0 := A_e0.keep KP528 (ninN (NE.symm n_be0) nin0)
  have O_s1 := O_s1.keep KP528 (ninN (NE.symm ne_b0_s1) nin0)
  have E_b1 := E_b1.keep KP528
  have A_b1 := A_b1.keep KP528 (ninN (NE.symm ne_b0_b1) nin0)
  have A_e1 := A_e1.keep KP528 (ninN (NE.symm ne_b0_e1) nin0)
  have hz529 : Lo n0 h525.size := Lo.keep hz517 KP528
  have KK530 := KK518.trans KP528 (allS (Or.inr sz_b0) all0)
  have A_b0 : Ar Z h525 b0 .long wn (fun j_ => .long (gm j_)) := A_b0.congr (fun j _ => by simp)
  show Go p e below RS T523 (mkF m 107 #[.val (.ref a1), .val (.long p2), .second, .val (.long p3), .second, .val (.ref a4), .val (.ref a5), .val (.int p6), .val (.int p7), .val (.int (0 : Int32)), .val (.int (1 : Int32)), .val (.int (0 : Int32)), .val (.ref s0)] [])
  refine g_aloadN X524 C d5_107 rfl rfl rfl ?_
  refine g_getO (i := 2) X524 C O_a1 rfl rfl (host := "") (Or.inl (hw _ (List.mem_of_getElem? (i := 17) rfl))) d5_108 rfl (fun T531 X532 => ?_)
  refine g_iload X532 C d5_111 rfl rfl ?_
  refine g_dup2 X532 C d5_113 rfl rfl rfl ?_
  refine g_iaload (i := 0) (v := (.int nn)) X532 C A_ub (by decide) (by decide) rfl d5_114 rfl ?_
  refine g_iload X532 C d5_115 rfl rfl ?_
  refine g_if_eq (a := p6.toInt) X532 C d5_117 rfl (by decide) (pT := 127) (by decide) (pF := 120) rfl (fun hc117 => absurd hc117 (by omega)) (fun hc117 => ?_)
  refine g_aload X532 C d5_120 rfl rfl rfl ?_
  refine g_arrlen (z := lk) X532 C A_a4 (by rcases hk with ⟨rfl, rfl⟩ | ⟨rfl, rfl⟩ <;> rfl) d5_122 rfl ?_
  refine g_ineg X532 C d5_123 rfl ?_
  refine g_goto (pc' := 130) X532 C d5_124 (by decide) (by decide) ?_
  refine g_iadd X532 C d5_130 rfl ?_
  obtain ⟨u0, h_u0⟩ : ∃ z, z = (nn + (-lk)) := ⟨_, rfl⟩
  rw [← h_u0]
  have hu0 : u0.toInt = nn.toInt - k := by
    have g2 := rng32 u0
    rcases hk with ⟨rfl, rfl⟩ | ⟨rfl, rfl⟩
    · have g1 := c_iadd nn (-1); have g3 : (-(1 : Int32)).toInt = -1 := by decide
      rw [← h_u0] at g1; omega
    · have g1 := c_iadd nn (-2); have g3 : (-(2 : Int32)).toInt = -2 := by decide
      rw [← h_u0] at g1; omega
  refine g_iastore (i := 0) X532 C A_ub (by decide) (by decide) ga_ub d5_131 rfl (fun T533 h535 X534 A_ub K536 => ?_)
  have O_a1 := O_a1.keep K536 (ninN ne_a1_ub nin0)
  have A_tm := A_tm.keep K536 (ninN ne_tm_ub nin0)
  have A_sr := A_sr.keep K536 (ninN ne_sr_ub nin0)
  have A_a4 := A_a4.keep K536 (ninN ne_a4_ub nin0)
  have A_a5 := A_a5.keep K536 (ninN ne_a5_ub nin0)
  have O_s0 := O_s0.keep K536 (ninN (NE.symm ne_ub_s0) nin0)
  have E_b0 := E_b0.keep K536
  have A_b0 := A_b0.keep K536 (ninN (NE.symm ne_ub_b0) nin0)
  have A_e0 := A_e0.keep K536 (ninN (NE.symm ne_ub_e0) nin0)
  have O_s1 := O_s1.keep K536 (ninN (NE.symm ne_ub_s1) nin0)
  have E_b1 := E_b1.keep K536
  have A_b1 := A_b1.keep K536 (ninN (NE.symm ne_ub_b1) nin0)
  have A_e1 := A_e1.keep K536 (ninN (NE.symm ne_ub_e1) nin0)
  have hz537 : Lo n0 h535.size := Lo.keep hz529 K536
  have KK538 := KK530.trans K536 (allS (Or.inl (List.mem_of_getElem? (i := 3) rfl)) all0)
  refine g_iinc (v' := (1 : Int32)) (L' := #[.val (.ref a1), .val (.long p2), .second, .val (.long p3), .second, .val (.ref a4), .val (.ref a5), .val (.int p6), .val (.int p7), .val (.int (0 : Int32)), .val (.int (1 : Int32)), .val (.int (1 : Int32)), .val (.ref s0)]) X534 C d5_132 rfl (by decide) rfl rfl ?_
  refine g_goto (pc' := 78) X534 C d5_135 (by decide) (by decide) ?_
  refine g_iload X534 C d5_78 rfl rfl ?_
  refine g_iload X534 C d5_80 rfl rfl ?_
  refine g_icmp_ge (a := 1) (b := 1) X534 C d5_82 (by decide) (by decide) (by decide) (pT := 138) (by decide) (pF := 85) rfl (fun hc82 => ?_) (fun hc82 => absurd hc82 (by omega))
  refine g_aloadN X534 C d5_138 rfl rfl rfl ?_
  refine g_aloadN X534 C d5_139 rfl rfl rfl ?_
  refine g_getO (i := 1) X534 C O_a1 rfl rfl (host := "") (Or.inl (hw _ (List.mem_of_getElem? (i := 14) rfl))) d5_140 rfl (fun T539 X540 => ?_)
  refine g_iload X540 C d5_143 rfl rfl ?_
  refine g_aaload (i := 1) (v := (.ref s1)) X540 C A_sr (by decide) (by decide) rfl d5_145 rfl ?_
  refine g_getO (i := 1) X540 C O_s1 rfl rfl (host := "") (Or.inl (hw _ (List.mem_of_getElem? (i := 108) rfl))) d5_146 rfl (fun T541 X542 => ?_)
  refine g_aload X542 C d5_149 rfl rfl rfl ?_
  refine g_iload X542 C d5_151 rfl rfl ?_
  refine g_private (argsL := [(.ref e1), (.ref a5), (.int p6)]) (rest := []) (W := 0) (a := a1) X542 C (rmPut l Z a0 hw a1 e1 a5 p6 tm sr ub fd c5 c6 c7 c8 nn wv lw bl (2 : Int32) wn (fun _ => 0) gm h535 n0 hz537 hwn hp6 ga_e1 ne_a1_e1 ne_a5_e1 O_a1 A_e1 A_a5 []) O_a1.1 (hw _ (List.mem_of_getElem? (i := 104) rfl)) (hw _ (List.mem_of_getElem? (i := 105) rfl)) (hw _ (List.mem_of_getElem? (i := 106) rfl)) (hw _ (List.mem_of_getElem? (i := 1) rfl)) (hw _ (List.mem_of_getElem? (i := 2) rfl)) (hw _ (List.mem_of_getElem? (i := 107) rfl)) (by decide) pd_5 rfl rfl rfl rfl rfl (by decide) (by decide) (by decide) (by decide) d5_153 rfl (fun r546 T543 h545 hQ547 X544 => ?_)
  obtain ⟨rfl, KP548, A_e1⟩ := hQ547
  have O_a1 := O_a1.keep KP548 (ninN ne_a1_e1 nin0)
  have A_tm := A_tm.keep KP548 (ninN ne_tm_e1 nin0)
  have A_sr := A_sr.keep KP548 (ninN ne_sr_e1 nin0)
  have A_ub := A_ub.keep KP548 (ninN ne_ub_e1 nin0)
  have A_a4 := A_a4.keep KP548 (ninN ne_a4_e1 nin0)
  have A_a5 := A_a5.keep KP548 (ninN ne_a5_e1 nin0)
  have O_s0 := O_s0.keep KP548 (ninN ne_s0_e1 nin0)
  have E_b0 := E_b0.keep KP548
  have A_b0 := A_b0.keep KP548 (ninN ne_b0_e1 nin0)
  have A_e0 := A_e0.keep KP548 (ninN ne_e0_e1 nin0)
  have O_s1 := O_s1.keep KP548 (ninN n_se1 nin0)
  have E_b1 := E_b1.keep KP548
  have A_b1 := A_b1.keep KP548 (ninN n_be1 nin0)
  have hz549 : Lo n0 h545.size := Lo.keep hz537 KP548
  have KK550 := KK538.trans KP548 (allS (Or.inr sz_e1) all0)
  have A_e1 : Ar Z h545 e1 .long wn (fun j_ => .long (gm j_)) := A_e1.congr (fun j _ => by simp)
  show Go p e below RS T543 (mkF m 156 #[.val (.ref a1), .val (.long p2), .second, .val (.long p3), .second, .val (.ref a4), .val (.ref a5), .val (.int p6), .val (.int p7), .val (.int (0 : Int32)), .val (.int (1 : Int32)), .val (.int (1 : Int32)), .val (.ref s0)] [])
  refine g_iload X544 C d5_156 rfl rfl ?_
  refine g_if_eq (a := p7.toInt) X544 C d5_158 rfl (by decide) (pT := 173) (by decide) (pF := 161) rfl (fun hc158 => absurd hc158 (by omega)) (fun hc158 => ?_)
  refine g_aloadN X544 C d5_161 rfl rfl rfl ?_
  refine g_iload X544 C d5_162 rfl rfl ?_
  refine g_private (argsL := [(.int (1 : Int32))]) (rest := []) (W := 0) (a := a1) X544 C (rmDr1 l Z a0 hw a1 (1 : Int32) tm sr ub fd c5 c6 c7 c8 nn wv lw bl wn (fun k => if k = 1 then .ref s1 else if k = 0 then .ref s0 else .null) (fun k => if k = 0 then u0 else if k = 1 then nn else if k = 0 then nn else 0) s1 b1 e1 gm h545 n0 hz549 (by decide) hwn hgm rfl O_a1 A_sr A_ub O_s1 A_e1 []) O_a1.1 (hw _ (List.mem_of_getElem? (i := 109) rfl)) (hw _ (List.mem_of_getElem? (i := 110) rfl)) (hw _ (List.mem_of_getElem? (i := 111) rfl)) (hw _ (List.mem_of_getElem? (i := 1) rfl)) (hw _ (List.mem_of_getElem? (i := 2) rfl)) (hw _ (List.mem_of_getElem? (i := 112) rfl)) (by decide) pd_6 rfl rfl rfl rfl rfl (by decide) (by decide) (by decide) (by decide) d5_164 rfl (fun r554 T551 h553 hQ555 X552 => ?_)
  obtain ⟨rfl, hh⟩ := hQ555; rw [hh] at X552
  show Go p e below RS T551 (mkF m 167 #[.val (.ref a1), .val (.long p2), .second, .val (.long p3), .second, .val (.ref a4), .val (.ref a5), .val (.int p6), .val (.int p7), .val (.int (0 : Int32)), .val (.int (1 : Int32)), .val (.int (1 : Int32)), .val (.ref s0)] [])
  refine g_aloadN X552 C d5_167 rfl rfl rfl ?_
  refine g_iload X552 C d5_168 rfl rfl ?_
  refine g_private (argsL := [(.int (0 : Int32))]) (rest := []) (W := 0) (a := a1) X552 C (rmDr0 l Z a0 hw a1 (0 : Int32) tm sr ub fd c5 c6 c7 c8 nn wv lw bl wn (fun k => if k = 1 then .ref s1 else if k = 0 then .ref s0 else .null) (fun k => if k = 0 then u0 else if k = 1 then nn else if k = 0 then nn else 0) s0 b0 e0 (fun _ => 0) h545 n0 hz549 (by decide) hwn (fun _ _ => rfl) (by show u0.toInt ≠ nn.toInt; omega) rfl O_a1 A_sr A_ub O_s0 A_e0 []) O_a1.1 (hw _ (List.mem_of_getElem? (i := 109) rfl)) (hw _ (List.mem_of_getElem? (i := 110) rfl)) (hw _ (List.mem_of_getElem? (i := 111) rfl)) (hw _ (List.mem_of_getElem? (i := 1) rfl)) (hw _ (List.mem_of_getElem? (i := 2) rfl)) (hw _ (List.mem_of_getElem? (i := 112) rfl)) (by decide) pd_6 rfl rfl rfl rfl rfl (by decide) (by decide) (by decide) (by decide) d5_170 rfl (fun r559 T556 h558 hQ560 X557 => ?_)
  obtain ⟨rfl, hh⟩ := hQ560; rw [hh] at X557
  show Go p e below RS T556 (mkF m 173 #[.val (.ref a1), .val (.long p2), .second, .val (.long p3), .second, .val (.ref a4), .val (.ref a5), .val (.int p6), .val (.int p7), .val (.int (0 : Int32)), .val (.int (1 : Int32)), .val (.int (1 : Int32)), .val (.ref s0)] [])
  rw [hRS]
  refine g_retV X557 C d5_173 ?_ (by decide) (by decide)
  refine ⟨rfl, KK550, s0, b0, e0, s1, b1, e1, u0, hu0, sz_s0, sz_b0, sz_e0, sz_s1, sz_b1, sz_e1, O_a1, A_tm, A_sr, A_ub.congr (fun j _ => ?_), O_s0, O_s1, A_b0, A_e0, A_b1, A_e1⟩
  congr 1
  split <;> first | rfl | (split <;> first | rfl | simp_all)
theorem ef_rmI (m : MethodId) (a1 : Addr) (p2 : Int32) : entryFrame m #[(.ref a1), (.int p2)] 2 = mkF m 0 #[.val (.ref a1), .val (.int p2)] [] := by first | (simp [entryFrame, mkF, argsToLocals, Value.category]; done) | rfl
set_option maxRecDepth 65536 in
set_option maxHeartbeats 40000000 in
theorem rmI (l : Launch) (Z : State) (a0 : Array Value) (hw : ∀ d ∈ tables_1, d.before a0 Z = true) (a1 : Addr) (p2 : Int32) (n : Nat) (h0 : Heap) (n0 : Nat) (hz0 : Lo n0 h0.size) (hn : p2.toInt = n) (hn1 : 1 ≤ n) (hn128 : n ≤ 128) (ga_a1 : Lo n0 a1) (O_a1 : Ob Z h0 a1 "org/foreslot/planning/ClusterTimeline" NS_CT [.null, .null, .null, (.long (0 : Int64)), (.long (0 : Int64)), (.long (0 : Int64)), (.long (0 : Int64)), (.int (0 : Int32)), (.int (0 : Int32)), (.long (0 : Int64)), .null, .null, .null, .null, .null, (.int (0 : Int32)), (.int (0 : Int32))]) (ws : List Jvm.Cond) :
    Ctr l (⟨"org/foreslot/planning/ClusterTimeline", "<init>", "(I)V"⟩ : MethodName) prog_29_method_1_code 2 none ({ frames := 1, cells := 8, slots := 200, locals := 12 } : Room) Z n0 #[(.ref a1), (.int p2)] h0 (fun v h => v = none ∧ Keep h0 h [a1] ∧ ∃ (tm sr ub fd c5 c6 c7 c8 : Addr) (wv : Int32) (lw : Int64), own_W ((n + 63) / 64) wv ∧ own_lw p2 lw ∧ Lo h0.size tm ∧ Lo h0.size sr ∧ Lo h0.size ub ∧ Lo h0.size fd ∧ NE tm sr ∧ NE tm ub ∧ NE sr ub ∧ NE tm fd ∧ NE sr fd ∧ NE ub fd ∧ Ob Z h a1 "org/foreslot/planning/ClusterTimeline" NS_CT [(.ref tm), (.ref sr), (.ref ub), (.long (-9223372036854775808 : Int64)), (.long (1 : Int64)), (.long (9223372036854775807 : Int64)), (.long (-9223372036854775808 : Int64)), (.int p2), (.int wv), (.long lw), (.ref fd), (.ref c5), (.ref c6), (.ref c7), (.ref c8), (.int (0 : Int32)), (.int (0 : Int32))] ∧ Ar Z h tm .long 16 (fun _ => .long 0) ∧ ArR Z h sr "org/foreslot/planning/ClusterTimeline$Stretch" 16 (fun _ => .null) ∧ Ar Z h ub .int 16 (fun _ => .int 0) ∧ Ar Z h fd .long ((n + 63) / 64) (fun _ => .long 0)) ws := by
  refine ctr_of (plainFor_of_name pn_1) ?_
  intro p e s m below meth c T0 X0 C
  refine go_cast (ef_rmI m a1 p2) ?_
  obtain ⟨RS, hRS⟩ : ∃ RS, RS = Rs s below n0 (fun v h => v = none ∧ Keep h0 h [a1] ∧ ∃ (tm sr ub fd c5 c6 c7 c8 : Addr) (wv : Int32) (lw : Int64), own_W ((n + 63) / 64) wv ∧ own_lw p2 lw ∧ Lo h0.size tm ∧ Lo h0.size sr ∧ Lo h0.size ub ∧ Lo h0.size fd ∧ NE tm sr ∧ NE tm ub ∧ NE sr ub ∧ NE tm fd ∧ NE sr fd ∧ NE ub fd ∧ Ob Z h a1 "org/foreslot/planning/ClusterTimeline" NS_CT [(.ref tm), (.ref sr), (.ref ub), (.long (-9223372036854775808 : Int64)), (.long (1 : Int64)), (.long (9223372036854775807 : Int64)), (.long (-9223372036854775808 : Int64)), (.int p2), (.int wv), (.long lw), (.ref fd), (.ref c5), (.ref c6), (.ref c7), (.ref c8), (.int (0 : Int32)), (.int (0 : Int32))] ∧ Ar Z h tm .long 16 (fun _ => .long 0) ∧ ArR Z h sr "org/foreslot/planning/ClusterTimeline$Stretch" 16 (fun _ => .null) ∧ Ar Z h ub .int 16 (fun _ => .int 0) ∧ Ar Z h fd .long ((n + 63) / 64) (fun _ => .long 0)) ({ frames := 1, cells := 8, slots := 200, locals := 12 } : Room).cells ({ frames := 1, cells := 8, slots := 200, locals := 12 } : Room).slots := ⟨_, rfl⟩
  suffices HG : Go p e below RS T0 (mkF m 0 #[.val (.ref a1), .val (.int p2)] []) by rw [hRS] at HG; exact HG
  show Go p e below RS T0 (mkF m 0 #[.val (.ref a1), .val (.int p2)] [])
  refine g_aloadN X0 C d1_0 rfl rfl rfl ?_
  refine g_initO (W := 0) X0 C (hw _ (List.mem_of_getElem? (i := 6) rfl)) (hw _ (List.mem_of_getElem? (i := 7) rfl)) (hw _ (List.mem_of_getElem? (i := 8) rfl)) rfl rfl (by decide) (by decide) d1_1 rfl (fun T561 X562 => ?_)
  refine g_aloadN X562 C d1_4 rfl rfl rfl ?_
  refine g_bipush (v := 16) X562 C d1_5 (by decide) rfl ?_
  refine g_newarr (n := 16) (cap := 16) X562 C (hw _ (List.mem_of_getElem? (i := 9) rfl)) (by decide) (by decide) (by decide) (by decide) (by decide) d1_7 rfl (fun T563 h565 b567 hb568 X564 A_b567 K566 => ?_)
  have A_b567 : Ar Z h565 b567 .long 16 (fun _ => .long 0) := A_b567
  have ne_a1_b567 : NE a1 b567 := hb568.ne O_a1.lt
  have ga_b567 : Lo n0 b567 := Sz.lo hb568 hz0
  have sz_b567 : Lo h0.size b567 := Sz.lo hb568 ((Keep.refl h0 [a1]).1)
  have O_a1 := O_a1.keep K566 nin0
  have hz569 : Lo n0 h565.size := Lo.keep hz0 K566
  have KK570 := (Keep.refl h0 [a1]).trans K566 (fun x hx => nomatch hx)
  refine g_putO (i := 0) (vs' := [(.ref b567), .null, .null, (.long (0 : Int64)), (.long (0 : Int64)), (.long (0 : Int64)), (.long (0 : Int64)), (.int (0 : Int32)), (.int (0 : Int32)), (.long (0 : Int64)), .null, .null, .null, .null, .null, (.int (0 : Int32)), (.int (0 : Int32))]) X564 C O_a1 (CF_CT hw) rfl rfl rfl ga_a1 (host := "") (Or.inl (hw _ (List.mem_of_getElem? (i := 10) rfl))) (Or.inl (hw _ (List.mem_of_getElem? (i := 11) rfl))) (ty := (.array .long)) (by decide) rfl rfl d1_9 rfl (fun T571 h573 X572 O_a1 K574 => ?_)
  have A_b567 := A_b567.keep K574 (ninN (NE.symm ne_a1_b567) nin0)
  have hz575 : Lo n0 h573.size := Lo.keep hz569 K574
  have KK576 := KK570.trans K574 (allS (Or.inl (List.mem_of_getElem? (i := 0) rfl)) all0)
  refine g_aloadN X572 C d1_12 rfl rfl rfl ?_
  refine g_bipush (v := 16) X572 C d1_13 (by decide) rfl ?_
  refine g_newR (n := 16) (cap := 16) X572 C (hw _ (List.mem_of_getElem? (i := 12) rfl)) (hw _ (List.mem_of_getElem? (i := 13) rfl)) (by decide) (by decide) (by decide) (by decide) (by decide) d1_15 rfl (fun T577 h579 b581 hb582 X578 A_b581 K580 => ?_)
  have ne_a1_b581 : NE a1 b581 := hb582.ne O_a1.lt
  have ne_b567_b581 : NE b567 b581 := hb582.ne A_b567.lt
  have ga_b581 : Lo n0 b581 := Sz.lo hb582 hz575
  have sz_b581 : Lo h0.size b581 := Sz.lo hb582 (KK576.1)
  have O_a1 := O_a1.keep K580 nin0
  have A_b567 := A_b567.keep K580 nin0
  have hz583 : Lo n0 h579.size := Lo.keep hz575 K580
  have KK584 := KK576.trans K580 (fun x hx => nomatch hx)
  refine g_putO (i := 1) (vs' := [(.ref b567), (.ref b581), .null, (.long (0 : Int64)), (.long (0 : Int64)), (.long (0 : Int64)), (.long (0 : Int64)), (.int (0 : Int32)), (.int (0 : Int32)), (.long (0 : Int64)), .null, .null, .null, .null, .null, (.int (0 : Int32)), (.int (0 : Int32))]) X578 C O_a1 (CF_CT hw) rfl rfl rfl ga_a1 (host := "") (Or.inl (hw _ (List.mem_of_getElem? (i := 14) rfl))) (Or.inl (hw _ (List.mem_of_getElem? (i := 15) rfl))) (ty := (.array (.object "org/foreslot/planning/ClusterTimeline$Stretch"))) (by decide) rfl rfl d1_18 rfl (fun T585 h587 X586 O_a1 K588 => ?_)
  have A_b567 := A_b567.keep K588 (ninN (NE.symm ne_a1_b567) nin0)
  have A_b581 := A_b581.keep K588 (ninN (NE.symm ne_a1_b581) nin0)
  have hz589 : Lo n0 h587.size := Lo.keep hz583 K588
  have KK590 := KK584.trans K588 (allS (Or.inl (List.mem_of_getElem? (i := 0) rfl)) all0)
  refine g_aloadN X586 C d1_21 rfl rfl rfl ?_
  refine g_bipush (v := 16) X586 C d1_22 (by decide) rfl ?_
  refine g_newarr (n := 16) (cap := 16) X586 C (hw _ (List.mem_of_getElem? (i := 16) rfl)) (by decide) (by decide) (by decide) (by decide) (by decide) d1_24 rfl (fun T591 h593 b595 hb596 X592 A_b595 K594 => ?_)
  have A_b595 : Ar Z h593 b595 .int 16 (fun _ => .int 0) := A_b595
  have ne_a1_b595 : NE a1 b595 := hb596.ne O_a1.lt
  have ne_b567_b595 : NE b567 b595 := hb596.ne A_b567.lt
  have ne_b581_b595 : NE b581 b595 := hb596.ne A_b581.lt
  have ga_b595 : Lo n0 b595 := Sz.lo hb596 hz589
  have sz_b595 : Lo h0.size b595 := Sz.lo hb596 (KK590.1)
  have O_a1 := O_a1.keep K594 nin0
  have A_b567 := A_b567.keep K594 nin0
  have A_b581 := A_b581.keep K594 nin0
  have hz597 : Lo n0 h593.size := Lo.keep hz589 K594
  have KK598 := KK590.trans K594 (fun x hx => nomatch hx)
  refine g_putO (i := 2) (vs' := [(.ref b567), (.ref b581), (.ref b595), (.long (0 : Int64)), (.long (0 : Int64)), (.long (0 : Int64)), (.long (0 : Int64)), (.int (0 : Int32)), (.int (0 : Int32)), (.long (0 : Int64)), .null, .null, .null, .null, .null, (.int (0 : Int32)), (.int (0 : Int32))]) X592 C O_a1 (CF_CT hw) rfl rfl rfl ga_a1 (host := "") (Or.inl (hw _ (List.mem_of_getElem? (i := 17) rfl))) (Or.inl (hw _ (List.mem_of_getElem? (i := 18) rfl))) (ty := (.array .int)) (by decide) rfl rfl d1_26 rfl (fun T599 h601 X600 O_a1 K602 => ?_)
  have A_b567 := A_b567.keep K602 (ninN (NE.symm ne_a1_b567) nin0)
  have A_b581 := A_b581.keep K602 (ninN (NE.symm ne_a1_b581) nin0)
  have A_b595 := A_b595.keep K602 (ninN (NE.symm ne_a1_b595) nin0)
  have hz603 : Lo n0 h601.size := Lo.keep hz597 K602
  have KK604 := KK598.trans K602 (allS (Or.inl (List.mem_of_getElem? (i := 0) rfl)) all0)
  refine g_aloadN X600 C d1_29 rfl rfl rfl ?_
  refine g_ldcJ X600 C (hw _ (List.mem_of_getElem? (i := 19) rfl)) d1_30 rfl ?_
  refine g_putO (i := 3) (vs' := [(.ref b567), (.ref b581), (.ref b595), (.long (-9223372036854775808 : Int64)), (.long (0 : Int64)), (.long (0 : Int64)), (.long (0 : Int64)), (.int (0 : Int32)), (.int (0 : Int32)), (.long (0 : Int64)), .null, .null, .null, .null, .null, (.int (0 : Int32)), (.int (0 : Int32))]) X600 C O_a1 (CF_CT hw) rfl rfl rfl ga_a1 (host := "") (Or.inl (hw _ (List.mem_of_getElem? (i := 20) rfl))) (Or.inl (hw _ (List.mem_of_getElem? (i := 21) rfl))) (ty := .long) (by decide) rfl rfl d1_33 rfl (fun T605 h607 X606 O_a1 K608 => ?_)
  have A_b567 := A_b567.keep K608 (ninN (NE.symm ne_a1_b567) nin0)
  have A_b581 := A_b581.keep K608 (ninN (NE.symm ne_a1_b581) nin0)
  have A_b595 := A_b595.keep K608 (ninN (NE.symm ne_a1_b595) nin0)
  have hz609 : Lo n0 h607.size := Lo.keep hz603 K608
  have KK610 := KK604.trans K608 (allS (Or.inl (List.mem_of_getElem? (i := 0) rfl)) all0)
  refine g_aloadN X606 C d1_36 rfl rfl rfl ?_
  refine g_lconst (v := 1) X606 C d1_37 (by decide) rfl ?_
  refine g_putO (i := 4) (vs' := [(.ref b567), (.ref b581), (.ref b595), (.long (-9223372036854775808 : Int64)), (.long (1 : Int64)), (.long (0 : Int64)), (.long (0 : Int64)), (.int (0 : Int32)), (.int (0 : Int32)), (.long (0 : Int64)), .null, .null, .null, .null, .null, (.int (0 : Int32)), (.int (0 : Int32))]) X606 C O_a1 (CF_CT hw) rfl rfl rfl ga_a1 (host := "") (Or.inl (hw _ (List.mem_of_getElem? (i := 22) rfl))) (Or.inl (hw _ (List.mem_of_getElem? (i := 23) rfl))) (ty := .long) (by decide) rfl rfl d1_38 rfl (fun T611 h613 X612 O_a1 K614 => ?_)
  have A_b567 := A_b567.keep K614 (ninN (NE.symm ne_a1_b567) nin0)
  have A_b581 := A_b581.keep K614 (ninN (NE.symm ne_a1_b581) nin0)
  have A_b595 := A_b595.keep K614 (ninN (NE.symm ne_a1_b595) nin0)
  have hz615 : Lo n0 h613.size := Lo.keep hz609 K614
  have KK616 := KK610.trans K614 (allS (Or.inl (List.mem_of_getElem? (i := 0) rfl)) all0)
  refine g_aloadN X612 C d1_41 rfl rfl rfl ?_
  refine g_ldcJ X612 C (hw _ (List.mem_of_getElem? (i := 24) rfl)) d1_42 rfl ?_
  refine g_putO (i := 5) (vs' := [(.ref b567), (.ref b581), (.ref b595), (.long (-9223372036854775808 : Int64)), (.long (1 : Int64)), (.long (9223372036854775807 : Int64)), (.long (0 : Int64)), (.int (0 : Int32)), (.int (0 : Int32)), (.long (0 : Int64)), .null, .null, .null, .null, .null, (.int (0 : Int32)), (.int (0 : Int32))]) X612 C O_a1 (CF_CT hw) rfl rfl rfl ga_a1 (host := "") (Or.inl (hw _ (List.mem_of_getElem? (i := 25) rfl))) (Or.inl (hw _ (List.mem_of_getElem? (i := 26) rfl))) (ty := .long) (by decide) rfl rfl d1_45 rfl (fun T617 h619 X618 O_a1 K620 => ?_)
  have A_b567 := A_b567.keep K620 (ninN (NE.symm ne_a1_b567) nin0)
  have A_b581 := A_b581.keep K620 (ninN (NE.symm ne_a1_b581) nin0)
  have A_b595 := A_b595.keep K620 (ninN (NE.symm ne_a1_b595) nin0)
  have hz621 : Lo n0 h619.size := Lo.keep hz615 K620
  have KK622 := KK616.trans K620 (allS (Or.inl (List.mem_of_getElem? (i := 0) rfl)) all0)
  refine g_aloadN X618 C d1_48 rfl rfl rfl ?_
  refine g_ldcJ X618 C (hw _ (List.mem_of_getElem? (i := 19) rfl)) d1_49 rfl ?_
  refine g_putO (i := 6) (vs' := [(.ref b567), (.ref b581), (.ref b595), (.long (-9223372036854775808 : Int64)), (.long (1 : Int64)), (.long (9223372036854775807 : Int64)), (.long (-9223372036854775808 : Int64)), (.int (0 : Int32)), (.int (0 : Int32)), (.long (0 : Int64)), .null, .null, .null, .null, .null, (.int (0 : Int32)), (.int (0 : Int32))]) X618 C O_a1 (CF_CT hw) rfl rfl rfl ga_a1 (host := "") (Or.inl (hw _ (List.mem_of_getElem? (i := 27) rfl))) (Or.inl (hw _ (List.mem_of_getElem? (i := 28) rfl))) (ty := .long) (by decide) rfl rfl d1_52 rfl (fun T623 h625 X624 O_a1 K626 => ?_)
  have A_b567 := A_b567.keep K626 (ninN (NE.symm ne_a1_b567) nin0)
  have A_b581 := A_b581.keep K626 (ninN (NE.symm ne_a1_b581) nin0)
  have A_b595 := A_b595.keep K626 (ninN (NE.symm ne_a1_b595) nin0)
  have hz627 : Lo n0 h625.size := Lo.keep hz621 K626
  have KK628 := KK622.trans K626 (allS (Or.inl (List.mem_of_getElem? (i := 0) rfl)) all0)
  refine g_aloadN X624 C d1_55 rfl rfl rfl ?_
  refine g_iloadN X624 C d1_56 rfl rfl ?_
  refine g_putO (i := 7) (vs' := [(.ref b567), (.ref b581), (.ref b595), (.long (-9223372036854775808 : Int64)), (.long (1 : Int64)), (.long (9223372036854775807 : Int64)), (.long (-9223372036854775808 : Int64)), (.int p2), (.int (0 : Int32)), (.long (0 : Int64)), .null, .null, .null, .null, .null, (.int (0 : Int32)), (.int (0 : Int32))]) X624 C O_a1 (CF_CT hw) rfl rfl rfl ga_a1 (host := "") (Or.inl (hw _ (List.mem_of_getElem? (i := 29) rfl))) (Or.inr ⟨(hw _ (List.mem_of_getElem? (i := 30) rfl)), rfl, rfl⟩) (ty := .int) (by decide) rfl rfl d1_57 rfl (fun T629 h631 X630 O_a1 K632 => ?_)
  have A_b567 := A_b567.keep K632 (ninN (NE.symm ne_a1_b567) nin0)
  have A_b581 := A_b581.keep K632 (ninN (NE.symm ne_a1_b581) nin0)
  have A_b595 := A_b595.keep K632 (ninN (NE.symm ne_a1_b595) nin0)
  have hz633 : Lo n0 h631.size := Lo.keep hz627 K632
  have KK634 := KK628.trans K632 (allS (Or.inl (List.mem_of_getElem? (i := 0) rfl)) all0)
  refine g_aloadN X630 C d1_60 rfl rfl rfl ?_
  refine g_iloadN X630 C d1_61 rfl rfl ?_
  refine g_bipush (v := 64) X630 C d1_62 (by decide) rfl ?_
  refine g_iadd X630 C d1_64 rfl ?_
  refine g_iconst (v := 1) X630 C d1_65 (by decide) rfl ?_
  refine g_isub X630 C d1_66 rfl ?_
  refine g_bipush (v := 64) X630 C d1_67 (by decide) rfl ?_
  refine g_idiv X630 C d1_69 (by decide) rfl ?_
  obtain ⟨wv, h_wv⟩ : ∃ z, z = (((p2 + (64 : Int32)) - (1 : Int32)) / (64 : Int32)) := ⟨_, rfl⟩
  rw [← h_wv]
  have hwv : wv.toInt = ((n + 63) / 64 : Nat) := by
    have g1 := c_iadd p2 64; have g2 := c_isub (p2 + 64) 1; have g3 := rng32 (p2 + 64); have g4 := rng32 (p2 + 64 - 1); have g5 : (64 : Int32).toInt = 64 := by decide
    have g6 : (1 : Int32).toInt = 1 := by decide
    have g7 := (c_idiv (p2 + 64 - 1) 64 64 (by decide) (by decide)).1
    rw [← h_wv] at g7; omega
  have hwn : own_W ((n + 63) / 64) wv := by
    rcases (show (n + 63) / 64 = 1 ∨ (n + 63) / 64 = 2 by omega) with q | q
    · exact Or.inl ⟨q, Int32.toInt_inj.mp (by rw [hwv, q]; decide)⟩
    · exact Or.inr ⟨q, Int32.toInt_inj.mp (by rw [hwv, q]; decide)⟩
  refine g_putO (i := 8) (vs' := [(.ref b567), (.ref b581), (.ref b595), (.long (-9223372036854775808 : Int64)), (.long (1 : Int64)), (.long (9223372036854775807 : Int64)), (.long (-9223372036854775808 : Int64)), (.int p2), (.int wv), (.long (0 : Int64)), .null, .null, .null, .null, .null, (.int (0 : Int32)), (.int (0 : Int32))]) X630 C O_a1 (CF_CT hw) rfl rfl rfl ga_a1 (host := "") (Or.inl (hw _ (List.mem_of_getElem? (i := 31) rfl))) (Or.inr ⟨(hw _ (List.mem_of_getElem? (i := 32) rfl)), rfl, rfl⟩) (ty := .int) (by decide) rfl rfl d1_70 rfl (fun T635 h637 X636 O_a1 K638 => ?_)
  have A_b567 := A_b567.keep K638 (ninN (NE.symm ne_a1_b567) nin0)
  have A_b581 := A_b581.keep K638 (ninN (NE.symm ne_a1_b581) nin0)
  have A_b595 := A_b595.keep K638 (ninN (NE.symm ne_a1_b595) nin0)
  have hz639 : Lo n0 h637.size := Lo.keep hz633 K638
  have KK640 := KK634.trans K638 (allS (Or.inl (List.mem_of_getElem? (i := 0) rfl)) all0)
  refine g_aloadN X636 C d1_73 rfl rfl rfl ?_
  refine g_iloadN X636 C d1_74 rfl rfl ?_
  refine g_bipush (v := 64) X636 C d1_75 (by decide) rfl ?_
  refine g_irem X636 C d1_77 (by decide) rfl ?_
  have J95_641 : ∀ (j641 : Int64) (_ : ((p2 % (64 : Int32)).toInt ≠ 0 ∧ j641 = (((1 : Int64) <<< ((p2 % (64 : Int32)) &&& 0x3f).toInt64) - (1 : Int64))) ∨ ((p2 % (64 : Int32)).toInt = 0 ∧ j641 = (-1 : Int64) ∧ j641.toInt = (-1))), Go p e below RS T635 (mkF m 95 #[.val (.ref a1), .val (.int p2)] [(.long j641), (.ref a1)]) := by
    intro j641 hJ95
    have hlw : own_lw p2 j641 := by
      rcases hJ95 with ⟨q1, q2⟩ | ⟨q1, q2, _⟩
      · exact Or.inr ⟨q1, q2⟩
      · exact Or.inl ⟨q1, q2⟩
    refine g_putO (i := 9) (vs' := [(.ref b567), (.ref b581), (.ref b595), (.long (-9223372036854775808 : Int64)), (.long (1 : Int64)), (.long (9223372036854775807 : Int64)), (.long (-9223372036854775808 : Int64)), (.int p2), (.int wv), (.long j641), .null, .null, .null, .null, .null, (.int (0 : Int32)), (.int (0 : Int32))]) X636 C O_a1 (CF_CT hw) rfl rfl rfl ga_a1 (host := "") (Or.inl (hw _ (List.mem_of_getElem? (i := 33) rfl))) (Or.inr ⟨(hw _ (List.mem_of_getElem? (i := 34) rfl)), rfl, rfl⟩) (ty := .long) (by decide) rfl rfl d1_95 rfl (fun T643 h645 X644 O_a1 K646 => ?_)
    have A_b567 := A_b567.keep K646 (ninN (NE.symm ne_a1_b567) nin0)
    have A_b581 := A_b581.keep K646 (ninN (NE.symm ne_a1_b581) nin0)
    have A_b595 := A_b595.keep K646 (ninN (NE.symm ne_a1_b595) nin0)
    have hz647 : Lo n0 h645.size := Lo.keep hz639 K646
    have KK648 := KK640.trans K646 (allS (Or.inl (List.mem_of_getElem? (i := 0) rfl)) all0)
    refine g_aloadN X644 C d1_98 rfl rfl rfl ?_
    refine g_aloadN X644 C d1_99 rfl rfl rfl ?_
    refine g_getO (i := 8) X644 C O_a1 rfl rfl (host := "") (Or.inl (hw _ (List.mem_of_getElem? (i := 31) rfl))) d1_100 rfl (fun T649 X650 => ?_)
    refine g_newarr (n := ((n + 63) / 64)) (cap := 2) X650 C (hw _ (List.mem_of_getElem? (i := 9) rfl)) hwv (by omega) (by decide) (by decide) (by decide) d1_103 rfl (fun T651 h653 b655 hb656 X652 A_b655 K654 => ?_)
    have A_b655 : Ar Z h653 b655 .long ((n + 63) / 64) (fun _ => .long 0) := A_b655
    have ne_a1_b655 : NE a1 b655 := hb656.ne O_a1.lt
    have ne_b567_b655 : NE b567 b655 := hb656.ne A_b567.lt
    have ne_b581_b655 : NE b581 b655 := hb656.ne A_b581.lt
    have ne_b595_b655 : NE b595 b655 := hb656.ne A_b595.lt
    have ga_b655 : Lo n0 b655 := Sz.lo hb656 hz647
    have sz_b655 : Lo h0.size b655 := Sz.lo hb656 (KK648.1)
    have O_a1 := O_a1.keep K654 nin0
    have A_b567 := A_b567.keep K654 nin0
    have A_b581 := A_b581.keep K654 nin0
    have A_b595 := A_b595.keep K654 nin0
    have hz657 : Lo n0 h653.size := Lo.keep hz647 K654
    have KK658 := KK648.trans K654 (fun x hx => nomatch hx)
    refine g_putO (i := 10) (vs' := [(.ref b567), (.ref b581), (.ref b595), (.long (-9223372036854775808 : Int64)), (.long (1 : Int64)), (.long (9223372036854775807 : Int64)), (.long (-9223372036854775808 : Int64)), (.int p2), (.int wv), (.long j641), (.ref b655), .null, .null, .null, .null, (.int (0 : Int32)), (.int (0 : Int32))]) X652 C O_a1 (CF_CT hw) rfl rfl rfl ga_a1 (host := "") (Or.inl (hw _ (List.mem_of_getElem? (i := 35) rfl))) (Or.inr ⟨(hw _ (List.mem_of_getElem? (i := 36) rfl)), rfl, rfl⟩) (ty := (.array .long)) (by decide) rfl rfl d1_105 rfl (fun T659 h661 X660 O_a1 K662 => ?_)
    have A_b567 := A_b567.keep K662 (ninN (NE.symm ne_a1_b567) nin0)
    have A_b581 := A_b581.keep K662 (ninN (NE.symm ne_a1_b581) nin0)
    have A_b595 := A_b595.keep K662 (ninN (NE.symm ne_a1_b595) nin0)
    have A_b655 := A_b655.keep K662 (ninN (NE.symm ne_a1_b655) nin0)
    have hz663 : Lo n0 h661.size := Lo.keep hz657 K662
    have KK664 := KK658.trans K662 (allS (Or.inl (List.mem_of_getElem? (i := 0) rfl)) all0)
    refine g_aloadN X660 C d1_108 rfl rfl rfl ?_
    refine g_aloadN X660 C d1_109 rfl rfl rfl ?_
    refine g_getO (i := 8) X660 C O_a1 rfl rfl (host := "") (Or.inl (hw _ (List.mem_of_getElem? (i := 31) rfl))) d1_110 rfl (fun T665 X666 => ?_)
    refine g_newarr (n := ((n + 63) / 64)) (cap := 2) X666 C (hw _ (List.mem_of_getElem? (i := 9) rfl)) hwv (by omega) (by decide) (by decide) (by decide) d1_113 rfl (fun T667 h669 b671 hb672 X668 A_b671 K670 => ?_)
    have A_b671 : Ar Z h669 b671 .long ((n + 63) / 64) (fun _ => .long 0) := A_b671
    have ne_a1_b671 : NE a1 b671 := hb672.ne O_a1.lt
    have ne_b567_b671 : NE b567 b671 := hb672.ne A_b567.lt
    have ne_b581_b671 : NE b581 b671 := hb672.ne A_b581.lt
    have ne_b595_b671 : NE b595 b671 := hb672.ne A_b595.lt
    have ne_b655_b671 : NE b655 b671 := hb672.ne A_b655.lt
    have ga_b671 : Lo n0 b671 := Sz.lo hb672 hz663
    have sz_b671 : Lo h0.size b671 := Sz.lo hb672 (KK664.1)
    have O_a1 := O_a1.keep K670 nin0
    have A_b567 := A_b567.keep K670 nin0
    have A_b581 := A_b581.keep K670 nin0
    have A_b595 := A_b595.keep K670 nin0
    have A_b655 := A_b655.keep K670 nin0
    have hz673 : Lo n0 h669.size := Lo.keep hz663 K670
    have KK674 := KK664.trans K670 (fun x hx => nomatch hx)
    refine g_putO (i := 11) (vs' := [(.ref b567), (.ref b581), (.ref b595), (.long (-9223372036854775808 : Int64)), (.long (1 : Int64)), (.long (9223372036854775807 : Int64)), (.long (-9223372036854775808 : Int64)), (.int p2), (.int wv), (.long j641), (.ref b655), (.ref b671), .null, .null, .null, (.int (0 : Int32)), (.int (0 : Int32))]) X668 C O_a1 (CF_CT hw) rfl rfl rfl ga_a1 (host := "") (Or.inl (hw _ (List.mem_of_getElem? (i := 37) rfl))) (Or.inr ⟨(hw _ (List.mem_of_getElem? (i := 38) rfl)), rfl, rfl⟩) (ty := (.array .long)) (by decide) rfl rfl d1_115 rfl (fun T675 h677 X676 O_a1 K678 => ?_)
    have A_b567 := A_b567.keep K678 (ninN (NE.symm ne_a1_b567) nin0)
    have A_b581 := A_b581.keep K678 (ninN (NE.symm ne_a1_b581) nin0)
    have A_b595 := A_b595.keep K678 (ninN (NE.symm ne_a1_b595) nin0)
    have A_b655 := A_b655.keep K678 (ninN (NE.symm ne_a1_b655) nin0)
    have A_b671 := A_b671.keep K678 (ninN (NE.symm ne_a1_b671) nin0)
    have hz679 : Lo n0 h677.size := Lo.keep hz673 K678
    have KK680 := KK674.trans K678 (allS (Or.inl (List.mem_of_getElem? (i := 0) rfl)) all0)
    refine g_aloadN X676 C d1_118 rfl rfl rfl ?_
    refine g_aloadN X676 C d1_119 rfl rfl rfl ?_
    refine g_getO (i := 8) X676 C O_a1 rfl rfl (host := "") (Or.inl (hw _ (List.mem_of_getElem? (i := 31) rfl))) d1_120 rfl (fun T681 X682 => ?_)
    refine g_newarr (n := ((n + 63) / 64)) (cap := 2) X682 C (hw _ (List.mem_of_getElem? (i := 9) rfl)) hwv (by omega) (by decide) (by decide) (by decide) d1_123 rfl (fun T683 h685 b687 hb688 X684 A_b687 K686 => ?_)
    have A_b687 : Ar Z h685 b687 .long ((n + 63) / 64) (fun _ => .long 0) := A_b687
    have ne_a1_b687 : NE a1 b687 := hb688.ne O_a1.lt
    have ne_b567_b687 : NE b567 b687 := hb688.ne A_b567.lt
    have ne_b581_b687 : NE b581 b687 := hb688.ne A_b581.lt
    have ne_b595_b687 : NE b595 b687 := hb688.ne A_b595.lt
    have ne_b655_b687 : NE b655 b687 := hb688.ne A_b655.lt
    have ne_b671_b687 : NE b671 b687 := hb688.ne A_b671.lt
    have ga_b687 : Lo n0 b687 := Sz.lo hb688 hz679
    have sz_b687 : Lo h0.size b687 := Sz.lo hb688 (KK680.1)
    have O_a1 := O_a1.keep K686 nin0
    have A_b567 := A_b567.keep K686 nin0
    have A_b581 := A_b581.keep K686 nin0
    have A_b595 := A_b595.keep K686 nin0
    have A_b655 := A_b655.keep K686 nin0
    have A_b671 := A_b671.keep K686 nin0
    have hz689 : Lo n0 h685.size := Lo.keep hz679 K686
    have KK690 := KK680.trans K686 (fun x hx => nomatch hx)
    refine g_putO (i := 12) (vs' := [(.ref b567), (.ref b581), (.ref b595), (.long (-9223372036854775808 : Int64)), (.long (1 : Int64)), (.long (9223372036854775807 : Int64)), (.long (-9223372036854775808 : Int64)), (.int p2), (.int wv), (.long j641), (.ref b655), (.ref b671), (.ref b687), .null, .null, (.int (0 : Int32)), (.int (0 : Int32))]) X684 C O_a1 (CF_CT hw) rfl rfl rfl ga_a1 (host := "") (Or.inl (hw _ (List.mem_of_getElem? (i := 39) rfl))) (Or.inr ⟨(hw _ (List.mem_of_getElem? (i := 40) rfl)), rfl, rfl⟩) (ty := (.array .long)) (by decide) rfl rfl d1_125 rfl (fun T691 h693 X692 O_a1 K694 => ?_)
    have A_b567 := A_b567.keep K694 (ninN (NE.symm ne_a1_b567) nin0)
    have A_b581 := A_b581.keep K694 (ninN (NE.symm ne_a1_b581) nin0)
    have A_b595 := A_b595.keep K694 (ninN (NE.symm ne_a1_b595) nin0)
    have A_b655 := A_b655.keep K694 (ninN (NE.symm ne_a1_b655) nin0)
    have A_b671 := A_b671.keep K694 (ninN (NE.symm ne_a1_b671) nin0)
    have A_b687 := A_b687.keep K694 (ninN (NE.symm ne_a1_b687) nin0)
    have hz695 : Lo n0 h693.size := Lo.keep hz689 K694
    have KK696 := KK690.trans K694 (allS (Or.inl (List.mem_of_getElem? (i := 0) rfl)) all0)
    refine g_aloadN X692 C d1_128 rfl rfl rfl ?_
    refine g_aloadN X692 C d1_129 rfl rfl rfl ?_
    refine g_getO (i := 8) X692 C O_a1 rfl rfl (host := "") (Or.inl (hw _ (List.mem_of_getElem? (i := 31) rfl))) d1_130 rfl (fun T697 X698 => ?_)
    refine g_newarr (n := ((n + 63) / 64)) (cap := 2) X698 C (hw _ (List.mem_of_getElem? (i := 9) rfl)) hwv (by omega) (by decide) (by decide) (by decide) d1_133 rfl (fun T699 h701 b703 hb704 X700 A_b703 K702 => ?_)
    have A_b703 : Ar Z h701 b703 .long ((n + 63) / 64) (fun _ => .long 0) := A_b703
    have ne_a1_b703 : NE a1 b703 := hb704.ne O_a1.lt
    have ne_b567_b703 : NE b567 b703 := hb704.ne A_b567.lt
    have ne_b581_b703 : NE b581 b703 := hb704.ne A_b581.lt
    have ne_b595_b703 : NE b595 b703 := hb704.ne A_b595.lt
    have ne_b655_b703 : NE b655 b703 := hb704.ne A_b655.lt
    have ne_b671_b703 : NE b671 b703 := hb704.ne A_b671.lt
    have ne_b687_b703 : NE b687 b703 := hb704.ne A_b687.lt
    have ga_b703 : Lo n0 b703 := Sz.lo hb704 hz695
    have sz_b703 : Lo h0.size b703 := Sz.lo hb704 (KK696.1)
    have O_a1 := O_a1.keep K702 nin0
    have A_b567 := A_b567.keep K702 nin0
    have A_b581 := A_b581.keep K702 nin0
    have A_b595 := A_b595.keep K702 nin0
    have A_b655 := A_b655.keep K702 nin0
    have A_b671 := A_b671.keep K702 nin0
    have A_b687 := A_b687.keep K702 nin0
    have hz705 : Lo n0 h701.size := Lo.keep hz695 K702
    have KK706 := KK696.trans K702 (fun x hx => nomatch hx)
    refine g_putO (i := 13) (vs' := [(.ref b567), (.ref b581), (.ref b595), (.long (-9223372036854775808 : Int64)), (.long (1 : Int64)), (.long (9223372036854775807 : Int64)), (.long (-9223372036854775808 : Int64)), (.int p2), (.int wv), (.long j641), (.ref b655), (.ref b671), (.ref b687), (.ref b703), .null, (.int (0 : Int32)), (.int (0 : Int32))]) X700 C O_a1 (CF_CT hw) rfl rfl rfl ga_a1 (host := "") (Or.inl (hw _ (List.mem_of_getElem? (i := 41) rfl))) (Or.inr ⟨(hw _ (List.mem_of_getElem? (i := 42) rfl)), rfl, rfl⟩) (ty := (.array .long)) (by decide) rfl rfl d1_135 rfl (fun T707 h709 X708 O_a1 K710 => ?_)
    have A_b567 := A_b567.keep K710 (ninN (NE.symm ne_a1_b567) nin0)
    have A_b581 := A_b581.keep K710 (ninN (NE.symm ne_a1_b581) nin0)
    have A_b595 := A_b595.keep K710 (ninN (NE.symm ne_a1_b595) nin0)
    have A_b655 := A_b655.keep K710 (ninN (NE.symm ne_a1_b655) nin0)
    have A_b671 := A_b671.keep K710 (ninN (NE.symm ne_a1_b671) nin0)
    have A_b687 := A_b687.keep K710 (ninN (NE.symm ne_a1_b687) nin0)
    have A_b703 := A_b703.keep K710 (ninN (NE.symm ne_a1_b703) nin0)
    have hz711 : Lo n0 h709.size := Lo.keep hz705 K710
    have KK712 := KK706.trans K710 (allS (Or.inl (List.mem_of_getElem? (i := 0) rfl)) all0)
    refine g_aloadN X708 C d1_138 rfl rfl rfl ?_
    refine g_iloadN X708 C d1_139 rfl rfl ?_
    refine g_iconst (v := 1) X708 C d1_140 (by decide) rfl ?_
    refine g_iadd X708 C d1_141 rfl ?_
    refine g_newR (n := (n + 1)) (cap := 129) X708 C (hw _ (List.mem_of_getElem? (i := 43) rfl)) (hw _ (List.mem_of_getElem? (i := 44) rfl)) (addn hn (by decide) (by omega)) (by omega) (by decide) (by decide) (by decide) d1_142 rfl (fun T713 h715 b717 hb718 X714 A_b717 K716 => ?_)
    have ne_a1_b717 : NE a1 b717 := hb718.ne O_a1.lt
    have ne_b567_b717 : NE b567 b717 := hb718.ne A_b567.lt
    have ne_b581_b717 : NE b581 b717 := hb718.ne A_b581.lt
    have ne_b595_b717 : NE b595 b717 := hb718.ne A_b595.lt
    have ne_b655_b717 : NE b655 b717 := hb718.ne A_b655.lt
    have ne_b671_b717 : NE b671 b717 := hb718.ne A_b671.lt
    have ne_b687_b717 : NE b687 b717 := hb718.ne A_b687.lt
    have ne_b703_b717 : NE b703 b717 := hb718.ne A_b703.lt
    have ga_b717 : Lo n0 b717 := Sz.lo hb718 hz711
    have sz_b717 : Lo h0.size b717 := Sz.lo hb718 (KK712.1)
    have O_a1 := O_a1.keep K716 nin0
    have A_b567 := A_b567.keep K716 nin0
    have A_b581 := A_b581.keep K716 nin0
    have A_b595 := A_b595.keep K716 nin0
    have A_b655 := A_b655.keep K716 nin0
    have A_b671 := A_b671.keep K716 nin0
    have A_b687 := A_b687.keep K716 nin0
    have A_b703 := A_b703.keep K716 nin0
    have hz719 : Lo n0 h715.size := Lo.keep hz711 K716
    have KK720 := KK712.trans K716 (fun x hx => nomatch hx)
    refine g_putO (i := 14) (vs' := [(.ref b567), (.ref b581), (.ref b595), (.long (-9223372036854775808 : Int64)), (.long (1 : Int64)), (.long (9223372036854775807 : Int64)), (.long (-9223372036854775808 : Int64)), (.int p2), (.int wv), (.long j641), (.ref b655), (.ref b671), (.ref b687), (.ref b703), (.ref b717), (.int (0 : Int32)), (.int (0 : Int32))]) X714 C O_a1 (CF_CT hw) rfl rfl rfl ga_a1 (host := "") (Or.inl (hw _ (List.mem_of_getElem? (i := 45) rfl))) (Or.inr ⟨(hw _ (List.mem_of_getElem? (i := 46) rfl)), rfl, rfl⟩) (ty := (.array (.object "org/foreslot/planning/ClusterTimeline$Starts"))) (by decide) rfl rfl d1_145 rfl (fun T721 h723 X722 O_a1 K724 => ?_)
    have A_b567 := A_b567.keep K724 (ninN (NE.symm ne_a1_b567) nin0)
    have A_b581 := A_b581.keep K724 (ninN (NE.symm ne_a1_b581) nin0)
    have A_b595 := A_b595.keep K724 (ninN (NE.symm ne_a1_b595) nin0)
    have A_b655 := A_b655.keep K724 (ninN (NE.symm ne_a1_b655) nin0)
    have A_b671 := A_b671.keep K724 (ninN (NE.symm ne_a1_b671) nin0)
    have A_b687 := A_b687.keep K724 (ninN (NE.symm ne_a1_b687) nin0)
    have A_b703 := A_b703.keep K724 (ninN (NE.symm ne_a1_b703) nin0)
    have A_b717 := A_b717.keep K724 (ninN (NE.symm ne_a1_b717) nin0)
    have hz725 : Lo n0 h723.size := Lo.keep hz719 K724
    have KK726 := KK720.trans K724 (allS (Or.inl (List.mem_of_getElem? (i := 0) rfl)) all0)
    rw [hRS]
    refine g_retV X722 C d1_148 ?_ (by decide) (by decide)
    exact ⟨rfl, KK726, b567, b581, b595, b655, b671, b687, b703, b717, wv, j641, hwn, hlw, sz_b567, sz_b581, sz_b595, sz_b655, ne_b567_b581, ne_b567_b595, ne_b581_b595, ne_b567_b655, ne_b581_b655, ne_b595_b655, O_a1, A_b567, A_b581, A_b595, A_b655⟩
  refine g_if_ne (a := (p2 % (64 : Int32)).toInt) X636 C d1_78 rfl (by decide) (pT := 87) (by decide) (pF := 81) rfl (fun hc78 => ?_) (fun hc78 => ?_)
  ·
    refine g_lconst (v := 1) X636 C d1_87 (by decide) rfl ?_
    refine g_iloadN X636 C d1_88 rfl rfl ?_
    refine g_bipush (v := 64) X636 C d1_89 (by decide) rfl ?_
    refine g_irem X636 C d1_91 (by decide) rfl ?_
    refine g_lshl X636 C d1_92 rfl ?_
    refine g_lconst (v := 1) X636 C d1_93 (by decide) rfl ?_
    refine g_lsub X636 C d1_94 rfl ?_
    exact J95_641 (((1 : Int64) <<< ((p2 % (64 : Int32)) &&& 0x3f).toInt64) - (1 : Int64)) (Or.inl (⟨hc78, rfl⟩))
  ·
    refine g_ldcJ X636 C (hw _ (List.mem_of_getElem? (i := 144) rfl)) d1_81 rfl ?_
    refine g_goto (pc' := 95) X636 C d1_84 (by decide) (by decide) ?_
    exact J95_641 (-1 : Int64) (Or.inr (⟨hc78, rfl, by decide⟩))
theorem ef_rmM (m : MethodId) (a1 : Addr) (a2 : Addr) : entryFrame m #[(.ref a1), (.ref a2)] 7 = mkF m 0 #[.val (.ref a1), .val (.ref a2), .unset, .unset, .unset, .unset, .unset] [] := by first | (simp [entryFrame, mkF, argsToLocals, Value.category]; done) | rfl
set_option maxRecDepth 65536 in
set_option maxHeartbeats 40000000 in
theorem rmM (l : Launch) (Z : State) (a0 : Array Value) (hw : ∀ d ∈ tables_1, d.before a0 Z = true) (a1 a2 : Addr) (tm sr ub fd c5 c6 c7 c8 : Addr) (nn wv : Int32) (lw : Int64) (bl : Int32) (sz : Int32) (wn k : Nat) (lk : Int32) (nd : Nat → Int32) (h0 : Heap) (n0 : Nat) (hz0 : Lo n0 h0.size) (hwn : own_W wn wv) (hk : (k = 1 ∧ lk = 1) ∨ (k = 2 ∧ lk = 2)) (hnode : ∀ i, i < k → 0 ≤ (nd i).toInt ∧ (nd i).toInt / 64 < wn) (O_a1 : Ob Z h0 a1 "org/foreslot/planning/ClusterTimeline" NS_CT [(.ref tm), (.ref sr), (.ref ub), (.long (-9223372036854775808 : Int64)), (.long (1 : Int64)), (.long (9223372036854775807 : Int64)), (.long (-9223372036854775808 : Int64)), (.int nn), (.int wv), (.long lw), (.ref fd), (.ref c5), (.ref c6), (.ref c7), (.ref c8), (.int sz), (.int bl)]) (A_a2 : Ar Z h0 a2 .int k (fun i => .int (nd i))) (ws : List Jvm.Cond) :
    Ctr l (⟨"org/foreslot/planning/ClusterTimeline", "maskOf", "([I)[J"⟩ : MethodName) prog_29_method_7_code 7 (some (.array .long)) ({ frames := 0, cells := 1, slots := 2, locals := 0 } : Room) Z n0 #[(.ref a1), (.ref a2)] h0 (fun v h => ∃ b, v = some (.ref b) ∧ Keep h0 h [] ∧ Lo h0.size b ∧ Ar Z h b .long wn (fun q => .long (own_m nd q k))) ws := by
  refine ctr_of (plainFor_of_name pn_1) ?_
  intro p e s m below meth c T0 X0 C
  refine go_cast (ef_rmM m a1 a2) ?_
  obtain ⟨RS, hRS⟩ : ∃ RS, RS = Rs s below n0 (fun v h => ∃ b, v = some (.ref b) ∧ Keep h0 h [] ∧ Lo h0.size b ∧ Ar Z h b .long wn (fun q => .long (own_m nd q k))) ({ frames := 0, cells := 1, slots := 2, locals := 0 } : Room).cells ({ frames := 0, cells := 1, slots := 2, locals := 0 } : Room).slots := ⟨_, rfl⟩
  suffices HG : Go p e below RS T0 (mkF m 0 #[.val (.ref a1), .val (.ref a2), .unset, .unset, .unset, .unset, .unset] []) by rw [hRS] at HG; exact HG
  have hwv := hwn.v; have hw2 := hwn.le; have hlki : lk.toInt = k := by rcases hk with ⟨rfl, rfl⟩ | ⟨rfl, rfl⟩ <;> decide
  show Go p e below RS T0 (mkF m 0 #[.val (.ref a1), .val (.ref a2), .unset, .unset, .unset, .unset, .unset] [])
  refine g_aloadN X0 C d4_0 rfl rfl rfl ?_
  refine g_getO (i := 8) X0 C O_a1 rfl rfl (host := "") (Or.inl (hw _ (List.mem_of_getElem? (i := 31) rfl))) d4_1 rfl (fun T727 X728 => ?_)
  refine g_newarr (n := wn) (cap := 2) X728 C (hw _ (List.mem_of_getElem? (i := 9) rfl)) hwv (by omega) (by decide) (by decide) (by decide) d4_4 rfl (fun T729 h731 b733 hb734 X730 A_b733 K732 => ?_)
  have A_b733 : Ar Z h731 b733 .long wn (fun _ => .long 0) := A_b733
  have ne_a1_b733 : NE a1 b733 := hb734.ne O_a1.lt
  have ne_a2_b733 : NE a2 b733 := hb734.ne A_a2.lt
  have ga_b733 : Lo n0 b733 := Sz.lo hb734 hz0
  have sz_b733 : Lo h0.size b733 := Sz.lo hb734 ((Keep.refl h0 []).1)
  have O_a1 := O_a1.keep K732 nin0
  have A_a2 := A_a2.keep K732 nin0
  have hz735 : Lo n0 h731.size := Lo.keep hz0 K732
  have KK736 := (Keep.refl h0 []).trans K732 (fun x hx => nomatch hx)
  refine g_astoreN (L' := #[.val (.ref a1), .val (.ref a2), .val (.ref b733), .unset, .unset, .unset, .unset]) X730 C d4_6 rfl rfl rfl ?_
  refine g_aloadN X730 C d4_7 rfl rfl rfl ?_
  refine g_astoreN (L' := #[.val (.ref a1), .val (.ref a2), .val (.ref b733), .val (.ref a2), .unset, .unset, .unset]) X730 C d4_8 rfl rfl rfl ?_
  refine g_aloadN X730 C d4_9 rfl rfl rfl ?_
  refine g_arrlen (z := lk) X730 C A_a2 (by rcases hk with ⟨rfl, rfl⟩ | ⟨rfl, rfl⟩ <;> rfl) d4_10 rfl ?_
  refine g_istore (L' := #[.val (.ref a1), .val (.ref a2), .val (.ref b733), .val (.ref a2), .val (.int lk), .unset, .unset]) X730 C d4_11 rfl rfl rfl ?_
  refine g_iconst (v := 0) X730 C d4_13 (by decide) rfl ?_
  refine g_istore (L' := #[.val (.ref a1), .val (.ref a2), .val (.ref b733), .val (.ref a2), .val (.int lk), .val (.int (0 : Int32)), .unset]) X730 C d4_14 rfl rfl rfl ?_
  have LP : ∀ (d i : Nat) (x : Int32) (s6 : Slot) (T : State) (h : Heap), One s6 → x.toInt = i → i + d = k → St p l e ({ frames := 0, cells := 1, slots := 2, locals := 0 } : Room) s m #[(.ref a1), (.ref a2)] below meth c n0 T h 1 2 → Ar Z h b733 .long wn (fun q => .long (own_m nd q i)) → Ar Z h a2 .int k (fun i => .int (nd i)) → Keep h0 h [] → Go p e below RS T (mkF m 16 #[.val (.ref a1), .val (.ref a2), .val (.ref b733), .val (.ref a2), .val (.int lk), .val (.int x), s6] []) := by
    intro d
    induction d with
    | zero =>
      intro i x s6 T h hs6 hx hd X A_m A_a2 KK
      refine g_iload X C d4_16 rfl rfl ?_
      refine g_iload X C d4_18 rfl rfl ?_
      refine g_icmp_ge (a := x.toInt) (b := lk.toInt) X C d4_20 rfl rfl (by decide) (pT := 49) (by decide) (pF := 23) rfl (fun hc20 => ?_) (fun hc20 => absurd hc20 (by omega))
      refine g_aloadN X C d4_49 rfl rfl rfl ?_
      rw [hRS]
      refine g_retA X C d4_50 rfl rfl ?_ (by decide) (by decide)
      exact ⟨_, rfl, KK, sz_b733, by rw [show k = i by omega]; exact A_m⟩
    | succ d ih =>
      intro i x s6 T h hs6 hx hd X A_m A_a2 KK
      refine g_iload X C d4_16 rfl rfl ?_
      refine g_iload X C d4_18 rfl rfl ?_
      refine g_icmp_ge (a := x.toInt) (b := lk.toInt) X C d4_20 rfl rfl (by decide) (pT := 49) (by decide) (pF := 23) rfl (fun hc20 => absurd hc20 (by omega)) (fun hc20 => ?_)
      refine g_aloadN X C d4_23 rfl rfl rfl ?_
      refine g_iload X C d4_24 rfl rfl ?_
      refine g_iaload (i := i) (v := (.int (nd i))) X C A_a2 hx (by omega) rfl d4_26 rfl ?_
      obtain ⟨i737, h_i737⟩ : ∃ z, z = (nd i) := ⟨_, rfl⟩
      have hnd := hnode i (by omega)
      rw [← h_i737] at hnd
      refine g_istore (L' := #[.val (.ref a1), .val (.ref a2), .val (.ref b733), .val (.ref a2), .val (.int lk), .val (.int x), .val (.int i737)]) X C d4_27 h_i737 (os_7_6 hs6) rfl ?_
      refine g_aloadN X C d4_29 rfl rfl rfl ?_
      refine g_iload X C d4_30 rfl rfl ?_
      refine g_bipush (v := 64) X C d4_32 (by decide) rfl ?_
      refine g_idiv X C d4_34 (by decide) rfl ?_
      obtain ⟨qi, h_qi⟩ : ∃ z, z = (i737 / (64 : Int32)) := ⟨_, rfl⟩
      rw [← h_qi]
      obtain ⟨qn, hqn⟩ : ∃ qn : Nat, qi.toInt = qn ∧ (qn : Int) = i737.toInt / 64 ∧ qn < wn := by
        have g1 := (c_idiv i737 64 64 (by decide) (by decide)).1 (by omega)
        rw [← h_qi] at g1; exact ⟨qi.toInt.toNat, by omega, by omega, by omega⟩
      refine g_dup2 X C d4_35 rfl rfl rfl ?_
      refine g_laload (i := qn) (v := (.long (own_m nd qn i))) X C A_m hqn.1 hqn.2.2 rfl d4_36 rfl ?_
      refine g_lconst (v := 1) X C d4_37 (by decide) rfl ?_
      refine g_iload X C d4_38 rfl rfl ?_
      refine g_lshl X C d4_40 rfl ?_
      refine g_lor X C d4_41 rfl ?_
      refine g_lastore (i := qn) X C A_m hqn.1 hqn.2.2 ga_b733 d4_42 rfl (fun T738 h740 X739 A_m K741 => ?_)
      have A_a2 := A_a2.keep K741 (ninN ne_a2_b733 nin0)
      have hz742 : Lo n0 h740.size := Lo.keep (Nat.le_trans hz0 KK.1) K741
      have KK743 := KK.trans K741 (allS (Or.inr sz_b733) all0)
      obtain ⟨i744, h_i744⟩ : ∃ z, z = (x + (1 : Int32)) := ⟨_, rfl⟩
      have hi_i744 : i744.toInt = (i + 1 : Nat) := by
          have g1 := c_iadd x 1; have g2 := rng32 i744; have g3 : (1 : Int32).toInt = 1 := by decide
          rw [← h_i744] at g1; omega
      refine g_iinc (L' := #[.val (.ref a1), .val (.ref a2), .val (.ref b733), .val (.ref a2), .val (.int lk), .val (.int i744), .val (.int i737)]) X739 C d4_43 rfl h_i744 rfl rfl ?_
      refine g_goto (pc' := 16) X739 C d4_46 (by decide) (by decide) ?_
      refine ih (i + 1) _ _ _ _ (One.val rfl) hi_i744 (by omega) X739 (A_m.congr (fun j hj => ?_)) A_a2 KK743
      simp only [own_m]
      by_cases q : j = qn
      · subst q; rw [if_pos rfl, if_pos (by rw [← h_i737]; omega), h_i737]; rfl
      · rw [if_neg q, if_neg (by rw [← h_i737]; omega)]
  exact LP k 0 _ _ _ _ One.u (by decide) (by omega) X730 (A_b733.congr (fun j hj => rfl)) A_a2 KK736
theorem ef_rmB (m : MethodId) (a1 : Addr) (p2 : Int64) (p3 : Int64) (a4 : Addr) : entryFrame m #[(.ref a1), (.long p2), (.long p3), (.ref a4)] 6 = mkF m 0 #[.val (.ref a1), .val (.long p2), .second, .val (.long p3), .second, .val (.ref a4)] [] := by first | (simp [entryFrame, mkF, argsToLocals, Value.category]; done) | rfl
set_option maxRecDepth 65536 in
set_option maxHeartbeats 40000000 in
theorem rmB (l : Launch) (Z : State) (a0 : Array Value) (hw : ∀ d ∈ tables_1, d.before a0 Z = true) (a1 : Addr) (p2 p3 : Int64) (a4 : Addr) (tm sr ub fd c5 c6 c7 c8 : Addr) (nn wv : Int32) (lw : Int64) (bl : Int32) (wn k : Nat) (lk : Int32) (nd : Nat → Int32) (h0 : Heap) (n0 : Nat) (hz0 : Lo n0 h0.size) (hwn : own_W wn wv) (hk : (k = 1 ∧ lk = 1) ∨ (k = 2 ∧ lk = 2)) (hnn : 1 ≤ nn.toInt ∧ nn.toInt ≤ 128) (hp2 : p2.toInt = 0) (hp3 : p3.toInt = 10) (ga_a1 : Lo n0 a1) (ga_tm : Lo n0 tm) (ga_sr : Lo n0 sr) (ga_ub : Lo n0 ub) (ne_a1_tm : NE a1 tm) (ne_a1_sr : NE a1 sr) (ne_a1_ub : NE a1 ub) (ne_tm_sr : NE tm sr) (ne_tm_ub : NE tm ub) (ne_sr_ub : NE sr ub) (O_a1 : Ob Z h0 a1 "org/foreslot/planning/ClusterTimeline" NS_CT [(.ref tm), (.ref sr), (.ref ub), (.long (-9223372036854775808 : Int64)), (.long (1 : Int64)), (.long (9223372036854775807 : Int64)), (.long (-9223372036854775808 : Int64)), (.int nn), (.int wv), (.long lw), (.ref fd), (.ref c5), (.ref c6), (.ref c7), (.ref c8), (.int (0 : Int32)), (.int bl)]) (A_tm : Ar Z h0 tm .long 16 (fun _ => .long 0)) (A_sr : ArR Z h0 sr "org/foreslot/planning/ClusterTimeline$Stretch" 16 (fun _ => .null)) (A_ub : Ar Z h0 ub .int 16 (fun _ => .int 0)) (hgm : ∃ q, q < wn ∧ own_m nd q k ≠ 0) (hnode : ∀ i, i < k → 0 ≤ (nd i).toInt ∧ (nd i).toInt / 64 < wn) (ne_a4_a1 : NE a4 a1) (ne_a4_tm : NE a4 tm) (ne_a4_sr : NE a4 sr) (ne_a4_ub : NE a4 ub) (A_a4 : Ar Z h0 a4 .int k (fun i => .int (nd i))) (ws : List Jvm.Cond) :
    Ctr l (⟨"org/foreslot/planning/ClusterTimeline", "book", "(JJ[I)V"⟩ : MethodName) prog_29_method_2_code 6 none ({ frames := 4, cells := 7, slots := 22, locals := 120 } : Room) Z n0 #[(.ref a1), (.long p2), (.long p3), (.ref a4)] h0 (fun v h => v = none ∧ Keep h0 h [a1, tm, sr, ub] ∧ ∃ (s0 b0 e0 s1 b1 e1 : Addr) (u0 : Int32), u0.toInt = nn.toInt - k ∧ Lo h0.size s0 ∧ Lo h0.size b0 ∧ Lo h0.size e0 ∧ Lo h0.size s1 ∧ Lo h0.size b1 ∧ Lo h0.size e1 ∧ Ob Z h a1 "org/foreslot/planning/ClusterTimeline" NS_CT [(.ref tm), (.ref sr), (.ref ub), (.long (-9223372036854775808 : Int64)), (.long (1 : Int64)), (.long (9223372036854775807 : Int64)), (.long (-9223372036854775808 : Int64)), (.int nn), (.int wv), (.long lw), (.ref fd), (.ref c5), (.ref c6), (.ref c7), (.ref c8), (.int (2 : Int32)), (.int bl)] ∧ Ar Z h tm .long 16 (fun k => .long (if k = 1 then p3 else if k = 0 then p2 else 0)) ∧ ArR Z h sr "org/foreslot/planning/ClusterTimeline$Stretch" 16 (fun k => if k = 1 then .ref s1 else if k = 0 then .ref s0 else .null) ∧ Ar Z h ub .int 16 (fun k => .int (if k = 0 then u0 else if k = 1 then nn else 0)) ∧ Ob Z h s0 "org/foreslot/planning/ClusterTimeline$Stretch" NS_SR [(.ref b0), (.ref e0), .null, .null, .null] ∧ Ob Z h s1 "org/foreslot/planning/ClusterTimeline$Stretch" NS_SR [(.ref b1), (.ref e1), .null, .null, .null] ∧ Ar Z h b0 .long wn (fun j_ => .long ((fun q => own_m nd q k) j_)) ∧ Ar Z h e0 .long wn (fun j_ => .long ((fun _ => 0) j_)) ∧ Ar Z h b1 .long wn (fun j_ => .long ((fun _ => 0) j_)) ∧ Ar Z h e1 .long wn (fun j_ => .long ((fun q => own_m nd q k) j_))) ws := by
  refine ctr_of (plainFor_of_name pn_1) ?_
  intro p e s m below meth c T0 X0 C
  refine go_cast (ef_rmB m a1 p2 p3 a4) ?_
  obtain ⟨RS, hRS⟩ : ∃ RS, RS = Rs s below n0 (fun v h => v = none ∧ Keep h0 h [a1, tm, sr, ub] ∧ ∃ (s0 b0 e0 s1 b1 e1 : Addr) (u0 : Int32), u0.toInt = nn.toInt - k ∧ Lo h0.size s0 ∧ Lo h0.size b0 ∧ Lo h0.size e0 ∧ Lo h0.size s1 ∧ Lo h0.size b1 ∧ Lo h0.size e1 ∧ Ob Z h a1 "org/foreslot/planning/ClusterTimeline" NS_CT [(.ref tm), (.ref sr), (.ref ub), (.long (-9223372036854775808 : Int64)), (.long (1 : Int64)), (.long (9223372036854775807 : Int64)), (.long (-9223372036854775808 : Int64)), (.int nn), (.int wv), (.long lw), (.ref fd), (.ref c5), (.ref c6), (.ref c7), (.ref c8), (.int (2 : Int32)), (.int bl)] ∧ Ar Z h tm .long 16 (fun k => .long (if k = 1 then p3 else if k = 0 then p2 else 0)) ∧ ArR Z h sr "org/foreslot/planning/ClusterTimeline$Stretch" 16 (fun k => if k = 1 then .ref s1 else if k = 0 then .ref s0 else .null) ∧ Ar Z h ub .int 16 (fun k => .int (if k = 0 then u0 else if k = 1 then nn else 0)) ∧ Ob Z h s0 "org/foreslot/planning/ClusterTimeline$Stretch" NS_SR [(.ref b0), (.ref e0), .null, .null, .null] ∧ Ob Z h s1 "org/foreslot/planning/ClusterTimeline$Stretch" NS_SR [(.ref b1), (.ref e1), .null, .null, .null] ∧ Ar Z h b0 .long wn (fun j_ => .long ((fun q => own_m nd q k) j_)) ∧ Ar Z h e0 .long wn (fun j_ => .long ((fun _ => 0) j_)) ∧ Ar Z h b1 .long wn (fun j_ => .long ((fun _ => 0) j_)) ∧ Ar Z h e1 .long wn (fun j_ => .long ((fun q => own_m nd q k) j_))) ({ frames := 4, cells := 7, slots := 22, locals := 120 } : Room).cells ({ frames := 4, cells := 7, slots := 22, locals := 120 } : Room).slots := ⟨_, rfl⟩
  suffices HG : Go p e below RS T0 (mkF m 0 #[.val (.ref a1), .val (.long p2), .second, .val (.long p3), .second, .val (.ref a4)] []) by rw [hRS] at HG; exact HG
  show Go p e below RS T0 (mkF m 0 #[.val (.ref a1), .val (.long p2), .second, .val (.long p3), .second, .val (.ref a4)] [])
  refine g_aloadN X0 C d3_0 rfl rfl rfl ?_
  refine g_lloadN X0 C d3_1 rfl rfl ?_
  refine g_lloadN X0 C d3_2 rfl rfl ?_
  refine g_aload X0 C d3_3 rfl rfl rfl ?_
  refine g_aloadN X0 C d3_5 rfl rfl rfl ?_
  refine g_aload X0 C d3_6 rfl rfl rfl ?_
  refine g_virtual (argsL := [(.ref a4)]) (rest := [(.ref a4), (.long p3), (.long p2), (.ref a1)]) (W := 6) (a := a1) X0 C (rmM l Z a0 hw a1 a4 tm sr ub fd c5 c6 c7 c8 nn wv lw bl (0 : Int32) wn k lk nd h0 n0 hz0 hwn hk hnode O_a1 A_a4 []) O_a1.1 (hw _ (List.mem_of_getElem? (i := 53) rfl)) (hw _ (List.mem_of_getElem? (i := 54) rfl)) (hw _ (List.mem_of_getElem? (i := 56) rfl)) (hw _ (List.mem_of_getElem? (i := 55) rfl)) (hw _ (List.mem_of_getElem? (i := 2) rfl)) (hw _ (List.mem_of_getElem? (i := 57) rfl)) (by decide) pd_7 rfl rfl rfl rfl rfl (by decide) (by decide) (by decide) (by decide) d3_8 rfl (fun r748 T745 h747 hQ749 X746 => ?_)
  obtain ⟨bm, rfl, KM, lo_bm, A_bm⟩ := hQ749
  have ne_a1_bm : NE a1 bm := lone O_a1.lt lo_bm
  have ne_tm_bm : NE tm bm := lone A_tm.lt lo_bm
  have ne_sr_bm : NE sr bm := lone A_sr.lt lo_bm
  have ne_ub_bm : NE ub bm := lone A_ub.lt lo_bm
  have ne_a4_bm : NE a4 bm := lone A_a4.lt lo_bm
  have ga_bm : Lo n0 bm := Lo.tr hz0 lo_bm
  have sz_bm : Lo h0.size bm := Lo.kt (Keep.refl h0 [a1, tm, sr, ub]) lo_bm
  have O_a1 := O_a1.keep KM nin0
  have A_tm := A_tm.keep KM nin0
  have A_sr := A_sr.keep KM nin0
  have A_ub := A_ub.keep KM nin0
  have A_a4 := A_a4.keep KM nin0
  have hz750 : Lo n0 h747.size := Lo.keep hz0 KM
  have KK751 := (Keep.refl h0 [a1, tm, sr, ub]).trans KM (fun x hx => nomatch hx)
  show Go p e below RS T745 (mkF m 11 #[.val (.ref a1), .val (.long p2), .second, .val (.long p3), .second, .val (.ref a4)] [(.ref bm), (.ref a4), (.long p3), (.long p2), (.ref a1)])
  refine g_iconst (v := 1) X746 C d3_11 (by decide) rfl ?_
  refine g_iconst (v := 1) X746 C d3_12 (by decide) rfl ?_
  refine g_private (argsL := [(.long p2), (.long p3), (.ref a4), (.ref bm), (.int (1 : Int32)), (.int (1 : Int32))]) (rest := []) (W := 0) (a := a1) X746 C (rmCh l Z a0 hw a1 p2 p3 a4 bm (1 : Int32) (1 : Int32) tm sr ub fd c5 c6 c7 c8 nn wv lw bl wn k lk nd (fun q => own_m nd q k) h747 n0 hz750 hwn hk hnn hp2 hp3 ga_a1 ga_tm ga_sr ga_ub ne_a1_tm ne_a1_sr ne_a1_ub ne_tm_sr ne_tm_ub ne_sr_ub O_a1 A_tm A_sr A_ub (by decide) (by decide) hgm ne_a4_a1 (NE.symm ne_a1_bm) ne_a4_tm (NE.symm ne_tm_bm) ne_a4_sr (NE.symm ne_sr_bm) ne_a4_ub (NE.symm ne_ub_bm) A_a4 A_bm []) O_a1.1 (hw _ (List.mem_of_getElem? (i := 58) rfl)) (hw _ (List.mem_of_getElem? (i := 59) rfl)) (hw _ (List.mem_of_getElem? (i := 60) rfl)) (hw _ (List.mem_of_getElem? (i := 1) rfl)) (hw _ (List.mem_of_getElem? (i := 2) rfl)) (hw _ (List.mem_of_getElem? (i := 61) rfl)) (by decide) pd_8 rfl rfl rfl rfl rfl (by decide) (by decide) (by decide) (by decide) d3_13 rfl (fun r755 T752 h754 hQ756 X753 => ?_)
  obtain ⟨rfl, KC, s0, b0, e0, s1, b1, e1, u0, hu0, lo_s0, lo_b0, lo_e0, lo_s1, lo_b1, lo_e1, HR⟩ := hQ756
  show Go p e below RS T752 (mkF m 16 #[.val (.ref a1), .val (.long p2), .second, .val (.long p3), .second, .val (.ref a4)] [])
  rw [hRS]
  refine g_retV X753 C d3_16 ?_ (by decide) (by decide)
  exact ⟨rfl, (KK751.trans KC (allS (Or.inl (List.mem_of_getElem? (i := 0) rfl)) (allS (Or.inl (List.mem_of_getElem? (i := 1) rfl)) (allS (Or.inl (List.mem_of_getElem? (i := 2) rfl)) (allS (Or.inl (List.mem_of_getElem? (i := 3) rfl)) all0))))), s0, b0, e0, s1, b1, e1, u0, hu0, Lo.kt KK751 lo_s0, Lo.kt KK751 lo_b0, Lo.kt KK751 lo_e0, Lo.kt KK751 lo_s1, Lo.kt KK751 lo_b1, Lo.kt KK751 lo_e1, HR⟩
theorem ef_rmNBn (m : MethodId) (a1 : Addr) (p2 : Int32) : entryFrame m #[(.ref a1), (.int p2)] 4 = mkF m 0 #[.val (.ref a1), .val (.int p2), .unset, .unset] [] := by first | (simp [entryFrame, mkF, argsToLocals, Value.category]; done) | rfl
set_option maxRecDepth 65536 in
set_option maxHeartbeats 40000000 in
theorem rmNBn (l : Launch) (Z : State) (a0 : Array Value) (hw : ∀ d ∈ tables_1, d.before a0 Z = true) (a1 : Addr) (p2 : Int32) (tm sr ub fd c5 c6 c7 c8 : Addr) (nn wv : Int32) (lw : Int64) (bl : Int32) (sz : Int32) (wn : Nat) (gf : Nat → Int64) (h0 : Heap) (n0 : Nat) (hz0 : Lo n0 h0.size) (hp2 : p2.toInt < 0) (hwn : own_W wn wv) (ga_fd : Lo n0 fd) (ne_a1_fd : NE a1 fd) (O_a1 : Ob Z h0 a1 "org/foreslot/planning/ClusterTimeline" NS_CT [(.ref tm), (.ref sr), (.ref ub), (.long (-9223372036854775808 : Int64)), (.long (1 : Int64)), (.long (9223372036854775807 : Int64)), (.long (-9223372036854775808 : Int64)), (.int nn), (.int wv), (.long lw), (.ref fd), (.ref c5), (.ref c6), (.ref c7), (.ref c8), (.int sz), (.int bl)]) (A_fd : Ar Z h0 fd .long wn (fun j_ => .long (gf j_))) (ws : List Jvm.Cond) :
    Ctr l (⟨"org/foreslot/planning/ClusterTimeline", "notBookedOver", "(I)V"⟩ : MethodName) prog_29_method_25_code 4 none ({ frames := 1, cells := 0, slots := 0, locals := 18 } : Room) Z n0 #[(.ref a1), (.int p2)] h0 (fun v h => v = none ∧ Keep h0 h [fd] ∧ Ar Z h fd .long wn (fun j_ => .long ((own_nb wn lw (fun _ => 0)) j_))) ws := by
  refine ctr_of (plainFor_of_name pn_1) ?_
  intro p e s m below meth c T0 X0 C
  refine go_cast (ef_rmNBn m a1 p2) ?_
  obtain ⟨RS, hRS⟩ : ∃ RS, RS = Rs s below n0 (fun v h => v = none ∧ Keep h0 h [fd] ∧ Ar Z h fd .long wn (fun j_ => .long ((own_nb wn lw (fun _ => 0)) j_))) ({ frames := 1, cells := 0, slots := 0, locals := 18 } : Room).cells ({ frames := 1, cells := 0, slots := 0, locals := 18 } : Room).slots := ⟨_, rfl⟩
  suffices HG : Go p e below RS T0 (mkF m 0 #[.val (.ref a1), .val (.int p2), .unset, .unset] []) by rw [hRS] at HG; exact HG
  show Go p e below RS T0 (mkF m 0 #[.val (.ref a1), .val (.int p2), .unset, .unset] [])
  rcases hwn with ⟨rfl, rfl⟩ | ⟨rfl, rfl⟩
  ·
    show Go p e below RS T0 (mkF m 0 #[.val (.ref a1), .val (.int p2), .unset, .unset] [])
    refine g_iloadN X0 C d17_0 rfl rfl ?_
    refine g_if_ge (a := p2.toInt) X0 C d17_1 rfl (by decide) (pT := 17) (by decide) (pF := 4) rfl (fun hc1 => absurd hc1 (by omega)) (fun hc1 => ?_)
    refine g_aloadN X0 C d17_4 rfl rfl rfl ?_
    refine g_getO (i := 10) X0 C O_a1 rfl rfl (host := "") (Or.inl (hw _ (List.mem_of_getElem? (i := 35) rfl))) d17_5 rfl (fun T757 X758 => ?_)
    refine g_ldcJ X758 C (hw _ (List.mem_of_getElem? (i := 144) rfl)) d17_8 rfl ?_
    refine g_static (argsL := [(.ref fd), (.long (-1 : Int64))]) (rest := []) (W := 0) X758 C (rmFill l Z a0 hw fd (-1 : Int64) 1 (1 : Int32) gf h0 n0 hz0 (Or.inl ⟨rfl, rfl⟩) ga_fd A_fd []) (hw _ (List.mem_of_getElem? (i := 145) rfl)) (hw _ (List.mem_of_getElem? (i := 146) rfl)) (hw _ (List.mem_of_getElem? (i := 147) rfl)) (hw _ (List.mem_of_getElem? (i := 148) rfl)) (by decide) pd_9 rfl rfl rfl rfl rfl (by decide) (by decide) (by decide) (by decide) d17_11 rfl (fun r762 T759 h761 hQ763 X760 => ?_)
    obtain ⟨rfl, KF, A_fd⟩ := hQ763
    have O_a1 := O_a1.keep KF (ninN ne_a1_fd nin0)
    have hz764 : Lo n0 h761.size := Lo.keep hz0 KF
    have KK765 := (Keep.refl h0 [fd]).trans KF (allS (Or.inl (List.mem_of_getElem? (i := 0) rfl)) all0)
    show Go p e below RS T759 (mkF m 14 #[.val (.ref a1), .val (.int p2), .unset, .unset] [])
    refine g_goto (pc' := 56) X760 C d17_14 (by decide) (by decide) ?_
    refine g_aloadN X760 C d17_56 rfl rfl rfl ?_
    refine g_getO (i := 10) X760 C O_a1 rfl rfl (host := "") (Or.inl (hw _ (List.mem_of_getElem? (i := 35) rfl))) d17_57 rfl (fun T766 X767 => ?_)
    refine g_aloadN X767 C d17_60 rfl rfl rfl ?_
    refine g_getO (i := 8) X767 C O_a1 rfl rfl (host := "") (Or.inl (hw _ (List.mem_of_getElem? (i := 31) rfl))) d17_61 rfl (fun T768 X769 => ?_)
    refine g_iconst (v := 1) X769 C d17_64 (by decide) rfl ?_
    refine g_isub X769 C d17_65 rfl ?_
    rw [show ((1 : Int32) - (1 : Int32)) = (0 : Int32) by decide]
    refine g_dup2 X769 C d17_66 rfl rfl rfl ?_
    refine g_laload (i := 0) (v := (.long (-1 : Int64))) X769 C A_fd (by decide) (by decide) rfl d17_67 rfl ?_
    refine g_aloadN X769 C d17_68 rfl rfl rfl ?_
    refine g_getO (i := 9) X769 C O_a1 rfl rfl (host := "") (Or.inl (hw _ (List.mem_of_getElem? (i := 33) rfl))) d17_69 rfl (fun T770 X771 => ?_)
    refine g_land X771 C d17_72 rfl ?_
    refine g_lastore (i := 0) X771 C A_fd (by decide) (by decide) ga_fd d17_73 rfl (fun T772 h774 X773 A_fd K775 => ?_)
    have O_a1 := O_a1.keep K775 (ninN ne_a1_fd nin0)
    have hz776 : Lo n0 h774.size := Lo.keep hz764 K775
    have KK777 := KK765.trans K775 (allS (Or.inl (List.mem_of_getElem? (i := 0) rfl)) all0)
    rw [hRS]
    refine g_retV X773 C d17_74 ?_ (by decide) (by decide)
    refine ⟨rfl, KK777, A_fd.congr (fun j hj => ?_)⟩
    have hj' : j = 0 := by omega
    rcases hj' with rfl <;> first | rfl | (simp [own_nb]; done) | (simp only [own_nb]; rfl)
  ·
    show Go p e below RS T0 (mkF m 0 #[.val (.ref a1), .val (.int p2), .unset, .unset] [])
    refine g_iloadN X0 C d17_0 rfl rfl ?_
    refine g_if_ge (a := p2.toInt) X0 C d17_1 rfl (by decide) (pT := 17) (by decide) (pF := 4) rfl (fun hc1 => absurd hc1 (by omega)) (fun hc1 => ?_)
    refine g_aloadN X0 C d17_4 rfl rfl rfl ?_
    refine g_getO (i := 10) X0 C O_a1 rfl rfl (host := "") (Or.inl (hw _ (List.mem_of_getElem? (i := 35) rfl))) d17_5 rfl (fun T778 X779 => ?_)
    refine g_ldcJ X779 C (hw _ (List.mem_of_getElem? (i := 144) rfl)) d17_8 rfl ?_
    refine g_static (argsL := [(.ref fd), (.long (-1 : Int64))]) (rest := []) (W := 0) X779 C (rmFill l Z a0 hw fd (-1 : Int64) 2 (2 : Int32) gf h0 n0 hz0 (Or.inr ⟨rfl, rfl⟩) ga_fd A_fd []) (hw _ (List.mem_of_getElem? (i := 145) rfl)) (hw _ (List.mem_of_getElem? (i := 146) rfl)) (hw _ (List.mem_of_getElem? (i := 147) rfl)) (hw _ (List.mem_of_getElem? (i := 148) rfl)) (by decide) pd_9 rfl rfl rfl rfl rfl (by decide) (by decide) (by decide) (by decide) d17_11 rfl (fun r783 T780 h782 hQ784 X781 => ?_)
    obtain ⟨rfl, KF, A_fd⟩ := hQ784
    have O_a1 := O_a1.keep KF (ninN ne_a1_fd nin0)
    have hz785 : Lo n0 h782.size := Lo.keep hz0 KF
    have KK786 := (Keep.refl h0 [fd]).trans KF (allS (Or.inl (List.mem_of_getElem? (i := 0) rfl)) all0)
    show Go p e below RS T780 (mkF m 14 #[.val (.ref a1), .val (.int p2), .unset, .unset] [])
    refine g_goto (pc' := 56) X781 C d17_14 (by decide) (by decide) ?_
    refine g_aloadN X781 C d17_56 rfl rfl rfl ?_
    refine g_getO (i := 10) X781 C O_a1 rfl rfl (host := "") (Or.inl (hw _ (List.mem_of_getElem? (i := 35) rfl))) d17_57 rfl (fun T787 X788 => ?_)
    refine g_aloadN X788 C d17_60 rfl rfl rfl ?_
    refine g_getO (i := 8) X788 C O_a1 rfl rfl (host := "") (Or.inl (hw _ (List.mem_of_getElem? (i := 31) rfl))) d17_61 rfl (fun T789 X790 => ?_)
    refine g_iconst (v := 1) X790 C d17_64 (by decide) rfl ?_
    refine g_isub X790 C d17_65 rfl ?_
    rw [show ((2 : Int32) - (1 : Int32)) = (1 : Int32) by decide]
    refine g_dup2 X790 C d17_66 rfl rfl rfl ?_
    refine g_laload (i := 1) (v := (.long (-1 : Int64))) X790 C A_fd (by decide) (by decide) rfl d17_67 rfl ?_
    refine g_aloadN X790 C d17_68 rfl rfl rfl ?_
    refine g_getO (i := 9) X790 C O_a1 rfl rfl (host := "") (Or.inl (hw _ (List.mem_of_getElem? (i := 33) rfl))) d17_69 rfl (fun T791 X792 => ?_)
    refine g_land X792 C d17_72 rfl ?_
    refine g_lastore (i := 1) X792 C A_fd (by decide) (by decide) ga_fd d17_73 rfl (fun T793 h795 X794 A_fd K796 => ?_)
    have O_a1 := O_a1.keep K796 (ninN ne_a1_fd nin0)
    have hz797 : Lo n0 h795.size := Lo.keep hz785 K796
    have KK798 := KK786.trans K796 (allS (Or.inl (List.mem_of_getElem? (i := 0) rfl)) all0)
    rw [hRS]
    refine g_retV X794 C d17_74 ?_ (by decide) (by decide)
    refine ⟨rfl, KK798, A_fd.congr (fun j hj => ?_)⟩
    have hj' : j = 0 ∨ j = 1 := by omega
    rcases hj' with rfl | rfl <;> first | rfl | (simp [own_nb]; done) | (simp only [own_nb]; rfl)
theorem ef_rmNBi (m : MethodId) (a1 : Addr) (p2 : Int32) : entryFrame m #[(.ref a1), (.int p2)] 4 = mkF m 0 #[.val (.ref a1), .val (.int p2), .unset, .unset] [] := by first | (simp [entryFrame, mkF, argsToLocals, Value.category]; done) | rfl
set_option maxRecDepth 65536 in
set_option maxHeartbeats 40000000 in
theorem rmNBi (l : Launch) (Z : State) (a0 : Array Value) (hw : ∀ d ∈ tables_1, d.before a0 Z = true) (a1 : Addr) (p2 : Int32) (tm sr ub fd c5 c6 c7 c8 : Addr) (nn wv : Int32) (lw : Int64) (bl : Int32) (sz : Int32) (wn : Nat) (gf : Nat → Int64) (ii : Nat) (fn : Nat → Value) (si bi ei : Addr) (gb : Nat → Int64) (h0 : Heap) (n0 : Nat) (hz0 : Lo n0 h0.size) (hp2 : p2.toInt = ii) (hwn : own_W wn wv) (ga_fd : Lo n0 fd) (ne_a1_fd : NE a1 fd) (O_a1 : Ob Z h0 a1 "org/foreslot/planning/ClusterTimeline" NS_CT [(.ref tm), (.ref sr), (.ref ub), (.long (-9223372036854775808 : Int64)), (.long (1 : Int64)), (.long (9223372036854775807 : Int64)), (.long (-9223372036854775808 : Int64)), (.int nn), (.int wv), (.long lw), (.ref fd), (.ref c5), (.ref c6), (.ref c7), (.ref c8), (.int sz), (.int bl)]) (A_fd : Ar Z h0 fd .long wn (fun j_ => .long (gf j_))) (hii : ii < 16) (hfi : fn ii = .ref si) (ne_sr_fd : NE sr fd) (ne_si_fd : NE si fd) (ne_bi_fd : NE bi fd) (A_sr : ArR Z h0 sr "org/foreslot/planning/ClusterTimeline$Stretch" 16 fn) (O_si : Ob Z h0 si "org/foreslot/planning/ClusterTimeline$Stretch" NS_SR [(.ref bi), (.ref ei), .null, .null, .null]) (A_bi : Ar Z h0 bi .long wn (fun j_ => .long (gb j_))) (ws : List Jvm.Cond) :
    Ctr l (⟨"org/foreslot/planning/ClusterTimeline", "notBookedOver", "(I)V"⟩ : MethodName) prog_29_method_25_code 4 none ({ frames := 1, cells := 0, slots := 0, locals := 18 } : Room) Z n0 #[(.ref a1), (.int p2)] h0 (fun v h => v = none ∧ Keep h0 h [fd] ∧ Ar Z h fd .long wn (fun j_ => .long ((own_nb wn lw gb) j_))) ws := by
  refine ctr_of (plainFor_of_name pn_1) ?_
  intro p e s m below meth c T0 X0 C
  refine go_cast (ef_rmNBi m a1 p2) ?_
  obtain ⟨RS, hRS⟩ : ∃ RS, RS = Rs s below n0 (fun v h => v = none ∧ Keep h0 h [fd] ∧ Ar Z h fd .long wn (fun j_ => .long ((own_nb wn lw gb) j_))) ({ frames := 1, cells := 0, slots := 0, locals := 18 } : Room).cells ({ frames := 1, cells := 0, slots := 0, locals := 18 } : Room).slots := ⟨_, rfl⟩
  suffices HG : Go p e below RS T0 (mkF m 0 #[.val (.ref a1), .val (.int p2), .unset, .unset] []) by rw [hRS] at HG; exact HG
  show Go p e below RS T0 (mkF m 0 #[.val (.ref a1), .val (.int p2), .unset, .unset] [])
  rcases hwn with ⟨rfl, rfl⟩ | ⟨rfl, rfl⟩
  ·
    show Go p e below RS T0 (mkF m 0 #[.val (.ref a1), .val (.int p2), .unset, .unset] [])
    refine g_iloadN X0 C d17_0 rfl rfl ?_
    refine g_if_ge (a := p2.toInt) X0 C d17_1 rfl (by decide) (pT := 17) (by decide) (pF := 4) rfl (fun hc1 => ?_) (fun hc1 => absurd hc1 (by omega))
    refine g_aloadN X0 C d17_17 rfl rfl rfl ?_
    refine g_getO (i := 1) X0 C O_a1 rfl rfl (host := "") (Or.inl (hw _ (List.mem_of_getElem? (i := 14) rfl))) d17_18 rfl (fun T799 X800 => ?_)
    refine g_iloadN X800 C d17_21 rfl rfl ?_
    refine g_aaload (i := ii) (v := (.ref si)) X800 C A_sr hp2 hii hfi d17_22 rfl ?_
    refine g_getO (i := 0) X800 C O_si rfl rfl (host := "") (Or.inl (hw _ (List.mem_of_getElem? (i := 93) rfl))) d17_23 rfl (fun T801 X802 => ?_)
    refine g_astoreN (L' := #[.val (.ref a1), .val (.int p2), .val (.ref bi), .unset]) X802 C d17_26 rfl rfl rfl ?_
    refine g_iconst (v := 0) X802 C d17_27 (by decide) rfl ?_
    refine g_istoreN (L' := #[.val (.ref a1), .val (.int p2), .val (.ref bi), .val (.int (0 : Int32))]) X802 C d17_28 rfl rfl rfl ?_
    refine g_iloadN X802 C d17_29 rfl rfl ?_
    refine g_aloadN X802 C d17_30 rfl rfl rfl ?_
    refine g_getO (i := 8) X802 C O_a1 rfl rfl (host := "") (Or.inl (hw _ (List.mem_of_getElem? (i := 31) rfl))) d17_31 rfl (fun T803 X804 => ?_)
    refine g_icmp_ge (a := 0) (b := 1) X804 C d17_34 (by decide) (by decide) (by decide) (pT := 56) (by decide) (pF := 37) rfl (fun hc34 => absurd hc34 (by omega)) (fun hc34 => ?_)
    refine g_aloadN X804 C d17_37 rfl rfl rfl ?_
    refine g_getO (i := 10) X804 C O_a1 rfl rfl (host := "") (Or.inl (hw _ (List.mem_of_getElem? (i := 35) rfl))) d17_38 rfl (fun T805 X806 => ?_)
    refine g_iloadN X806 C d17_41 rfl rfl ?_
    refine g_aloadN X806 C d17_42 rfl rfl rfl ?_
    refine g_iloadN X806 C d17_43 rfl rfl ?_
    refine g_laload (i := 0) (v := (.long (gb 0))) X806 C A_bi (by decide) (by decide) rfl d17_44 rfl ?_
    refine g_ldcJ X806 C (hw _ (List.mem_of_getElem? (i := 144) rfl)) d17_45 rfl ?_
    refine g_lxor X806 C d17_48 rfl ?_
    refine g_lastore (i := 0) X806 C A_fd (by decide) (by decide) ga_fd d17_49 rfl (fun T807 h809 X808 A_fd K810 => ?_)
    have O_a1 := O_a1.keep K810 (ninN ne_a1_fd nin0)
    have A_sr := A_sr.keep K810 (ninN ne_sr_fd nin0)
    have O_si := O_si.keep K810 (ninN ne_si_fd nin0)
    have A_bi := A_bi.keep K810 (ninN ne_bi_fd nin0)
    have hz811 : Lo n0 h809.size := Lo.keep hz0 K810
    have KK812 := (Keep.refl h0 [fd]).trans K810 (allS (Or.inl (List.mem_of_getElem? (i := 0) rfl)) all0)
    refine g_iinc (v' := (1 : Int32)) (L' := #[.val (.ref a1), .val (.int p2), .val (.ref bi), .val (.int (1 : Int32))]) X808 C d17_50 rfl (by decide) rfl rfl ?_
    refine g_goto (pc' := 29) X808 C d17_53 (by decide) (by decide) ?_
    refine g_iloadN X808 C d17_29 rfl rfl ?_
    refine g_aloadN X808 C d17_30 rfl rfl rfl ?_
    refine g_getO (i := 8) X808 C O_a1 rfl rfl (host := "") (Or.inl (hw _ (List.mem_of_getElem? (i := 31) rfl))) d17_31 rfl (fun T813 X814 => ?_)
    refine g_icmp_ge (a := 1) (b := 1) X814 C d17_34 (by decide) (by decide) (by decide) (pT := 56) (by decide) (pF := 37) rfl (fun hc34 => ?_) (fun hc34 => absurd hc34 (by omega))
    refine g_aloadN X814 C d17_56 rfl rfl rfl ?_
    refine g_getO (i := 10) X814 C O_a1 rfl rfl (host := "") (Or.inl (hw _ (List.mem_of_getElem? (i := 35) rfl))) d17_57 rfl (fun T815 X816 => ?_)
    refine g_aloadN X816 C d17_60 rfl rfl rfl ?_
    refine g_getO (i := 8) X816 C O_a1 rfl rfl (host := "") (Or.inl (hw _ (List.mem_of_getElem? (i := 31) rfl))) d17_61 rfl (fun T817 X818 => ?_)
    refine g_iconst (v := 1) X818 C d17_64 (by decide) rfl ?_
    refine g_isub X818 C d17_65 rfl ?_
    rw [show ((1 : Int32) - (1 : Int32)) = (0 : Int32) by decide]
    refine g_dup2 X818 C d17_66 rfl rfl rfl ?_
    refine g_laload (i := 0) (v := (.long ((gb 0) ^^^ (-1 : Int64)))) X818 C A_fd (by decide) (by decide) rfl d17_67 rfl ?_
    refine g_aloadN X818 C d17_68 rfl rfl rfl ?_
    refine g_getO (i := 9) X818 C O_a1 rfl rfl (host := "") (Or.inl (hw _ (List.mem_of_getElem? (i := 33) rfl))) d17_69 rfl (fun T819 X820 => ?_)
    refine g_land X820 C d17_72 rfl ?_
    refine g_lastore (i := 0) X820 C A_fd (by decide) (by decide) ga_fd d17_73 rfl (fun T821 h823 X822 A_fd K824 => ?_)
    have O_a1 := O_a1.keep K824 (ninN ne_a1_fd nin0)
    have A_sr := A_sr.keep K824 (ninN ne_sr_fd nin0)
    have O_si := O_si.keep K824 (ninN ne_si_fd nin0)
    have A_bi := A_bi.keep K824 (ninN ne_bi_fd nin0)
    have hz825 : Lo n0 h823.size := Lo.keep hz811 K824
    have KK826 := KK812.trans K824 (allS (Or.inl (List.mem_of_getElem? (i := 0) rfl)) all0)
    rw [hRS]
    refine g_retV X822 C d17_74 ?_ (by decide) (by decide)
    refine ⟨rfl, KK826, A_fd.congr (fun j hj => ?_)⟩
    have hj' : j = 0 := by omega
    rcases hj' with rfl <;> first | rfl | (simp [own_nb]; done) | (simp only [own_nb]; rfl)
  ·
    show Go p e below RS T0 (mkF m 0 #[.val (.ref a1), .val (.int p2), .unset, .unset] [])
    refine g_iloadN X0 C d17_0 rfl rfl ?_
    refine g_if_ge (a := p2.toInt) X0 C d17_1 rfl (by decide) (pT := 17) (by decide) (pF := 4) rfl (fun hc1 => ?_) (fun hc1 => absurd hc1 (by omega))
    refine g_aloadN X0 C d17_17 rfl rfl rfl ?_
    refine g_getO (i := 1) X0 C O_a1 rfl rfl (host := "") (Or.inl (hw _ (List.mem_of_getElem? (i := 14) rfl))) d17_18 rfl (fun T827 X828 => ?_)
    refine g_iloadN X828 C d17_21 rfl rfl ?_
    refine g_aaload (i := ii) (v := (.ref si)) X828 C A_sr hp2 hii hfi d17_22 rfl ?_
    refine g_getO (i := 0) X828 C O_si rfl rfl (host := "") (Or.inl (hw _ (List.mem_of_getElem? (i := 93) rfl))) d17_23 rfl (fun T829 X830 => ?_)
    refine g_astoreN (L' := #[.val (.ref a1), .val (.int p2), .val (.ref bi), .unset]) X830 C d17_26 rfl rfl rfl ?_
    refine g_iconst (v := 0) X830 C d17_27 (by decide) rfl ?_
    refine g_istoreN (L' := #[.val (.ref a1), .val (.int p2), .val (.ref bi), .val (.int (0 : Int32))]) X830 C d17_28 rfl rfl rfl ?_
    refine g_iloadN X830 C d17_29 rfl rfl ?_
    refine g_aloadN X830 C d17_30 rfl rfl rfl ?_
    refine g_getO (i := 8) X830 C O_a1 rfl rfl (host := "") (Or.inl (hw _ (List.mem_of_getElem? (i := 31) rfl))) d17_31 rfl (fun T831 X832 => ?_)
    refine g_icmp_ge (a := 0) (b := 2) X832 C d17_34 (by decide) (by decide) (by decide) (pT := 56) (by decide) (pF := 37) rfl (fun hc34 => absurd hc34 (by omega)) (fun hc34 => ?_)
    refine g_aloadN X832 C d17_37 rfl rfl rfl ?_
    refine g_getO (i := 10) X832 C O_a1 rfl rfl (host := "") (Or.inl (hw _ (List.mem_of_getElem? (i := 35) rfl))) d17_38 rfl (fun T833 X834 => ?_)
    refine g_iloadN X834 C d17_41 rfl rfl ?_
    refine g_aloadN X834 C d17_42 rfl rfl rfl ?_
    refine g_iloadN X834 C d17_43 rfl rfl ?_
    refine g_laload (i := 0) (v := (.long (gb 0))) X834 C A_bi (by decide) (by decide) rfl d17_44 rfl ?_
    refine g_ldcJ X834 C (hw _ (List.mem_of_getElem? (i := 144) rfl)) d17_45 rfl ?_
    refine g_lxor X834 C d17_48 rfl ?_
    refine g_lastore (i := 0) X834 C A_fd (by decide) (by decide) ga_fd d17_49 rfl (fun T835 h837 X836 A_fd K838 => ?_)
    have O_a1 := O_a1.keep K838 (ninN ne_a1_fd nin0)
    have A_sr := A_sr.keep K838 (ninN ne_sr_fd nin0)
    have O_si := O_si.keep K838 (ninN ne_si_fd nin0)
    have A_bi := A_bi.keep K838 (ninN ne_bi_fd nin0)
    have hz839 : Lo n0 h837.size := Lo.keep hz0 K838
    have KK840 := (Keep.refl h0 [fd]).trans K838 (allS (Or.inl (List.mem_of_getElem? (i := 0) rfl)) all0)
    refine g_iinc (v' := (1 : Int32)) (L' := #[.val (.ref a1), .val (.int p2), .val (.ref bi), .val (.int (1 : Int32))]) X836 C d17_50 rfl (by decide) rfl rfl ?_
    refine g_goto (pc' := 29) X836 C d17_53 (by decide) (by decide) ?_
    refine g_iloadN X836 C d17_29 rfl rfl ?_
    refine g_aloadN X836 C d17_30 rfl rfl rfl ?_
    refine g_getO (i := 8) X836 C O_a1 rfl rfl (host := "") (Or.inl (hw _ (List.mem_of_getElem? (i := 31) rfl))) d17_31 rfl (fun T841 X842 => ?_)
    refine g_icmp_ge (a := 1) (b := 2) X842 C d17_34 (by decide) (by decide) (by decide) (pT := 56) (by decide) (pF := 37) rfl (fun hc34 => absurd hc34 (by omega)) (fun hc34 => ?_)
    refine g_aloadN X842 C d17_37 rfl rfl rfl ?_
    refine g_getO (i := 10) X842 C O_a1 rfl rfl (host := "") (Or.inl (hw _ (List.mem_of_getElem? (i := 35) rfl))) d17_38 rfl (fun T843 X844 => ?_)
    refine g_iloadN X844 C d17_41 rfl rfl ?_
    refine g_aloadN X844 C d17_42 rfl rfl rfl ?_
    refine g_iloadN X844 C d17_43 rfl rfl ?_
    refine g_laload (i := 1) (v := (.long (gb 1))) X844 C A_bi (by decide) (by decide) rfl d17_44 rfl ?_
    refine g_ldcJ X844 C (hw _ (List.mem_of_getElem? (i := 144) rfl)) d17_45 rfl ?_
    refine g_lxor X844 C d17_48 rfl ?_
    refine g_lastore (i := 1) X844 C A_fd (by decide) (by decide) ga_fd d17_49 rfl (fun T845 h847 X846 A_fd K848 => ?_)
    have O_a1 := O_a1.keep K848 (ninN ne_a1_fd nin0)
    have A_sr := A_sr.keep K848 (ninN ne_sr_fd nin0)
    have O_si := O_si.keep K848 (ninN ne_si_fd nin0)
    have A_bi := A_bi.keep K848 (ninN ne_bi_fd nin0)
    have hz849 : Lo n0 h847.size := Lo.keep hz839 K848
    have KK850 := KK840.trans K848 (allS (Or.inl (List.mem_of_getElem? (i := 0) rfl)) all0)
    refine g_iinc (v' := (2 : Int32)) (L' := #[.val (.ref a1), .val (.int p2), .val (.ref bi), .val (.int (2 : Int32))]) X846 C d17_50 rfl (by decide) rfl rfl ?_
    refine g_goto (pc' := 29) X846 C d17_53 (by decide) (by decide) ?_
    refine g_iloadN X846 C d17_29 rfl rfl ?_
    refine g_aloadN X846 C d17_30 rfl rfl rfl ?_
    refine g_getO (i := 8) X846 C O_a1 rfl rfl (host := "") (Or.inl (hw _ (List.mem_of_getElem? (i := 31) rfl))) d17_31 rfl (fun T851 X852 => ?_)
    refine g_icmp_ge (a := 2) (b := 2) X852 C d17_34 (by decide) (by decide) (by decide) (pT := 56) (by decide) (pF := 37) rfl (fun hc34 => ?_) (fun hc34 => absurd hc34 (by omega))
    refine g_aloadN X852 C d17_56 rfl rfl rfl ?_
    refine g_getO (i := 10) X852 C O_a1 rfl rfl (host := "") (Or.inl (hw _ (List.mem_of_getElem? (i := 35) rfl))) d17_57 rfl (fun T853 X854 => ?_)
    refine g_aloadN X854 C d17_60 rfl rfl rfl ?_
    refine g_getO (i := 8) X854 C O_a1 rfl rfl (host := "") (Or.inl (hw _ (List.mem_of_getElem? (i := 31) rfl))) d17_61 rfl (fun T855 X856 => ?_)
    refine g_iconst (v := 1) X856 C d17_64 (by decide) rfl ?_
    refine g_isub X856 C d17_65 rfl ?_
    rw [show ((2 : Int32) - (1 : Int32)) = (1 : Int32) by decide]
    refine g_dup2 X856 C d17_66 rfl rfl rfl ?_
    refine g_laload (i := 1) (v := (.long ((gb 1) ^^^ (-1 : Int64)))) X856 C A_fd (by decide) (by decide) rfl d17_67 rfl ?_
    refine g_aloadN X856 C d17_68 rfl rfl rfl ?_
    refine g_getO (i := 9) X856 C O_a1 rfl rfl (host := "") (Or.inl (hw _ (List.mem_of_getElem? (i := 33) rfl))) d17_69 rfl (fun T857 X858 => ?_)
    refine g_land X858 C d17_72 rfl ?_
    refine g_lastore (i := 1) X858 C A_fd (by decide) (by decide) ga_fd d17_73 rfl (fun T859 h861 X860 A_fd K862 => ?_)
    have O_a1 := O_a1.keep K862 (ninN ne_a1_fd nin0)
    have A_sr := A_sr.keep K862 (ninN ne_sr_fd nin0)
    have O_si := O_si.keep K862 (ninN ne_si_fd nin0)
    have A_bi := A_bi.keep K862 (ninN ne_bi_fd nin0)
    have hz863 : Lo n0 h861.size := Lo.keep hz849 K862
    have KK864 := KK850.trans K862 (allS (Or.inl (List.mem_of_getElem? (i := 0) rfl)) all0)
    rw [hRS]
    refine g_retV X860 C d17_74 ?_ (by decide) (by decide)
    refine ⟨rfl, KK864, A_fd.congr (fun j hj => ?_)⟩
    have hj' : j = 0 ∨ j = 1 := by omega
    rcases hj' with rfl | rfl <;> first | rfl | (simp [own_nb]; done) | (simp only [own_nb]; rfl)
theorem ef_rmFAm (m : MethodId) (a1 : Addr) (p3 : Int64) : entryFrame m #[(.ref a1), (.int (-1 : Int32)), (.long p3), (.int (0 : Int32))] 10 = mkF m 0 #[.val (.ref a1), .val (.int (-1 : Int32)), .val (.long p3), .second, .val (.int (0 : Int32)), .unset, .unset, .unset, .unset, .unset] [] := by first | (simp [entryFrame, mkF, argsToLocals, Value.category]; done) | rfl
set_option maxRecDepth 65536 in
set_option maxHeartbeats 40000000 in
theorem rmFAm (l : Launch) (Z : State) (a0 : Array Value) (hw : ∀ d ∈ tables_1, d.before a0 Z = true) (a1 : Addr) (p3 : Int64) (tm sr ub fd c5 c6 c7 c8 : Addr) (nn wv : Int32) (lw : Int64) (bl : Int32) (wn : Nat) (gt gm gf : Nat → Int64) (fn : Nat → Value) (gu : Nat → Int32) (s0 s1 b0 b1 e0 e1 : Addr) (h0 : Heap) (n0 : Nat) (hz0 : Lo n0 h0.size) (hst : p3.toInt < 0) (hwn : own_W wn wv) (hgt0 : (gt 0).toInt = 0) (hgt1 : (gt 1).toInt = 10) (hfn0 : fn 0 = .ref s0) (hfn1 : fn 1 = .ref s1) (hnn : 0 ≤ nn.toInt) (hgu : ∀ k, k < 2 → 0 ≤ (gu k).toInt) (ga_a1 : Lo n0 a1) (ga_fd : Lo n0 fd) (ne_a1_fd : NE a1 fd) (ne_tm_fd : NE tm fd) (ne_sr_fd : NE sr fd) (ne_ub_fd : NE ub fd) (ne_s0_fd : NE s0 fd) (ne_s1_fd : NE s1 fd) (ne_b0_fd : NE b0 fd) (ne_b1_fd : NE b1 fd) (ne_e0_fd : NE e0 fd) (ne_e1_fd : NE e1 fd) (ne_tm_a1 : NE tm a1) (ne_sr_a1 : NE sr a1) (ne_ub_a1 : NE ub a1) (ne_s0_a1 : NE s0 a1) (ne_s1_a1 : NE s1 a1) (ne_b0_a1 : NE b0 a1) (ne_b1_a1 : NE b1 a1) (ne_e0_a1 : NE e0 a1) (ne_e1_a1 : NE e1 a1) (O_a1 : Ob Z h0 a1 "org/foreslot/planning/ClusterTimeline" NS_CT [(.ref tm), (.ref sr), (.ref ub), (.long (-9223372036854775808 : Int64)), (.long (1 : Int64)), (.long (9223372036854775807 : Int64)), (.long (-9223372036854775808 : Int64)), (.int nn), (.int wv), (.long lw), (.ref fd), (.ref c5), (.ref c6), (.ref c7), (.ref c8), (.int (2 : Int32)), (.int bl)]) (A_tm : Ar Z h0 tm .long 16 (fun j_ => .long (gt j_))) (A_sr : ArR Z h0 sr "org/foreslot/planning/ClusterTimeline$Stretch" 16 fn) (A_ub : Ar Z h0 ub .int 16 (fun k => .int (gu k))) (O_s0 : Ob Z h0 s0 "org/foreslot/planning/ClusterTimeline$Stretch" NS_SR [(.ref b0), (.ref e0), .null, .null, .null]) (O_s1 : Ob Z h0 s1 "org/foreslot/planning/ClusterTimeline$Stretch" NS_SR [(.ref b1), (.ref e1), .null, .null, .null]) (A_b0 : Ar Z h0 b0 .long wn (fun j_ => .long (gm j_))) (A_e0 : Ar Z h0 e0 .long wn (fun j_ => .long ((fun _ => 0) j_))) (A_b1 : Ar Z h0 b1 .long wn (fun j_ => .long ((fun _ => 0) j_))) (A_e1 : Ar Z h0 e1 .long wn (fun j_ => .long (gm j_))) (A_fd : Ar Z h0 fd .long wn (fun j_ => .long (gf j_))) (ws : List Jvm.Cond) :
    Ctr l (⟨"org/foreslot/planning/ClusterTimeline", "freeAt", "(IJI)Z"⟩ : MethodName) prog_29_method_24_code 10 (some .boolean) ({ frames := 2, cells := 0, slots := 0, locals := 40 } : Room) Z n0 #[(.ref a1), (.int (-1 : Int32)), (.long p3), (.int (0 : Int32))] h0 (fun v h => (∃ r : Int32, v = some (.int r)) ∧ Keep h0 h [fd] ∧ ∃ gf' : Nat → Int64, Ar Z h fd .long wn (fun j_ => .long (gf' j_)) ∧ own_fd wn lw gm gf' (0 < p3.toInt ∧ p3.toInt < 10)) ws := by
  refine ctr_of (plainFor_of_name pn_1) ?_
  intro p e s m below meth c T0 X0 C
  refine go_cast (ef_rmFAm m a1 p3) ?_
  obtain ⟨RS, hRS⟩ : ∃ RS, RS = Rs s below n0 (fun v h => (∃ r : Int32, v = some (.int r)) ∧ Keep h0 h [fd] ∧ ∃ gf' : Nat → Int64, Ar Z h fd .long wn (fun j_ => .long (gf' j_)) ∧ own_fd wn lw gm gf' (0 < p3.toInt ∧ p3.toInt < 10)) ({ frames := 2, cells := 0, slots := 0, locals := 40 } : Room).cells ({ frames := 2, cells := 0, slots := 0, locals := 40 } : Room).slots := ⟨_, rfl⟩
  suffices HG : Go p e below RS T0 (mkF m 0 #[.val (.ref a1), .val (.int (-1 : Int32)), .val (.long p3), .second, .val (.int (0 : Int32)), .unset, .unset, .unset, .unset, .unset] []) by rw [hRS] at HG; exact HG
  show Go p e below RS T0 (mkF m 0 #[.val (.ref a1), .val (.int (-1 : Int32)), .val (.long p3), .second, .val (.int (0 : Int32)), .unset, .unset, .unset, .unset, .unset] [])
  rcases hwn with ⟨rfl, rfl⟩ | ⟨rfl, rfl⟩
  ·
    show Go p e below RS T0 (mkF m 0 #[.val (.ref a1), .val (.int (-1 : Int32)), .val (.long p3), .second, .val (.int (0 : Int32)), .unset, .unset, .unset, .unset, .unset] [])
    refine g_aloadN X0 C d16_0 rfl rfl rfl ?_
    refine g_iloadN X0 C d16_1 rfl rfl ?_
    refine g_private (argsL := [(.int (-1 : Int32))]) (rest := []) (W := 0) (a := a1) X0 C (rmNBn l Z a0 hw a1 (-1 : Int32) tm sr ub fd c5 c6 c7 c8 nn (1 : Int32) lw bl (2 : Int32) 1 gf h0 n0 hz0 (by decide) (Or.inl ⟨rfl, rfl⟩) ga_fd ne_a1_fd O_a1 A_fd []) O_a1.1 (hw _ (List.mem_of_getElem? (i := 140) rfl)) (hw _ (List.mem_of_getElem? (i := 141) rfl)) (hw _ (List.mem_of_getElem? (i := 142) rfl)) (hw _ (List.mem_of_getElem? (i := 1) rfl)) (hw _ (List.mem_of_getElem? (i := 2) rfl)) (hw _ (List.mem_of_getElem? (i := 143) rfl)) (by decide) pd_6 rfl rfl rfl rfl rfl (by decide) (by decide) (by decide) (by decide) d16_2 rfl (fun r868 T865 h867 hQ869 X866 => ?_)
    obtain ⟨rfl, KNB, A_fd⟩ := hQ869
    have O_a1 := O_a1.keep KNB (ninN ne_a1_fd nin0)
    have A_tm := A_tm.keep KNB (ninN ne_tm_fd nin0)
    have A_sr := A_sr.keep KNB (ninN ne_sr_fd nin0)
    have A_ub := A_ub.keep KNB (ninN ne_ub_fd nin0)
    have O_s0 := O_s0.keep KNB (ninN ne_s0_fd nin0)
    have O_s1 := O_s1.keep KNB (ninN ne_s1_fd nin0)
    have A_b0 := A_b0.keep KNB (ninN ne_b0_fd nin0)
    have A_e0 := A_e0.keep KNB (ninN ne_e0_fd nin0)
    have A_b1 := A_b1.keep KNB (ninN ne_b1_fd nin0)
    have A_e1 := A_e1.keep KNB (ninN ne_e1_fd nin0)
    have hz870 : Lo n0 h867.size := Lo.keep hz0 KNB
    have KK871 := (Keep.refl h0 [fd]).trans KNB (allS (Or.inl (List.mem_of_getElem? (i := 0) rfl)) all0)
    show Go p e below RS T865 (mkF m 5 #[.val (.ref a1), .val (.int (-1 : Int32)), .val (.long p3), .second, .val (.int (0 : Int32)), .unset, .unset, .unset, .unset, .unset] [])
    refine g_iloadN X866 C d16_5 rfl rfl ?_
    refine g_if_lt (a := (-1)) X866 C d16_6 (by decide) (by decide) (pT := 136) (by decide) (pF := 9) rfl (fun hc6_872 => ?_) (fun hc6_872 => absurd hc6_872 (by omega))
    refine g_aloadN X866 C d16_136 rfl rfl rfl ?_
    refine g_aloadN X866 C d16_137 rfl rfl rfl ?_
    refine g_getO (i := 10) X866 C O_a1 rfl rfl (host := "") (Or.inl (hw _ (List.mem_of_getElem? (i := 35) rfl))) d16_138 rfl (fun T873 X874 => ?_)
    refine g_private (argsL := [(.ref fd)]) (rest := []) (W := 0) (a := a1) X874 C (rmCount l Z a0 hw a1 fd tm sr ub fd c5 c6 c7 c8 nn (1 : Int32) lw bl (2 : Int32) 1 _ h867 n0 hz870 (Or.inl ⟨rfl, rfl⟩) O_a1 A_fd []) O_a1.1 (hw _ (List.mem_of_getElem? (i := 149) rfl)) (hw _ (List.mem_of_getElem? (i := 150) rfl)) (hw _ (List.mem_of_getElem? (i := 151) rfl)) (hw _ (List.mem_of_getElem? (i := 1) rfl)) (hw _ (List.mem_of_getElem? (i := 2) rfl)) (hw _ (List.mem_of_getElem? (i := 152) rfl)) (by decide) pd_10 rfl rfl rfl rfl rfl (by decide) (by decide) (by decide) (by decide) d16_141 rfl (fun r878 T875 h877 hQ879 X876 => ?_)
    obtain ⟨q880, rfl, hh⟩ := hQ879; rw [hh] at X876
    show Go p e below RS T875 (mkF m 144 #[.val (.ref a1), .val (.int (-1 : Int32)), .val (.long p3), .second, .val (.int (0 : Int32)), .unset, .unset, .unset, .unset, .unset] [(.int q880)])
    refine g_iload X876 C d16_144 rfl rfl ?_
    refine g_icmp_lt (a := q880.toInt) (b := 0) X876 C d16_146 rfl (by decide) (by decide) (pT := 153) (by decide) (pF := 149) rfl (fun hc146_881 => ?_) (fun hc146_881 => ?_)
    ·
      refine g_iconst (v := 0) X876 C d16_153 (by decide) rfl ?_
      rw [hRS]
      refine g_retZ X876 C d16_154 ?_ (by decide) (by decide)
      refine ⟨⟨_, rfl⟩, KK871, _, A_fd, ?_⟩
      exact Or.inr ⟨by omega, fun _ _ => rfl⟩
    ·
      refine g_iconst (v := 1) X876 C d16_149 (by decide) rfl ?_
      refine g_goto (pc' := 154) X876 C d16_150 (by decide) (by decide) ?_
      rw [hRS]
      refine g_retZ X876 C d16_154 ?_ (by decide) (by decide)
      refine ⟨⟨_, rfl⟩, KK871, _, A_fd, ?_⟩
      exact Or.inr ⟨by omega, fun _ _ => rfl⟩
  ·
    show Go p e below RS T0 (mkF m 0 #[.val (.ref a1), .val (.int (-1 : Int32)), .val (.long p3), .second, .val (.int (0 : Int32)), .unset, .unset, .unset, .unset, .unset] [])
    refine g_aloadN X0 C d16_0 rfl rfl rfl ?_
    refine g_iloadN X0 C d16_1 rfl rfl ?_
    refine g_private (argsL := [(.int (-1 : Int32))]) (rest := []) (W := 0) (a := a1) X0 C (rmNBn l Z a0 hw a1 (-1 : Int32) tm sr ub fd c5 c6 c7 c8 nn (2 : Int32) lw bl (2 : Int32) 2 gf h0 n0 hz0 (by decide) (Or.inr ⟨rfl, rfl⟩) ga_fd ne_a1_fd O_a1 A_fd []) O_a1.1 (hw _ (List.mem_of_getElem? (i := 140) rfl)) (hw _ (List.mem_of_getElem? (i := 141) rfl)) (hw _ (List.mem_of_getElem? (i := 142) rfl)) (hw _ (List.mem_of_getElem? (i := 1) rfl)) (hw _ (List.mem_of_getElem? (i := 2) rfl)) (hw _ (List.mem_of_getElem? (i := 143) rfl)) (by decide) pd_6 rfl rfl rfl rfl rfl (by decide) (by decide) (by decide) (by decide) d16_2 rfl (fun r885 T882 h884 hQ886 X883 => ?_)
    obtain ⟨rfl, KNB, A_fd⟩ := hQ886
    have O_a1 := O_a1.keep KNB (ninN ne_a1_fd nin0)
    have A_tm := A_tm.keep KNB (ninN ne_tm_fd nin0)
    have A_sr := A_sr.keep KNB (ninN ne_sr_fd nin0)
    have A_ub := A_ub.keep KNB (ninN ne_ub_fd nin0)
    have O_s0 := O_s0.keep KNB (ninN ne_s0_fd nin0)
    have O_s1 := O_s1.keep KNB (ninN ne_s1_fd nin0)
    have A_b0 := A_b0.keep KNB (ninN ne_b0_fd nin0)
    have A_e0 := A_e0.keep KNB (ninN ne_e0_fd nin0)
    have A_b1 := A_b1.keep KNB (ninN ne_b1_fd nin0)
    have A_e1 := A_e1.keep KNB (ninN ne_e1_fd nin0)
    have hz887 : Lo n0 h884.size := Lo.keep hz0 KNB
    have KK888 := (Keep.refl h0 [fd]).trans KNB (allS (Or.inl (List.mem_of_getElem? (i := 0) rfl)) all0)
    show Go p e below RS T882 (mkF m 5 #[.val (.ref a1), .val (.int (-1 : Int32)), .val (.long p3), .second, .val (.int (0 : Int32)), .unset, .unset, .unset, .unset, .unset] [])
    refine g_iloadN X883 C d16_5 rfl rfl ?_
    refine g_if_lt (a := (-1)) X883 C d16_6 (by decide) (by decide) (pT := 136) (by decide) (pF := 9) rfl (fun hc6_889 => ?_) (fun hc6_889 => absurd hc6_889 (by omega))
    refine g_aloadN X883 C d16_136 rfl rfl rfl ?_
    refine g_aloadN X883 C d16_137 rfl rfl rfl ?_
    refine g_getO (i := 10) X883 C O_a1 rfl rfl (host := "") (Or.inl (hw _ (List.mem_of_getElem? (i := 35) rfl))) d16_138 rfl (fun T890 X891 => ?_)
    refine g_private (argsL := [(.ref fd)]) (rest := []) (W := 0) (a := a1) X891 C (rmCount l Z a0 hw a1 fd tm sr ub fd c5 c6 c7 c8 nn (2 : Int32) lw bl (2 : Int32) 2 _ h884 n0 hz887 (Or.inr ⟨rfl, rfl⟩) O_a1 A_fd []) O_a1.1 (hw _ (List.mem_of_getElem? (i := 149) rfl)) (hw _ (List.mem_of_getElem? (i := 150) rfl)) (hw _ (List.mem_of_getElem? (i := 151) rfl)) (hw _ (List.mem_of_getElem? (i := 1) rfl)) (hw _ (List.mem_of_getElem? (i := 2) rfl)) (hw _ (List.mem_of_getElem? (i := 152) rfl)) (by decide) pd_10 rfl rfl rfl rfl rfl (by decide) (by decide) (by decide) (by decide) d16_141 rfl (fun r895 T892 h894 hQ896 X893 => ?_)
    obtain ⟨q897, rfl, hh⟩ := hQ896; rw [hh] at X893
    show Go p e below RS T892 (mkF m 144 #[.val (.ref a1), .val (.int (-1 : Int32)), .val (.long p3), .second, .val (.int (0 : Int32)), .unset, .unset, .unset, .unset, .unset] [(.int q897)])
    refine g_iload X893 C d16_144 rfl rfl ?_
    refine g_icmp_lt (a := q897.toInt) (b := 0) X893 C d16_146 rfl (by decide) (by decide) (pT := 153) (by decide) (pF := 149) rfl (fun hc146_898 => ?_) (fun hc146_898 => ?_)
    ·
      refine g_iconst (v := 0) X893 C d16_153 (by decide) rfl ?_
      rw [hRS]
      refine g_retZ X893 C d16_154 ?_ (by decide) (by decide)
      refine ⟨⟨_, rfl⟩, KK888, _, A_fd, ?_⟩
      exact Or.inr ⟨by omega, fun _ _ => rfl⟩
    ·
      refine g_iconst (v := 1) X893 C d16_149 (by decide) rfl ?_
      refine g_goto (pc' := 154) X893 C d16_150 (by decide) (by decide) ?_
      rw [hRS]
      refine g_retZ X893 C d16_154 ?_ (by decide) (by decide)
      refine ⟨⟨_, rfl⟩, KK888, _, A_fd, ?_⟩
      exact Or.inr ⟨by omega, fun _ _ => rfl⟩
theorem ef_rmFA0 (m : MethodId) (a1 : Addr) (p3 : Int64) : entryFrame m #[(.ref a1), (.int (0 : Int32)), (.long p3), (.int (0 : Int32))] 10 = mkF m 0 #[.val (.ref a1), .val (.int (0 : Int32)), .val (.long p3), .second, .val (.int (0 : Int32)), .unset, .unset, .unset, .unset, .unset] [] := by first | (simp [entryFrame, mkF, argsToLocals, Value.category]; done) | rfl
set_option maxRecDepth 65536 in
set_option maxHeartbeats 40000000 in
theorem rmFA0 (l : Launch) (Z : State) (a0 : Array Value) (hw : ∀ d ∈ tables_1, d.before a0 Z = true) (a1 : Addr) (p3 : Int64) (tm sr ub fd c5 c6 c7 c8 : Addr) (nn wv : Int32) (lw : Int64) (bl : Int32) (wn : Nat) (gt gm gf : Nat → Int64) (fn : Nat → Value) (gu : Nat → Int32) (s0 s1 b0 b1 e0 e1 : Addr) (h0 : Heap) (n0 : Nat) (hz0 : Lo n0 h0.size) (hst : 0 ≤ p3.toInt ∧ p3.toInt < 10) (hwn : own_W wn wv) (hgt0 : (gt 0).toInt = 0) (hgt1 : (gt 1).toInt = 10) (hfn0 : fn 0 = .ref s0) (hfn1 : fn 1 = .ref s1) (hnn : 0 ≤ nn.toInt) (hgu : ∀ k, k < 2 → 0 ≤ (gu k).toInt) (ga_a1 : Lo n0 a1) (ga_fd : Lo n0 fd) (ne_a1_fd : NE a1 fd) (ne_tm_fd : NE tm fd) (ne_sr_fd : NE sr fd) (ne_ub_fd : NE ub fd) (ne_s0_fd : NE s0 fd) (ne_s1_fd : NE s1 fd) (ne_b0_fd : NE b0 fd) (ne_b1_fd : NE b1 fd) (ne_e0_fd : NE e0 fd) (ne_e1_fd : NE e1 fd) (ne_tm_a1 : NE tm a1) (ne_sr_a1 : NE sr a1) (ne_ub_a1 : NE ub a1) (ne_s0_a1 : NE s0 a1) (ne_s1_a1 : NE s1 a1) (ne_b0_a1 : NE b0 a1) (ne_b1_a1 : NE b1 a1) (ne_e0_a1 : NE e0 a1) (ne_e1_a1 : NE e1 a1) (O_a1 : Ob Z h0 a1 "org/foreslot/planning/ClusterTimeline" NS_CT [(.ref tm), (.ref sr), (.ref ub), (.long (-9223372036854775808 : Int64)), (.long (1 : Int64)), (.long (9223372036854775807 : Int64)), (.long (-9223372036854775808 : Int64)), (.int nn), (.int wv), (.long lw), (.ref fd), (.ref c5), (.ref c6), (.ref c7), (.ref c8), (.int (2 : Int32)), (.int bl)]) (A_tm : Ar Z h0 tm .long 16 (fun j_ => .long (gt j_))) (A_sr : ArR Z h0 sr "org/foreslot/planning/ClusterTimeline$Stretch" 16 fn) (A_ub : Ar Z h0 ub .int 16 (fun k => .int (gu k))) (O_s0 : Ob Z h0 s0 "org/foreslot/planning/ClusterTimeline$Stretch" NS_SR [(.ref b0), (.ref e0), .null, .null, .null]) (O_s1 : Ob Z h0 s1 "org/foreslot/planning/ClusterTimeline$Stretch" NS_SR [(.ref b1), (.ref e1), .null, .null, .null]) (A_b0 : Ar Z h0 b0 .long wn (fun j_ => .long (gm j_))) (A_e0 : Ar Z h0 e0 .long wn (fun j_ => .long ((fun _ => 0) j_))) (A_b1 : Ar Z h0 b1 .long wn (fun j_ => .long ((fun _ => 0) j_))) (A_e1 : Ar Z h0 e1 .long wn (fun j_ => .long (gm j_))) (A_fd : Ar Z h0 fd .long wn (fun j_ => .long (gf j_))) (ws : List Jvm.Cond) :
    Ctr l (⟨"org/foreslot/planning/ClusterTimeline", "freeAt", "(IJI)Z"⟩ : MethodName) prog_29_method_24_code 10 (some .boolean) ({ frames := 2, cells := 0, slots := 0, locals := 40 } : Room) Z n0 #[(.ref a1), (.int (0 : Int32)), (.long p3), (.int (0 : Int32))] h0 (fun v h => (∃ r : Int32, v = some (.int r)) ∧ Keep h0 h [fd] ∧ ∃ gf' : Nat → Int64, Ar Z h fd .long wn (fun j_ => .long (gf' j_)) ∧ own_fd wn lw gm gf' (0 < p3.toInt ∧ p3.toInt < 10)) ws := by
  refine ctr_of (plainFor_of_name pn_1) ?_
  intro p e s m below meth c T0 X0 C
  refine go_cast (ef_rmFA0 m a1 p3) ?_
  obtain ⟨RS, hRS⟩ : ∃ RS, RS = Rs s below n0 (fun v h => (∃ r : Int32, v = some (.int r)) ∧ Keep h0 h [fd] ∧ ∃ gf' : Nat → Int64, Ar Z h fd .long wn (fun j_ => .long (gf' j_)) ∧ own_fd wn lw gm gf' (0 < p3.toInt ∧ p3.toInt < 10)) ({ frames := 2, cells := 0, slots := 0, locals := 40 } : Room).cells ({ frames := 2, cells := 0, slots := 0, locals := 40 } : Room).slots := ⟨_, rfl⟩
  suffices HG : Go p e below RS T0 (mkF m 0 #[.val (.ref a1), .val (.int (0 : Int32)), .val (.long p3), .second, .val (.int (0 : Int32)), .unset, .unset, .unset, .unset, .unset] []) by rw [hRS] at HG; exact HG
  show Go p e below RS T0 (mkF m 0 #[.val (.ref a1), .val (.int (0 : Int32)), .val (.long p3), .second, .val (.int (0 : Int32)), .unset, .unset, .unset, .unset, .unset] [])
  rcases hwn with ⟨rfl, rfl⟩ | ⟨rfl, rfl⟩
  ·
    show Go p e below RS T0 (mkF m 0 #[.val (.ref a1), .val (.int (0 : Int32)), .val (.long p3), .second, .val (.int (0 : Int32)), .unset, .unset, .unset, .unset, .unset] [])
    refine g_aloadN X0 C d16_0 rfl rfl rfl ?_
    refine g_iloadN X0 C d16_1 rfl rfl ?_
    refine g_private (argsL := [(.int (0 : Int32))]) (rest := []) (W := 0) (a := a1) X0 C (rmNBi l Z a0 hw a1 (0 : Int32) tm sr ub fd c5 c6 c7 c8 nn (1 : Int32) lw bl (2 : Int32) 1 gf 0 fn s0 b0 e0 gm h0 n0 hz0 (by decide) (Or.inl ⟨rfl, rfl⟩) ga_fd ne_a1_fd O_a1 A_fd (by decide) hfn0 ne_sr_fd ne_s0_fd ne_b0_fd A_sr O_s0 A_b0 []) O_a1.1 (hw _ (List.mem_of_getElem? (i := 140) rfl)) (hw _ (List.mem_of_getElem? (i := 141) rfl)) (hw _ (List.mem_of_getElem? (i := 142) rfl)) (hw _ (List.mem_of_getElem? (i := 1) rfl)) (hw _ (List.mem_of_getElem? (i := 2) rfl)) (hw _ (List.mem_of_getElem? (i := 143) rfl)) (by decide) pd_6 rfl rfl rfl rfl rfl (by decide) (by decide) (by decide) (by decide) d16_2 rfl (fun r902 T899 h901 hQ903 X900 => ?_)
    obtain ⟨rfl, KNB, A_fd⟩ := hQ903
    have O_a1 := O_a1.keep KNB (ninN ne_a1_fd nin0)
    have A_tm := A_tm.keep KNB (ninN ne_tm_fd nin0)
    have A_sr := A_sr.keep KNB (ninN ne_sr_fd nin0)
    have A_ub := A_ub.keep KNB (ninN ne_ub_fd nin0)
    have O_s0 := O_s0.keep KNB (ninN ne_s0_fd nin0)
    have O_s1 := O_s1.keep KNB (ninN ne_s1_fd nin0)
    have A_b0 := A_b0.keep KNB (ninN ne_b0_fd nin0)
    have A_e0 := A_e0.keep KNB (ninN ne_e0_fd nin0)
    have A_b1 := A_b1.keep KNB (ninN ne_b1_fd nin0)
    have A_e1 := A_e1.keep KNB (ninN ne_e1_fd nin0)
    have hz904 : Lo n0 h901.size := Lo.keep hz0 KNB
    have KK905 := (Keep.refl h0 [fd]).trans KNB (allS (Or.inl (List.mem_of_getElem? (i := 0) rfl)) all0)
    show Go p e below RS T899 (mkF m 5 #[.val (.ref a1), .val (.int (0 : Int32)), .val (.long p3), .second, .val (.int (0 : Int32)), .unset, .unset, .unset, .unset, .unset] [])
    refine g_iloadN X900 C d16_5 rfl rfl ?_
    refine g_if_lt (a := 0) X900 C d16_6 (by decide) (by decide) (pT := 136) (by decide) (pF := 9) rfl (fun hc6_906 => absurd hc6_906 (by omega)) (fun hc6_906 => ?_)
    refine g_aloadN X900 C d16_9 rfl rfl rfl ?_
    refine g_getO (i := 0) X900 C O_a1 rfl rfl (host := "") (Or.inl (hw _ (List.mem_of_getElem? (i := 10) rfl))) d16_10 rfl (fun T907 X908 => ?_)
    refine g_iloadN X908 C d16_13 rfl rfl ?_
    refine g_laload (i := 0) (v := (.long (gt 0))) X908 C A_tm (by decide) (by decide) rfl d16_14 rfl ?_
    refine g_lloadN X908 C d16_15 rfl rfl ?_
    refine g_lcmp X908 C d16_16 rfl ?_
    refine g_lif_ne (a := (gt 0).toInt) (b := p3.toInt) X908 C d16_17 rfl rfl (by decide) (pT := 136) (by decide) (pF := 20) rfl (fun hc17_909 => ?_) (fun hc17_909 => ?_)
    ·
      refine g_aloadN X908 C d16_136 rfl rfl rfl ?_
      refine g_aloadN X908 C d16_137 rfl rfl rfl ?_
      refine g_getO (i := 10) X908 C O_a1 rfl rfl (host := "") (Or.inl (hw _ (List.mem_of_getElem? (i := 35) rfl))) d16_138 rfl (fun T910 X911 => ?_)
      refine g_private (argsL := [(.ref fd)]) (rest := []) (W := 0) (a := a1) X911 C (rmCount l Z a0 hw a1 fd tm sr ub fd c5 c6 c7 c8 nn (1 : Int32) lw bl (2 : Int32) 1 _ h901 n0 hz904 (Or.inl ⟨rfl, rfl⟩) O_a1 A_fd []) O_a1.1 (hw _ (List.mem_of_getElem? (i := 149) rfl)) (hw _ (List.mem_of_getElem? (i := 150) rfl)) (hw _ (List.mem_of_getElem? (i := 151) rfl)) (hw _ (List.mem_of_getElem? (i := 1) rfl)) (hw _ (List.mem_of_getElem? (i := 2) rfl)) (hw _ (List.mem_of_getElem? (i := 152) rfl)) (by decide) pd_10 rfl rfl rfl rfl rfl (by decide) (by decide) (by decide) (by decide) d16_141 rfl (fun r915 T912 h914 hQ916 X913 => ?_)
      obtain ⟨q917, rfl, hh⟩ := hQ916; rw [hh] at X913
      show Go p e below RS T912 (mkF m 144 #[.val (.ref a1), .val (.int (0 : Int32)), .val (.long p3), .second, .val (.int (0 : Int32)), .unset, .unset, .unset, .unset, .unset] [(.int q917)])
      refine g_iload X913 C d16_144 rfl rfl ?_
      refine g_icmp_lt (a := q917.toInt) (b := 0) X913 C d16_146 rfl (by decide) (by decide) (pT := 153) (by decide) (pF := 149) rfl (fun hc146_918 => ?_) (fun hc146_918 => ?_)
      ·
        refine g_iconst (v := 0) X913 C d16_153 (by decide) rfl ?_
        rw [hRS]
        refine g_retZ X913 C d16_154 ?_ (by decide) (by decide)
        refine ⟨⟨_, rfl⟩, KK905, _, A_fd, ?_⟩
        exact Or.inl ⟨by omega, fun _ _ => rfl⟩
      ·
        refine g_iconst (v := 1) X913 C d16_149 (by decide) rfl ?_
        refine g_goto (pc' := 154) X913 C d16_150 (by decide) (by decide) ?_
        rw [hRS]
        refine g_retZ X913 C d16_154 ?_ (by decide) (by decide)
        refine ⟨⟨_, rfl⟩, KK905, _, A_fd, ?_⟩
        exact Or.inl ⟨by omega, fun _ _ => rfl⟩
    ·
      refine g_aloadN X908 C d16_20 rfl rfl rfl ?_
      refine g_getO (i := 1) X908 C O_a1 rfl rfl (host := "") (Or.inl (hw _ (List.mem_of_getElem? (i := 14) rfl))) d16_21 rfl (fun T919 X920 => ?_)
      refine g_iloadN X920 C d16_24 rfl rfl ?_
      refine g_aaload (i := 0) (v := (.ref s0)) X920 C A_sr (by decide) (by decide) hfn0 d16_25 rfl ?_
      refine g_astore (L' := #[.val (.ref a1), .val (.int (0 : Int32)), .val (.long p3), .second, .val (.int (0 : Int32)), .val (.ref s0), .unset, .unset, .unset, .unset]) X920 C d16_26 rfl rfl rfl ?_
      refine g_iloadN X920 C d16_28 rfl rfl ?_
      refine g_if_le (a := 0) X920 C d16_29 (by decide) (by decide) (pT := 46) (by decide) (pF := 32) rfl (fun hc29_921 => ?_) (fun hc29_921 => absurd hc29_921 (by omega))
      refine g_aconst X920 C d16_46 rfl ?_
      refine g_astore (L' := #[.val (.ref a1), .val (.int (0 : Int32)), .val (.long p3), .second, .val (.int (0 : Int32)), .val (.ref s0), .val .null, .unset, .unset, .unset]) X920 C d16_47 rfl rfl rfl ?_
      refine g_iconst (v := 0) X920 C d16_49 (by decide) rfl ?_
      refine g_istore (L' := #[.val (.ref a1), .val (.int (0 : Int32)), .val (.long p3), .second, .val (.int (0 : Int32)), .val (.ref s0), .val .null, .val (.int (0 : Int32)), .unset, .unset]) X920 C d16_50 rfl rfl rfl ?_
      refine g_iload X920 C d16_52 rfl rfl ?_
      refine g_aloadN X920 C d16_54 rfl rfl rfl ?_
      refine g_getO (i := 8) X920 C O_a1 rfl rfl (host := "") (Or.inl (hw _ (List.mem_of_getElem? (i := 31) rfl))) d16_55 rfl (fun T922 X923 => ?_)
      refine g_icmp_ge (a := 0) (b := 1) X923 C d16_58 (by decide) (by decide) (by decide) (pT := 118) (by decide) (pF := 61) rfl (fun hc58_924 => absurd hc58_924 (by omega)) (fun hc58_924 => ?_)
      refine g_aload X923 C d16_61 rfl rfl rfl ?_
      refine g_nonnullN (pF := 66) X923 C d16_63 rfl ?_
      refine g_lconst (v := 0) X923 C d16_66 (by decide) rfl ?_
      refine g_goto (pc' := 97) X923 C d16_67 (by decide) (by decide) ?_
      refine g_lstore (L' := #[.val (.ref a1), .val (.int (0 : Int32)), .val (.long p3), .second, .val (.int (0 : Int32)), .val (.ref s0), .val .null, .val (.int (0 : Int32)), .val (.long (0 : Int64)), .second]) X923 C d16_97 rfl rfl rfl ?_
      refine g_aloadN X923 C d16_99 rfl rfl rfl ?_
      refine g_getO (i := 10) X923 C O_a1 rfl rfl (host := "") (Or.inl (hw _ (List.mem_of_getElem? (i := 35) rfl))) d16_100 rfl (fun T925 X926 => ?_)
      refine g_iload X926 C d16_103 rfl rfl ?_
      refine g_lload X926 C d16_105 rfl rfl ?_
      refine g_ldcJ X926 C (hw _ (List.mem_of_getElem? (i := 144) rfl)) d16_107 rfl ?_
      refine g_lxor X926 C d16_110 rfl ?_
      refine g_lastore (i := 0) X926 C A_fd (by decide) (by decide) ga_fd d16_111 rfl (fun T927 h929 X928 A_fd K930 => ?_)
      have O_a1 := O_a1.keep K930 (ninN ne_a1_fd nin0)
      have A_tm := A_tm.keep K930 (ninN ne_tm_fd nin0)
      have A_sr := A_sr.keep K930 (ninN ne_sr_fd nin0)
      have A_ub := A_ub.keep K930 (ninN ne_ub_fd nin0)
      have O_s0 := O_s0.keep K930 (ninN ne_s0_fd nin0)
      have O_s1 := O_s1.keep K930 (ninN ne_s1_fd nin0)
      have A_b0 := A_b0.keep K930 (ninN ne_b0_fd nin0)
      have A_e0 := A_e0.keep K930 (ninN ne_e0_fd nin0)
      have A_b1 := A_b1.keep K930 (ninN ne_b1_fd nin0)
      have A_e1 := A_e1.keep K930 (ninN ne_e1_fd nin0)
      have hz931 : Lo n0 h929.size := Lo.keep hz904 K930
      have KK932 := KK905.trans K930 (allS (Or.inl (List.mem_of_getElem? (i := 0) rfl)) all0)
      refine g_iinc (v' := (1 : Int32)) (L' := #[.val (.ref a1), .val (.int (0 : Int32)), .val (.long p3), .second, .val (.int (0 : Int32)), .val (.ref s0), .val .null, .val (.int (1 : Int32)), .val (.long (0 : Int64)), .second]) X928 C d16_112 rfl (by decide) rfl rfl ?_
      refine g_goto (pc' := 52) X928 C d16_115 (by decide) (by decide) ?_
      refine g_iload X928 C d16_52 rfl rfl ?_
      refine g_aloadN X928 C d16_54 rfl rfl rfl ?_
      refine g_getO (i := 8) X928 C O_a1 rfl rfl (host := "") (Or.inl (hw _ (List.mem_of_getElem? (i := 31) rfl))) d16_55 rfl (fun T933 X934 => ?_)
      refine g_icmp_ge (a := 1) (b := 1) X934 C d16_58 (by decide) (by decide) (by decide) (pT := 118) (by decide) (pF := 61) rfl (fun hc58_935 => ?_) (fun hc58_935 => absurd hc58_935 (by omega))
      refine g_aloadN X934 C d16_118 rfl rfl rfl ?_
      refine g_getO (i := 10) X934 C O_a1 rfl rfl (host := "") (Or.inl (hw _ (List.mem_of_getElem? (i := 35) rfl))) d16_119 rfl (fun T936 X937 => ?_)
      refine g_aloadN X937 C d16_122 rfl rfl rfl ?_
      refine g_getO (i := 8) X937 C O_a1 rfl rfl (host := "") (Or.inl (hw _ (List.mem_of_getElem? (i := 31) rfl))) d16_123 rfl (fun T938 X939 => ?_)
      refine g_iconst (v := 1) X939 C d16_126 (by decide) rfl ?_
      refine g_isub X939 C d16_127 rfl ?_
      rw [show ((1 : Int32) - (1 : Int32)) = (0 : Int32) by decide]
      refine g_dup2 X939 C d16_128 rfl rfl rfl ?_
      refine g_laload (i := 0) (v := (.long ((0 : Int64) ^^^ (-1 : Int64)))) X939 C A_fd (by decide) (by decide) rfl d16_129 rfl ?_
      refine g_aloadN X939 C d16_130 rfl rfl rfl ?_
      refine g_getO (i := 9) X939 C O_a1 rfl rfl (host := "") (Or.inl (hw _ (List.mem_of_getElem? (i := 33) rfl))) d16_131 rfl (fun T940 X941 => ?_)
      refine g_land X941 C d16_134 rfl ?_
      refine g_lastore (i := 0) X941 C A_fd (by decide) (by decide) ga_fd d16_135 rfl (fun T942 h944 X943 A_fd K945 => ?_)
      have O_a1 := O_a1.keep K945 (ninN ne_a1_fd nin0)
      have A_tm := A_tm.keep K945 (ninN ne_tm_fd nin0)
      have A_sr := A_sr.keep K945 (ninN ne_sr_fd nin0)
      have A_ub := A_ub.keep K945 (ninN ne_ub_fd nin0)
      have O_s0 := O_s0.keep K945 (ninN ne_s0_fd nin0)
      have O_s1 := O_s1.keep K945 (ninN ne_s1_fd nin0)
      have A_b0 := A_b0.keep K945 (ninN ne_b0_fd nin0)
      have A_e0 := A_e0.keep K945 (ninN ne_e0_fd nin0)
      have A_b1 := A_b1.keep K945 (ninN ne_b1_fd nin0)
      have A_e1 := A_e1.keep K945 (ninN ne_e1_fd nin0)
      have hz946 : Lo n0 h944.size := Lo.keep hz931 K945
      have KK947 := KK932.trans K945 (allS (Or.inl (List.mem_of_getElem? (i := 0) rfl)) all0)
      refine g_aloadN X943 C d16_136 rfl rfl rfl ?_
      refine g_aloadN X943 C d16_137 rfl rfl rfl ?_
      refine g_getO (i := 10) X943 C O_a1 rfl rfl (host := "") (Or.inl (hw _ (List.mem_of_getElem? (i := 35) rfl))) d16_138 rfl (fun T948 X949 => ?_)
      refine g_private (argsL := [(.ref fd)]) (rest := []) (W := 0) (a := a1) X949 C (rmCount l Z a0 hw a1 fd tm sr ub fd c5 c6 c7 c8 nn (1 : Int32) lw bl (2 : Int32) 1 _ h944 n0 hz946 (Or.inl ⟨rfl, rfl⟩) O_a1 A_fd []) O_a1.1 (hw _ (List.mem_of_getElem? (i := 149) rfl)) (hw _ (List.mem_of_getElem? (i := 150) rfl)) (hw _ (List.mem_of_getElem? (i := 151) rfl)) (hw _ (List.mem_of_getElem? (i := 1) rfl)) (hw _ (List.mem_of_getElem? (i := 2) rfl)) (hw _ (List.mem_of_getElem? (i := 152) rfl)) (by decide) pd_10 rfl rfl rfl rfl rfl (by decide) (by decide) (by decide) (by decide) d16_141 rfl (fun r953 T950 h952 hQ954 X951 => ?_)
      obtain ⟨q955, rfl, hh⟩ := hQ954; rw [hh] at X951
      show Go p e below RS T950 (mkF m 144 #[.val (.ref a1), .val (.int (0 : Int32)), .val (.long p3), .second, .val (.int (0 : Int32)), .val (.ref s0), .val .null, .val (.int (1 : Int32)), .val (.long (0 : Int64)), .second] [(.int q955)])
      refine g_iload X951 C d16_144 rfl rfl ?_
      refine g_icmp_lt (a := q955.toInt) (b := 0) X951 C d16_146 rfl (by decide) (by decide) (pT := 153) (by decide) (pF := 149) rfl (fun hc146_956 => ?_) (fun hc146_956 => ?_)
      ·
        refine g_iconst (v := 0) X951 C d16_153 (by decide) rfl ?_
        rw [hRS]
        refine g_retZ X951 C d16_154 ?_ (by decide) (by decide)
        refine ⟨⟨_, rfl⟩, KK947, _, A_fd, ?_⟩
        refine Or.inr ⟨by omega, own_all1 ?_⟩ <;> first | rfl | (simp [own_nb]; done)
      ·
        refine g_iconst (v := 1) X951 C d16_149 (by decide) rfl ?_
        refine g_goto (pc' := 154) X951 C d16_150 (by decide) (by decide) ?_
        rw [hRS]
        refine g_retZ X951 C d16_154 ?_ (by decide) (by decide)
        refine ⟨⟨_, rfl⟩, KK947, _, A_fd, ?_⟩
        refine Or.inr ⟨by omega, own_all1 ?_⟩ <;> first | rfl | (simp [own_nb]; done)
  ·
    show Go p e below RS T0 (mkF m 0 #[.val (.ref a1), .val (.int (0 : Int32)), .val (.long p3), .second, .val (.int (0 : Int32)), .unset, .unset, .unset, .unset, .unset] [])
    refine g_aloadN X0 C d16_0 rfl rfl rfl ?_
    refine g_iloadN X0 C d16_1 rfl rfl ?_
    refine g_private (argsL := [(.int (0 : Int32))]) (rest := []) (W := 0) (a := a1) X0 C (rmNBi l Z a0 hw a1 (0 : Int32) tm sr ub fd c5 c6 c7 c8 nn (2 : Int32) lw bl (2 : Int32) 2 gf 0 fn s0 b0 e0 gm h0 n0 hz0 (by decide) (Or.inr ⟨rfl, rfl⟩) ga_fd ne_a1_fd O_a1 A_fd (by decide) hfn0 ne_sr_fd ne_s0_fd ne_b0_fd A_sr O_s0 A_b0 []) O_a1.1 (hw _ (List.mem_of_getElem? (i := 140) rfl)) (hw _ (List.mem_of_getElem? (i := 141) rfl)) (hw _ (List.mem_of_getElem? (i := 142) rfl)) (hw _ (List.mem_of_getElem? (i := 1) rfl)) (hw _ (List.mem_of_getElem? (i := 2) rfl)) (hw _ (List.mem_of_getElem? (i := 143) rfl)) (by decide) pd_6 rfl rfl rfl rfl rfl (by decide) (by decide) (by decide) (by decide) d16_2 rfl (fun r960 T957 h959 hQ961 X958 => ?_)
    obtain ⟨rfl, KNB, A_fd⟩ := hQ961
    have O_a1 := O_a1.keep KNB (ninN ne_a1_fd nin0)
    have A_tm := A_tm.keep KNB (ninN ne_tm_fd nin0)
    have A_sr := A_sr.keep KNB (ninN ne_sr_fd nin0)
    have A_ub := A_ub.keep KNB (ninN ne_ub_fd nin0)
    have O_s0 := O_s0.keep KNB (ninN ne_s0_fd nin0)
    have O_s1 := O_s1.keep KNB (ninN ne_s1_fd nin0)
    have A_b0 := A_b0.keep KNB (ninN ne_b0_fd nin0)
    have A_e0 := A_e0.keep KNB (ninN ne_e0_fd nin0)
    have A_b1 := A_b1.keep KNB (ninN ne_b1_fd nin0)
    have A_e1 := A_e1.keep KNB (ninN ne_e1_fd nin0)
    have hz962 : Lo n0 h959.size := Lo.keep hz0 KNB
    have KK963 := (Keep.refl h0 [fd]).trans KNB (allS (Or.inl (List.mem_of_getElem? (i := 0) rfl)) all0)
    show Go p e below RS T957 (mkF m 5 #[.val (.ref a1), .val (.int (0 : Int32)), .val (.long p3), .second, .val (.int (0 : Int32)), .unset, .unset, .unset, .unset, .unset] [])
    refine g_iloadN X958 C d16_5 rfl rfl ?_
    refine g_if_lt (a := 0) X958 C d16_6 (by decide) (by decide) (pT := 136) (by decide) (pF := 9) rfl (fun hc6_964 => absurd hc6_964 (by omega)) (fun hc6_964 => ?_)
    refine g_aloadN X958 C d16_9 rfl rfl rfl ?_
    refine g_getO (i := 0) X958 C O_a1 rfl rfl (host := "") (Or.inl (hw _ (List.mem_of_getElem? (i := 10) rfl))) d16_10 rfl (fun T965 X966 => ?_)
    refine g_iloadN X966 C d16_13 rfl rfl ?_
    refine g_laload (i := 0) (v := (.long (gt 0))) X966 C A_tm (by decide) (by decide) rfl d16_14 rfl ?_
    refine g_lloadN X966 C d16_15 rfl rfl ?_
    refine g_lcmp X966 C d16_16 rfl ?_
    refine g_lif_ne (a := (gt 0).toInt) (b := p3.toInt) X966 C d16_17 rfl rfl (by decide) (pT := 136) (by decide) (pF := 20) rfl (fun hc17_967 => ?_) (fun hc17_967 => ?_)
    ·
      refine g_aloadN X966 C d16_136 rfl rfl rfl ?_
      refine g_aloadN X966 C d16_137 rfl rfl rfl ?_
      refine g_getO (i := 10) X966 C O_a1 rfl rfl (host := "") (Or.inl (hw _ (List.mem_of_getElem? (i := 35) rfl))) d16_138 rfl (fun T968 X969 => ?_)
      refine g_private (argsL := [(.ref fd)]) (rest := []) (W := 0) (a := a1) X969 C (rmCount l Z a0 hw a1 fd tm sr ub fd c5 c6 c7 c8 nn (2 : Int32) lw bl (2 : Int32) 2 _ h959 n0 hz962 (Or.inr ⟨rfl, rfl⟩) O_a1 A_fd []) O_a1.1 (hw _ (List.mem_of_getElem? (i := 149) rfl)) (hw _ (List.mem_of_getElem? (i := 150) rfl)) (hw _ (List.mem_of_getElem? (i := 151) rfl)) (hw _ (List.mem_of_getElem? (i := 1) rfl)) (hw _ (List.mem_of_getElem? (i := 2) rfl)) (hw _ (List.mem_of_getElem? (i := 152) rfl)) (by decide) pd_10 rfl rfl rfl rfl rfl (by decide) (by decide) (by decide) (by decide) d16_141 rfl (fun r973 T970 h972 hQ974 X971 => ?_)
      obtain ⟨q975, rfl, hh⟩ := hQ974; rw [hh] at X971
      show Go p e below RS T970 (mkF m 144 #[.val (.ref a1), .val (.int (0 : Int32)), .val (.long p3), .second, .val (.int (0 : Int32)), .unset, .unset, .unset, .unset, .unset] [(.int q975)])
      refine g_iload X971 C d16_144 rfl rfl ?_
      refine g_icmp_lt (a := q975.toInt) (b := 0) X971 C d16_146 rfl (by decide) (by decide) (pT := 153) (by decide) (pF := 149) rfl (fun hc146_976 => ?_) (fun hc146_976 => ?_)
      ·
        refine g_iconst (v := 0) X971 C d16_153 (by decide) rfl ?_
        rw [hRS]
        refine g_retZ X971 C d16_154 ?_ (by decide) (by decide)
        refine ⟨⟨_, rfl⟩, KK963, _, A_fd, ?_⟩
        exact Or.inl ⟨by omega, fun _ _ => rfl⟩
      ·
        refine g_iconst (v := 1) X971 C d16_149 (by decide) rfl ?_
        refine g_goto (pc' := 154) X971 C d16_150 (by decide) (by decide) ?_
        rw [hRS]
        refine g_retZ X971 C d16_154 ?_ (by decide) (by decide)
        refine ⟨⟨_, rfl⟩, KK963, _, A_fd, ?_⟩
        exact Or.inl ⟨by omega, fun _ _ => rfl⟩
    ·
      refine g_aloadN X966 C d16_20 rfl rfl rfl ?_
      refine g_getO (i := 1) X966 C O_a1 rfl rfl (host := "") (Or.inl (hw _ (List.mem_of_getElem? (i := 14) rfl))) d16_21 rfl (fun T977 X978 => ?_)
      refine g_iloadN X978 C d16_24 rfl rfl ?_
      refine g_aaload (i := 0) (v := (.ref s0)) X978 C A_sr (by decide) (by decide) hfn0 d16_25 rfl ?_
      refine g_astore (L' := #[.val (.ref a1), .val (.int (0 : Int32)), .val (.long p3), .second, .val (.int (0 : Int32)), .val (.ref s0), .unset, .unset, .unset, .unset]) X978 C d16_26 rfl rfl rfl ?_
      refine g_iloadN X978 C d16_28 rfl rfl ?_
      refine g_if_le (a := 0) X978 C d16_29 (by decide) (by decide) (pT := 46) (by decide) (pF := 32) rfl (fun hc29_979 => ?_) (fun hc29_979 => absurd hc29_979 (by omega))
      refine g_aconst X978 C d16_46 rfl ?_
      refine g_astore (L' := #[.val (.ref a1), .val (.int (0 : Int32)), .val (.long p3), .second, .val (.int (0 : Int32)), .val (.ref s0), .val .null, .unset, .unset, .unset]) X978 C d16_47 rfl rfl rfl ?_
      refine g_iconst (v := 0) X978 C d16_49 (by decide) rfl ?_
      refine g_istore (L' := #[.val (.ref a1), .val (.int (0 : Int32)), .val (.long p3), .second, .val (.int (0 : Int32)), .val (.ref s0), .val .null, .val (.int (0 : Int32)), .unset, .unset]) X978 C d16_50 rfl rfl rfl ?_
      refine g_iload X978 C d16_52 rfl rfl ?_
      refine g_aloadN X978 C d16_54 rfl rfl rfl ?_
      refine g_getO (i := 8) X978 C O_a1 rfl rfl (host := "") (Or.inl (hw _ (List.mem_of_getElem? (i := 31) rfl))) d16_55 rfl (fun T980 X981 => ?_)
      refine g_icmp_ge (a := 0) (b := 2) X981 C d16_58 (by decide) (by decide) (by decide) (pT := 118) (by decide) (pF := 61) rfl (fun hc58_982 => absurd hc58_982 (by omega)) (fun hc58_982 => ?_)
      refine g_aload X981 C d16_61 rfl rfl rfl ?_
      refine g_nonnullN (pF := 66) X981 C d16_63 rfl ?_
      refine g_lconst (v := 0) X981 C d16_66 (by decide) rfl ?_
      refine g_goto (pc' := 97) X981 C d16_67 (by decide) (by decide) ?_
      refine g_lstore (L' := #[.val (.ref a1), .val (.int (0 : Int32)), .val (.long p3), .second, .val (.int (0 : Int32)), .val (.ref s0), .val .null, .val (.int (0 : Int32)), .val (.long (0 : Int64)), .second]) X981 C d16_97 rfl rfl rfl ?_
      refine g_aloadN X981 C d16_99 rfl rfl rfl ?_
      refine g_getO (i := 10) X981 C O_a1 rfl rfl (host := "") (Or.inl (hw _ (List.mem_of_getElem? (i := 35) rfl))) d16_100 rfl (fun T983 X984 => ?_)
      refine g_iload X984 C d16_103 rfl rfl ?_
      refine g_lload X984 C d16_105 rfl rfl ?_
      refine g_ldcJ X984 C (hw _ (List.mem_of_getElem? (i := 144) rfl)) d16_107 rfl ?_
      refine g_lxor X984 C d16_110 rfl ?_
      refine g_lastore (i := 0) X984 C A_fd (by decide) (by decide) ga_fd d16_111 rfl (fun T985 h987 X986 A_fd K988 => ?_)
      have O_a1 := O_a1.keep K988 (ninN ne_a1_fd nin0)
      have A_tm := A_tm.keep K988 (ninN ne_tm_fd nin0)
      have A_sr := A_sr.keep K988 (ninN ne_sr_fd nin0)
      have A_ub := A_ub.keep K988 (ninN ne_ub_fd nin0)
      have O_s0 := O_s0.keep K988 (ninN ne_s0_fd nin0)
      have O_s1 := O_s1.keep K988 (ninN ne_s1_fd nin0)
      have A_b0 := A_b0.keep K988 (ninN ne_b0_fd nin0)
      have A_e0 := A_e0.keep K988 (ninN ne_e0_fd nin0)
      have A_b1 := A_b1.keep K988 (ninN ne_b1_fd nin0)
      have A_e1 := A_e1.keep K988 (ninN ne_e1_fd nin0)
      have hz989 : Lo n0 h987.size := Lo.keep hz962 K988
      have KK990 := KK963.trans K988 (allS (Or.inl (List.mem_of_getElem? (i := 0) rfl)) all0)
      refine g_iinc (v' := (1 : Int32)) (L' := #[.val (.ref a1), .val (.int (0 : Int32)), .val (.long p3), .second, .val (.int (0 : Int32)), .val (.ref s0), .val .null, .val (.int (1 : Int32)), .val (.long (0 : Int64)), .second]) X986 C d16_112 rfl (by decide) rfl rfl ?_
      refine g_goto (pc' := 52) X986 C d16_115 (by decide) (by decide) ?_
      refine g_iload X986 C d16_52 rfl rfl ?_
      refine g_aloadN X986 C d16_54 rfl rfl rfl ?_
      refine g_getO (i := 8) X986 C O_a1 rfl rfl (host := "") (Or.inl (hw _ (List.mem_of_getElem? (i := 31) rfl))) d16_55 rfl (fun T991 X992 => ?_)
      refine g_icmp_ge (a := 1) (b := 2) X992 C d16_58 (by decide) (by decide) (by decide) (pT := 118) (by decide) (pF := 61) rfl (fun hc58_993 => absurd hc58_993 (by omega)) (fun hc58_993 => ?_)
      refine g_aload X992 C d16_61 rfl rfl rfl ?_
      refine g_nonnullN (pF := 66) X992 C d16_63 rfl ?_
      refine g_lconst (v := 0) X992 C d16_66 (by decide) rfl ?_
      refine g_goto (pc' := 97) X992 C d16_67 (by decide) (by decide) ?_
      refine g_lstore (L' := #[.val (.ref a1), .val (.int (0 : Int32)), .val (.long p3), .second, .val (.int (0 : Int32)), .val (.ref s0), .val .null, .val (.int (1 : Int32)), .val (.long (0 : Int64)), .second]) X992 C d16_97 rfl rfl rfl ?_
      refine g_aloadN X992 C d16_99 rfl rfl rfl ?_
      refine g_getO (i := 10) X992 C O_a1 rfl rfl (host := "") (Or.inl (hw _ (List.mem_of_getElem? (i := 35) rfl))) d16_100 rfl (fun T994 X995 => ?_)
      refine g_iload X995 C d16_103 rfl rfl ?_
      refine g_lload X995 C d16_105 rfl rfl ?_
      refine g_ldcJ X995 C (hw _ (List.mem_of_getElem? (i := 144) rfl)) d16_107 rfl ?_
      refine g_lxor X995 C d16_110 rfl ?_
      refine g_lastore (i := 1) X995 C A_fd (by decide) (by decide) ga_fd d16_111 rfl (fun T996 h998 X997 A_fd K999 => ?_)
      have O_a1 := O_a1.keep K999 (ninN ne_a1_fd nin0)
      have A_tm := A_tm.keep K999 (ninN ne_tm_fd nin0)
      have A_sr := A_sr.keep K999 (ninN ne_sr_fd nin0)
      have A_ub := A_ub.keep K999 (ninN ne_ub_fd nin0)
      have O_s0 := O_s0.keep K999 (ninN ne_s0_fd nin0)
      have O_s1 := O_s1.keep K999 (ninN ne_s1_fd nin0)
      have A_b0 := A_b0.keep K999 (ninN ne_b0_fd nin0)
      have A_e0 := A_e0.keep K999 (ninN ne_e0_fd nin0)
      have A_b1 := A_b1.keep K999 (ninN ne_b1_fd nin0)
      have A_e1 := A_e1.keep K999 (ninN ne_e1_fd nin0)
      have hz1000 : Lo n0 h998.size := Lo.keep hz989 K999
      have KK1001 := KK990.trans K999 (allS (Or.inl (List.mem_of_getElem? (i := 0) rfl)) all0)
      refine g_iinc (v' := (2 : Int32)) (L' := #[.val (.ref a1), .val (.int (0 : Int32)), .val (.long p3), .second, .val (.int (0 : Int32)), .val (.ref s0), .val .null, .val (.int (2 : Int32)), .val (.long (0 : Int64)), .second]) X997 C d16_112 rfl (by decide) rfl rfl ?_
      refine g_goto (pc' := 52) X997 C d16_115 (by decide) (by decide) ?_
      refine g_iload X997 C d16_52 rfl rfl ?_
      refine g_aloadN X997 C d16_54 rfl rfl rfl ?_
      refine g_getO (i := 8) X997 C O_a1 rfl rfl (host := "") (Or.inl (hw _ (List.mem_of_getElem? (i := 31) rfl))) d16_55 rfl (fun T1002 X1003 => ?_)
      refine g_icmp_ge (a := 2) (b := 2) X1003 C d16_58 (by decide) (by decide) (by decide) (pT := 118) (by decide) (pF := 61) rfl (fun hc58_1004 => ?_) (fun hc58_1004 => absurd hc58_1004 (by omega))
      refine g_aloadN X1003 C d16_118 rfl rfl rfl ?_
      refine g_getO (i := 10) X1003 C O_a1 rfl rfl (host := "") (Or.inl (hw _ (List.mem_of_getElem? (i := 35) rfl))) d16_119 rfl (fun T1005 X1006 => ?_)
      refine g_aloadN X1006 C d16_122 rfl rfl rfl ?_
      refine g_getO (i := 8) X1006 C O_a1 rfl rfl (host := "") (Or.inl (hw _ (List.mem_of_getElem? (i := 31) rfl))) d16_123 rfl (fun T1007 X1008 => ?_)
      refine g_iconst (v := 1) X1008 C d16_126 (by decide) rfl ?_
      refine g_isub X1008 C d16_127 rfl ?_
      rw [show ((2 : Int32) - (1 : Int32)) = (1 : Int32) by decide]
      refine g_dup2 X1008 C d16_128 rfl rfl rfl ?_
      refine g_laload (i := 1) (v := (.long ((0 : Int64) ^^^ (-1 : Int64)))) X1008 C A_fd (by decide) (by decide) rfl d16_129 rfl ?_
      refine g_aloadN X1008 C d16_130 rfl rfl rfl ?_
      refine g_getO (i := 9) X1008 C O_a1 rfl rfl (host := "") (Or.inl (hw _ (List.mem_of_getElem? (i := 33) rfl))) d16_131 rfl (fun T1009 X1010 => ?_)
      refine g_land X1010 C d16_134 rfl ?_
      refine g_lastore (i := 1) X1010 C A_fd (by decide) (by decide) ga_fd d16_135 rfl (fun T1011 h1013 X1012 A_fd K1014 => ?_)
      have O_a1 := O_a1.keep K1014 (ninN ne_a1_fd nin0)
      have A_tm := A_tm.keep K1014 (ninN ne_tm_fd nin0)
      have A_sr := A_sr.keep K1014 (ninN ne_sr_fd nin0)
      have A_ub := A_ub.keep K1014 (ninN ne_ub_fd nin0)
      have O_s0 := O_s0.keep K1014 (ninN ne_s0_fd nin0)
      have O_s1 := O_s1.keep K1014 (ninN ne_s1_fd nin0)
      have A_b0 := A_b0.keep K1014 (ninN ne_b0_fd nin0)
      have A_e0 := A_e0.keep K1014 (ninN ne_e0_fd nin0)
      have A_b1 := A_b1.keep K1014 (ninN ne_b1_fd nin0)
      have A_e1 := A_e1.keep K1014 (ninN ne_e1_fd nin0)
      have hz1015 : Lo n0 h1013.size := Lo.keep hz1000 K1014
      have KK1016 := KK1001.trans K1014 (allS (Or.inl (List.mem_of_getElem? (i := 0) rfl)) all0)
      refine g_aloadN X1012 C d16_136 rfl rfl rfl ?_
      refine g_aloadN X1012 C d16_137 rfl rfl rfl ?_
      refine g_getO (i := 10) X1012 C O_a1 rfl rfl (host := "") (Or.inl (hw _ (List.mem_of_getElem? (i := 35) rfl))) d16_138 rfl (fun T1017 X1018 => ?_)
      refine g_private (argsL := [(.ref fd)]) (rest := []) (W := 0) (a := a1) X1018 C (rmCount l Z a0 hw a1 fd tm sr ub fd c5 c6 c7 c8 nn (2 : Int32) lw bl (2 : Int32) 2 _ h1013 n0 hz1015 (Or.inr ⟨rfl, rfl⟩) O_a1 A_fd []) O_a1.1 (hw _ (List.mem_of_getElem? (i := 149) rfl)) (hw _ (List.mem_of_getElem? (i := 150) rfl)) (hw _ (List.mem_of_getElem? (i := 151) rfl)) (hw _ (List.mem_of_getElem? (i := 1) rfl)) (hw _ (List.mem_of_getElem? (i := 2) rfl)) (hw _ (List.mem_of_getElem? (i := 152) rfl)) (by decide) pd_10 rfl rfl rfl rfl rfl (by decide) (by decide) (by decide) (by decide) d16_141 rfl (fun r1022 T1019 h1021 hQ1023 X1020 => ?_)
      obtain ⟨q1024, rfl, hh⟩ := hQ1023; rw [hh] at X1020
      show Go p e below RS T1019 (mkF m 144 #[.val (.ref a1), .val (.int (0 : Int32)), .val (.long p3), .second, .val (.int (0 : Int32)), .val (.ref s0), .val .null, .val (.int (2 : Int32)), .val (.long (0 : Int64)), .second] [(.int q1024)])
      refine g_iload X1020 C d16_144 rfl rfl ?_
      refine g_icmp_lt (a := q1024.toInt) (b := 0) X1020 C d16_146 rfl (by decide) (by decide) (pT := 153) (by decide) (pF := 149) rfl (fun hc146_1025 => ?_) (fun hc146_1025 => ?_)
      ·
        refine g_iconst (v := 0) X1020 C d16_153 (by decide) rfl ?_
        rw [hRS]
        refine g_retZ X1020 C d16_154 ?_ (by decide) (by decide)
        refine ⟨⟨_, rfl⟩, KK1016, _, A_fd, ?_⟩
        refine Or.inr ⟨by omega, own_all2 ?_ ?_⟩ <;> first | rfl | (simp [own_nb]; done)
      ·
        refine g_iconst (v := 1) X1020 C d16_149 (by decide) rfl ?_
        refine g_goto (pc' := 154) X1020 C d16_150 (by decide) (by decide) ?_
        rw [hRS]
        refine g_retZ X1020 C d16_154 ?_ (by decide) (by decide)
        refine ⟨⟨_, rfl⟩, KK1016, _, A_fd, ?_⟩
        refine Or.inr ⟨by omega, own_all2 ?_ ?_⟩ <;> first | rfl | (simp [own_nb]; done)
theorem ef_rmFA1 (m : MethodId) (a1 : Addr) (p3 : Int64) : entryFrame m #[(.ref a1), (.int (1 : Int32)), (.long p3), (.int (0 : Int32))] 10 = mkF m 0 #[.val (.ref a1), .val (.int (1 : Int32)), .val (.long p3), .second, .val (.int (0 : Int32)), .unset, .unset, .unset, .unset, .unset] [] := by first | (simp [entryFrame, mkF, argsToLocals, Value.category]; done) | rfl
set_option maxRecDepth 65536 in
set_option maxHeartbeats 40000000 in
theorem rmFA1 (l : Launch) (Z : State) (a0 : Array Value) (hw : ∀ d ∈ tables_1, d.before a0 Z = true) (a1 : Addr) (p3 : Int64) (tm sr ub fd c5 c6 c7 c8 : Addr) (nn wv : Int32) (lw : Int64) (bl : Int32) (wn : Nat) (gt gm gf : Nat → Int64) (fn : Nat → Value) (gu : Nat → Int32) (s0 s1 b0 b1 e0 e1 : Addr) (h0 : Heap) (n0 : Nat) (hz0 : Lo n0 h0.size) (hst : 10 ≤ p3.toInt) (hwn : own_W wn wv) (hgt0 : (gt 0).toInt = 0) (hgt1 : (gt 1).toInt = 10) (hfn0 : fn 0 = .ref s0) (hfn1 : fn 1 = .ref s1) (hnn : 0 ≤ nn.toInt) (hgu : ∀ k, k < 2 → 0 ≤ (gu k).toInt) (ga_a1 : Lo n0 a1) (ga_fd : Lo n0 fd) (ne_a1_fd : NE a1 fd) (ne_tm_fd : NE tm fd) (ne_sr_fd : NE sr fd) (ne_ub_fd : NE ub fd) (ne_s0_fd : NE s0 fd) (ne_s1_fd : NE s1 fd) (ne_b0_fd : NE b0 fd) (ne_b1_fd : NE b1 fd) (ne_e0_fd : NE e0 fd) (ne_e1_fd : NE e1 fd) (ne_tm_a1 : NE tm a1) (ne_sr_a1 : NE sr a1) (ne_ub_a1 : NE ub a1) (ne_s0_a1 : NE s0 a1) (ne_s1_a1 : NE s1 a1) (ne_b0_a1 : NE b0 a1) (ne_b1_a1 : NE b1 a1) (ne_e0_a1 : NE e0 a1) (ne_e1_a1 : NE e1 a1) (O_a1 : Ob Z h0 a1 "org/foreslot/planning/ClusterTimeline" NS_CT [(.ref tm), (.ref sr), (.ref ub), (.long (-9223372036854775808 : Int64)), (.long (1 : Int64)), (.long (9223372036854775807 : Int64)), (.long (-9223372036854775808 : Int64)), (.int nn), (.int wv), (.long lw), (.ref fd), (.ref c5), (.ref c6), (.ref c7), (.ref c8), (.int (2 : Int32)), (.int bl)]) (A_tm : Ar Z h0 tm .long 16 (fun j_ => .long (gt j_))) (A_sr : ArR Z h0 sr "org/foreslot/planning/ClusterTimeline$Stretch" 16 fn) (A_ub : Ar Z h0 ub .int 16 (fun k => .int (gu k))) (O_s0 : Ob Z h0 s0 "org/foreslot/planning/ClusterTimeline$Stretch" NS_SR [(.ref b0), (.ref e0), .null, .null, .null]) (O_s1 : Ob Z h0 s1 "org/foreslot/planning/ClusterTimeline$Stretch" NS_SR [(.ref b1), (.ref e1), .null, .null, .null]) (A_b0 : Ar Z h0 b0 .long wn (fun j_ => .long (gm j_))) (A_e0 : Ar Z h0 e0 .long wn (fun j_ => .long ((fun _ => 0) j_))) (A_b1 : Ar Z h0 b1 .long wn (fun j_ => .long ((fun _ => 0) j_))) (A_e1 : Ar Z h0 e1 .long wn (fun j_ => .long (gm j_))) (A_fd : Ar Z h0 fd .long wn (fun j_ => .long (gf j_))) (ws : List Jvm.Cond) :
    Ctr l (⟨"org/foreslot/planning/ClusterTimeline", "freeAt", "(IJI)Z"⟩ : MethodName) prog_29_method_24_code 10 (some .boolean) ({ frames := 2, cells := 0, slots := 0, locals := 40 } : Room) Z n0 #[(.ref a1), (.int (1 : Int32)), (.long p3), (.int (0 : Int32))] h0 (fun v h => (∃ r : Int32, v = some (.int r)) ∧ Keep h0 h [fd] ∧ ∃ gf' : Nat → Int64, Ar Z h fd .long wn (fun j_ => .long (gf' j_)) ∧ own_fd wn lw gm gf' (0 < p3.toInt ∧ p3.toInt < 10)) ws := by
  refine ctr_of (plainFor_of_name pn_1) ?_
  intro p e s m below meth c T0 X0 C
  refine go_cast (ef_rmFA1 m a1 p3) ?_
  obtain ⟨RS, hRS⟩ : ∃ RS, RS = Rs s below n0 (fun v h => (∃ r : Int32, v = some (.int r)) ∧ Keep h0 h [fd] ∧ ∃ gf' : Nat → Int64, Ar Z h fd .long wn (fun j_ => .long (gf' j_)) ∧ own_fd wn lw gm gf' (0 < p3.toInt ∧ p3.toInt < 10)) ({ frames := 2, cells := 0, slots := 0, locals := 40 } : Room).cells ({ frames := 2, cells := 0, slots := 0, locals := 40 } : Room).slots := ⟨_, rfl⟩
  suffices HG : Go p e below RS T0 (mkF m 0 #[.val (.ref a1), .val (.int (1 : Int32)), .val (.long p3), .second, .val (.int (0 : Int32)), .unset, .unset, .unset, .unset, .unset] []) by rw [hRS] at HG; exact HG
  show Go p e below RS T0 (mkF m 0 #[.val (.ref a1), .val (.int (1 : Int32)), .val (.long p3), .second, .val (.int (0 : Int32)), .unset, .unset, .unset, .unset, .unset] [])
  rcases hwn with ⟨rfl, rfl⟩ | ⟨rfl, rfl⟩
  ·
    show Go p e below RS T0 (mkF m 0 #[.val (.ref a1), .val (.int (1 : Int32)), .val (.long p3), .second, .val (.int (0 : Int32)), .unset, .unset, .unset, .unset, .unset] [])
    refine g_aloadN X0 C d16_0 rfl rfl rfl ?_
    refine g_iloadN X0 C d16_1 rfl rfl ?_
    refine g_private (argsL := [(.int (1 : Int32))]) (rest := []) (W := 0) (a := a1) X0 C (rmNBi l Z a0 hw a1 (1 : Int32) tm sr ub fd c5 c6 c7 c8 nn (1 : Int32) lw bl (2 : Int32) 1 gf 1 fn s1 b1 e1 (fun _ => 0) h0 n0 hz0 (by decide) (Or.inl ⟨rfl, rfl⟩) ga_fd ne_a1_fd O_a1 A_fd (by decide) hfn1 ne_sr_fd ne_s1_fd ne_b1_fd A_sr O_s1 A_b1 []) O_a1.1 (hw _ (List.mem_of_getElem? (i := 140) rfl)) (hw _ (List.mem_of_getElem? (i := 141) rfl)) (hw _ (List.mem_of_getElem? (i := 142) rfl)) (hw _ (List.mem_of_getElem? (i := 1) rfl)) (hw _ (List.mem_of_getElem? (i := 2) rfl)) (hw _ (List.mem_of_getElem? (i := 143) rfl)) (by decide) pd_6 rfl rfl rfl rfl rfl (by decide) (by decide) (by decide) (by decide) d16_2 rfl (fun r1029 T1026 h1028 hQ1030 X1027 => ?_)
    obtain ⟨rfl, KNB, A_fd⟩ := hQ1030
    have O_a1 := O_a1.keep KNB (ninN ne_a1_fd nin0)
    have A_tm := A_tm.keep KNB (ninN ne_tm_fd nin0)
    have A_sr := A_sr.keep KNB (ninN ne_sr_fd nin0)
    have A_ub := A_ub.keep KNB (ninN ne_ub_fd nin0)
    have O_s0 := O_s0.keep KNB (ninN ne_s0_fd nin0)
    have O_s1 := O_s1.keep KNB (ninN ne_s1_fd nin0)
    have A_b0 := A_b0.keep KNB (ninN ne_b0_fd nin0)
    have A_e0 := A_e0.keep KNB (ninN ne_e0_fd nin0)
    have A_b1 := A_b1.keep KNB (ninN ne_b1_fd nin0)
    have A_e1 := A_e1.keep KNB (ninN ne_e1_fd nin0)
    have hz1031 : Lo n0 h1028.size := Lo.keep hz0 KNB
    have KK1032 := (Keep.refl h0 [fd]).trans KNB (allS (Or.inl (List.mem_of_getElem? (i := 0) rfl)) all0)
    show Go p e below RS T1026 (mkF m 5 #[.val (.ref a1), .val (.int (1 : Int32)), .val (.long p3), .second, .val (.int (0 : Int32)), .unset, .unset, .unset, .unset, .unset] [])
    refine g_iloadN X1027 C d16_5 rfl rfl ?_
    refine g_if_lt (a := 1) X1027 C d16_6 (by decide) (by decide) (pT := 136) (by decide) (pF := 9) rfl (fun hc6_1033 => absurd hc6_1033 (by omega)) (fun hc6_1033 => ?_)
    refine g_aloadN X1027 C d16_9 rfl rfl rfl ?_
    refine g_getO (i := 0) X1027 C O_a1 rfl rfl (host := "") (Or.inl (hw _ (List.mem_of_getElem? (i := 10) rfl))) d16_10 rfl (fun T1034 X1035 => ?_)
    refine g_iloadN X1035 C d16_13 rfl rfl ?_
    refine g_laload (i := 1) (v := (.long (gt 1))) X1035 C A_tm (by decide) (by decide) rfl d16_14 rfl ?_
    refine g_lloadN X1035 C d16_15 rfl rfl ?_
    refine g_lcmp X1035 C d16_16 rfl ?_
    refine g_lif_ne (a := (gt 1).toInt) (b := p3.toInt) X1035 C d16_17 rfl rfl (by decide) (pT := 136) (by decide) (pF := 20) rfl (fun hc17_1036 => ?_) (fun hc17_1036 => ?_)
    ·
      refine g_aloadN X1035 C d16_136 rfl rfl rfl ?_
      refine g_aloadN X1035 C d16_137 rfl rfl rfl ?_
      refine g_getO (i := 10) X1035 C O_a1 rfl rfl (host := "") (Or.inl (hw _ (List.mem_of_getElem? (i := 35) rfl))) d16_138 rfl (fun T1037 X1038 => ?_)
      refine g_private (argsL := [(.ref fd)]) (rest := []) (W := 0) (a := a1) X1038 C (rmCount l Z a0 hw a1 fd tm sr ub fd c5 c6 c7 c8 nn (1 : Int32) lw bl (2 : Int32) 1 _ h1028 n0 hz1031 (Or.inl ⟨rfl, rfl⟩) O_a1 A_fd []) O_a1.1 (hw _ (List.mem_of_getElem? (i := 149) rfl)) (hw _ (List.mem_of_getElem? (i := 150) rfl)) (hw _ (List.mem_of_getElem? (i := 151) rfl)) (hw _ (List.mem_of_getElem? (i := 1) rfl)) (hw _ (List.mem_of_getElem? (i := 2) rfl)) (hw _ (List.mem_of_getElem? (i := 152) rfl)) (by decide) pd_10 rfl rfl rfl rfl rfl (by decide) (by decide) (by decide) (by decide) d16_141 rfl (fun r1042 T1039 h1041 hQ1043 X1040 => ?_)
      obtain ⟨q1044, rfl, hh⟩ := hQ1043; rw [hh] at X1040
      show Go p e below RS T1039 (mkF m 144 #[.val (.ref a1), .val (.int (1 : Int32)), .val (.long p3), .second, .val (.int (0 : Int32)), .unset, .unset, .unset, .unset, .unset] [(.int q1044)])
      refine g_iload X1040 C d16_144 rfl rfl ?_
      refine g_icmp_lt (a := q1044.toInt) (b := 0) X1040 C d16_146 rfl (by decide) (by decide) (pT := 153) (by decide) (pF := 149) rfl (fun hc146_1045 => ?_) (fun hc146_1045 => ?_)
      ·
        refine g_iconst (v := 0) X1040 C d16_153 (by decide) rfl ?_
        rw [hRS]
        refine g_retZ X1040 C d16_154 ?_ (by decide) (by decide)
        refine ⟨⟨_, rfl⟩, KK1032, _, A_fd, ?_⟩
        exact Or.inr ⟨by omega, fun _ _ => rfl⟩
      ·
        refine g_iconst (v := 1) X1040 C d16_149 (by decide) rfl ?_
        refine g_goto (pc' := 154) X1040 C d16_150 (by decide) (by decide) ?_
        rw [hRS]
        refine g_retZ X1040 C d16_154 ?_ (by decide) (by decide)
        refine ⟨⟨_, rfl⟩, KK1032, _, A_fd, ?_⟩
        exact Or.inr ⟨by omega, fun _ _ => rfl⟩
    ·
      refine g_aloadN X1035 C d16_20 rfl rfl rfl ?_
      refine g_getO (i := 1) X1035 C O_a1 rfl rfl (host := "") (Or.inl (hw _ (List.mem_of_getElem? (i := 14) rfl))) d16_21 rfl (fun T1046 X1047 => ?_)
      refine g_iloadN X1047 C d16_24 rfl rfl ?_
      refine g_aaload (i := 1) (v := (.ref s1)) X1047 C A_sr (by decide) (by decide) hfn1 d16_25 rfl ?_
      refine g_astore (L' := #[.val (.ref a1), .val (.int (1 : Int32)), .val (.long p3), .second, .val (.int (0 : Int32)), .val (.ref s1), .unset, .unset, .unset, .unset]) X1047 C d16_26 rfl rfl rfl ?_
      refine g_iloadN X1047 C d16_28 rfl rfl ?_
      refine g_if_le (a := 1) X1047 C d16_29 (by decide) (by decide) (pT := 46) (by decide) (pF := 32) rfl (fun hc29_1048 => absurd hc29_1048 (by omega)) (fun hc29_1048 => ?_)
      refine g_aloadN X1047 C d16_32 rfl rfl rfl ?_
      refine g_getO (i := 1) X1047 C O_a1 rfl rfl (host := "") (Or.inl (hw _ (List.mem_of_getElem? (i := 14) rfl))) d16_33 rfl (fun T1049 X1050 => ?_)
      refine g_iloadN X1050 C d16_36 rfl rfl ?_
      refine g_iconst (v := 1) X1050 C d16_37 (by decide) rfl ?_
      refine g_isub X1050 C d16_38 rfl ?_
      rw [show ((1 : Int32) - (1 : Int32)) = (0 : Int32) by decide]
      refine g_aaload (i := 0) (v := (.ref s0)) X1050 C A_sr (by decide) (by decide) hfn0 d16_39 rfl ?_
      refine g_getO (i := 0) X1050 C O_s0 rfl rfl (host := "") (Or.inl (hw _ (List.mem_of_getElem? (i := 93) rfl))) d16_40 rfl (fun T1051 X1052 => ?_)
      refine g_goto (pc' := 47) X1052 C d16_43 (by decide) (by decide) ?_
      refine g_astore (L' := #[.val (.ref a1), .val (.int (1 : Int32)), .val (.long p3), .second, .val (.int (0 : Int32)), .val (.ref s1), .val (.ref b0), .unset, .unset, .unset]) X1052 C d16_47 rfl rfl rfl ?_
      refine g_iconst (v := 0) X1052 C d16_49 (by decide) rfl ?_
      refine g_istore (L' := #[.val (.ref a1), .val (.int (1 : Int32)), .val (.long p3), .second, .val (.int (0 : Int32)), .val (.ref s1), .val (.ref b0), .val (.int (0 : Int32)), .unset, .unset]) X1052 C d16_50 rfl rfl rfl ?_
      refine g_iload X1052 C d16_52 rfl rfl ?_
      refine g_aloadN X1052 C d16_54 rfl rfl rfl ?_
      refine g_getO (i := 8) X1052 C O_a1 rfl rfl (host := "") (Or.inl (hw _ (List.mem_of_getElem? (i := 31) rfl))) d16_55 rfl (fun T1053 X1054 => ?_)
      refine g_icmp_ge (a := 0) (b := 1) X1054 C d16_58 (by decide) (by decide) (by decide) (pT := 118) (by decide) (pF := 61) rfl (fun hc58_1055 => absurd hc58_1055 (by omega)) (fun hc58_1055 => ?_)
      refine g_aload X1054 C d16_61 rfl rfl rfl ?_
      refine g_nonnullY X1054 C d16_63 (by decide) (pT := 70) (by decide) ?_
      refine g_aload X1054 C d16_70 rfl rfl rfl ?_
      refine g_iload X1054 C d16_72 rfl rfl ?_
      refine g_laload (i := 0) (v := (.long (gm 0))) X1054 C A_b0 (by decide) (by decide) rfl d16_74 rfl ?_
      refine g_aload X1054 C d16_75 rfl rfl rfl ?_
      refine g_getO (i := 0) X1054 C O_s1 rfl rfl (host := "") (Or.inl (hw _ (List.mem_of_getElem? (i := 93) rfl))) d16_77 rfl (fun T1056 X1057 => ?_)
      refine g_iload X1057 C d16_80 rfl rfl ?_
      refine g_laload (i := 0) (v := (.long (0 : Int64))) X1057 C A_b1 (by decide) (by decide) rfl d16_82 rfl ?_
      refine g_land X1057 C d16_83 rfl ?_
      refine g_aload X1057 C d16_84 rfl rfl rfl ?_
      refine g_getO (i := 1) X1057 C O_s1 rfl rfl (host := "") (Or.inl (hw _ (List.mem_of_getElem? (i := 108) rfl))) d16_86 rfl (fun T1058 X1059 => ?_)
      refine g_iload X1059 C d16_89 rfl rfl ?_
      refine g_laload (i := 0) (v := (.long (gm 0))) X1059 C A_e1 (by decide) (by decide) rfl d16_91 rfl ?_
      refine g_ldcJ X1059 C (hw _ (List.mem_of_getElem? (i := 144) rfl)) d16_92 rfl ?_
      refine g_lxor X1059 C d16_95 rfl ?_
      refine g_land X1059 C d16_96 rfl ?_
      obtain ⟨j1060, h_j1060⟩ : ∃ z, z = (((gm 0) &&& (0 : Int64)) &&& ((gm 0) ^^^ (-1 : Int64))) := ⟨_, rfl⟩
      have z_j1060 : j1060 = 0 := by rw [h_j1060]; simp
      refine g_lstore (L' := #[.val (.ref a1), .val (.int (1 : Int32)), .val (.long p3), .second, .val (.int (0 : Int32)), .val (.ref s1), .val (.ref b0), .val (.int (0 : Int32)), .val (.long j1060), .second]) X1059 C d16_97 h_j1060 rfl rfl ?_
      refine g_aloadN X1059 C d16_99 rfl rfl rfl ?_
      refine g_getO (i := 10) X1059 C O_a1 rfl rfl (host := "") (Or.inl (hw _ (List.mem_of_getElem? (i := 35) rfl))) d16_100 rfl (fun T1061 X1062 => ?_)
      refine g_iload X1062 C d16_103 rfl rfl ?_
      refine g_lload X1062 C d16_105 rfl rfl ?_
      refine g_ldcJ X1062 C (hw _ (List.mem_of_getElem? (i := 144) rfl)) d16_107 rfl ?_
      refine g_lxor X1062 C d16_110 rfl ?_
      refine g_lastore (i := 0) X1062 C A_fd (by decide) (by decide) ga_fd d16_111 rfl (fun T1063 h1065 X1064 A_fd K1066 => ?_)
      have O_a1 := O_a1.keep K1066 (ninN ne_a1_fd nin0)
      have A_tm := A_tm.keep K1066 (ninN ne_tm_fd nin0)
      have A_sr := A_sr.keep K1066 (ninN ne_sr_fd nin0)
      have A_ub := A_ub.keep K1066 (ninN ne_ub_fd nin0)
      have O_s0 := O_s0.keep K1066 (ninN ne_s0_fd nin0)
      have O_s1 := O_s1.keep K1066 (ninN ne_s1_fd nin0)
      have A_b0 := A_b0.keep K1066 (ninN ne_b0_fd nin0)
      have A_e0 := A_e0.keep K1066 (ninN ne_e0_fd nin0)
      have A_b1 := A_b1.keep K1066 (ninN ne_b1_fd nin0)
      have A_e1 := A_e1.keep K1066 (ninN ne_e1_fd nin0)
      have hz1067 : Lo n0 h1065.size := Lo.keep hz1031 K1066
      have KK1068 := KK1032.trans K1066 (allS (Or.inl (List.mem_of_getElem? (i := 0) rfl)) all0)
      refine g_iinc (v' := (1 : Int32)) (L' := #[.val (.ref a1), .val (.int (1 : Int32)), .val (.long p3), .second, .val (.int (0 : Int32)), .val (.ref s1), .val (.ref b0), .val (.int (1 : Int32)), .val (.long j1060), .second]) X1064 C d16_112 rfl (by decide) rfl rfl ?_
      refine g_goto (pc' := 52) X1064 C d16_115 (by decide) (by decide) ?_
      refine g_iload X1064 C d16_52 rfl rfl ?_
      refine g_aloadN X1064 C d16_54 rfl rfl rfl ?_
      refine g_getO (i := 8) X1064 C O_a1 rfl rfl (host := "") (Or.inl (hw _ (List.mem_of_getElem? (i := 31) rfl))) d16_55 rfl (fun T1069 X1070 => ?_)
      refine g_icmp_ge (a := 1) (b := 1) X1070 C d16_58 (by decide) (by decide) (by decide) (pT := 118) (by decide) (pF := 61) rfl (fun hc58_1071 => ?_) (fun hc58_1071 => absurd hc58_1071 (by omega))
      refine g_aloadN X1070 C d16_118 rfl rfl rfl ?_
      refine g_getO (i := 10) X1070 C O_a1 rfl rfl (host := "") (Or.inl (hw _ (List.mem_of_getElem? (i := 35) rfl))) d16_119 rfl (fun T1072 X1073 => ?_)
      refine g_aloadN X1073 C d16_122 rfl rfl rfl ?_
      refine g_getO (i := 8) X1073 C O_a1 rfl rfl (host := "") (Or.inl (hw _ (List.mem_of_getElem? (i := 31) rfl))) d16_123 rfl (fun T1074 X1075 => ?_)
      refine g_iconst (v := 1) X1075 C d16_126 (by decide) rfl ?_
      refine g_isub X1075 C d16_127 rfl ?_
      rw [show ((1 : Int32) - (1 : Int32)) = (0 : Int32) by decide]
      refine g_dup2 X1075 C d16_128 rfl rfl rfl ?_
      refine g_laload (i := 0) (v := (.long (j1060 ^^^ (-1 : Int64)))) X1075 C A_fd (by decide) (by decide) rfl d16_129 rfl ?_
      refine g_aloadN X1075 C d16_130 rfl rfl rfl ?_
      refine g_getO (i := 9) X1075 C O_a1 rfl rfl (host := "") (Or.inl (hw _ (List.mem_of_getElem? (i := 33) rfl))) d16_131 rfl (fun T1076 X1077 => ?_)
      refine g_land X1077 C d16_134 rfl ?_
      refine g_lastore (i := 0) X1077 C A_fd (by decide) (by decide) ga_fd d16_135 rfl (fun T1078 h1080 X1079 A_fd K1081 => ?_)
      have O_a1 := O_a1.keep K1081 (ninN ne_a1_fd nin0)
      have A_tm := A_tm.keep K1081 (ninN ne_tm_fd nin0)
      have A_sr := A_sr.keep K1081 (ninN ne_sr_fd nin0)
      have A_ub := A_ub.keep K1081 (ninN ne_ub_fd nin0)
      have O_s0 := O_s0.keep K1081 (ninN ne_s0_fd nin0)
      have O_s1 := O_s1.keep K1081 (ninN ne_s1_fd nin0)
      have A_b0 := A_b0.keep K1081 (ninN ne_b0_fd nin0)
      have A_e0 := A_e0.keep K1081 (ninN ne_e0_fd nin0)
      have A_b1 := A_b1.keep K1081 (ninN ne_b1_fd nin0)
      have A_e1 := A_e1.keep K1081 (ninN ne_e1_fd nin0)
      have hz1082 : Lo n0 h1080.size := Lo.keep hz1067 K1081
      have KK1083 := KK1068.trans K1081 (allS (Or.inl (List.mem_of_getElem? (i := 0) rfl)) all0)
      refine g_aloadN X1079 C d16_136 rfl rfl rfl ?_
      refine g_aloadN X1079 C d16_137 rfl rfl rfl ?_
      refine g_getO (i := 10) X1079 C O_a1 rfl rfl (host := "") (Or.inl (hw _ (List.mem_of_getElem? (i := 35) rfl))) d16_138 rfl (fun T1084 X1085 => ?_)
      refine g_private (argsL := [(.ref fd)]) (rest := []) (W := 0) (a := a1) X1085 C (rmCount l Z a0 hw a1 fd tm sr ub fd c5 c6 c7 c8 nn (1 : Int32) lw bl (2 : Int32) 1 _ h1080 n0 hz1082 (Or.inl ⟨rfl, rfl⟩) O_a1 A_fd []) O_a1.1 (hw _ (List.mem_of_getElem? (i := 149) rfl)) (hw _ (List.mem_of_getElem? (i := 150) rfl)) (hw _ (List.mem_of_getElem? (i := 151) rfl)) (hw _ (List.mem_of_getElem? (i := 1) rfl)) (hw _ (List.mem_of_getElem? (i := 2) rfl)) (hw _ (List.mem_of_getElem? (i := 152) rfl)) (by decide) pd_10 rfl rfl rfl rfl rfl (by decide) (by decide) (by decide) (by decide) d16_141 rfl (fun r1089 T1086 h1088 hQ1090 X1087 => ?_)
      obtain ⟨q1091, rfl, hh⟩ := hQ1090; rw [hh] at X1087
      show Go p e below RS T1086 (mkF m 144 #[.val (.ref a1), .val (.int (1 : Int32)), .val (.long p3), .second, .val (.int (0 : Int32)), .val (.ref s1), .val (.ref b0), .val (.int (1 : Int32)), .val (.long j1060), .second] [(.int q1091)])
      refine g_iload X1087 C d16_144 rfl rfl ?_
      refine g_icmp_lt (a := q1091.toInt) (b := 0) X1087 C d16_146 rfl (by decide) (by decide) (pT := 153) (by decide) (pF := 149) rfl (fun hc146_1092 => ?_) (fun hc146_1092 => ?_)
      ·
        refine g_iconst (v := 0) X1087 C d16_153 (by decide) rfl ?_
        rw [hRS]
        refine g_retZ X1087 C d16_154 ?_ (by decide) (by decide)
        refine ⟨⟨_, rfl⟩, KK1083, _, A_fd, ?_⟩
        refine Or.inr ⟨by omega, own_all1 ?_⟩ <;> first | rfl | (simp [own_nb, z_j1060]; done)
      ·
        refine g_iconst (v := 1) X1087 C d16_149 (by decide) rfl ?_
        refine g_goto (pc' := 154) X1087 C d16_150 (by decide) (by decide) ?_
        rw [hRS]
        refine g_retZ X1087 C d16_154 ?_ (by decide) (by decide)
        refine ⟨⟨_, rfl⟩, KK1083, _, A_fd, ?_⟩
        refine Or.inr ⟨by omega, own_all1 ?_⟩ <;> first | rfl | (simp [own_nb, z_j1060]; done)
  ·
    show Go p e below RS T0 (mkF m 0 #[.val (.ref a1), .val (.int (1 : Int32)), .val (.long p3), .second, .val (.int (0 : Int32)), .unset, .unset, .unset, .unset, .unset] [])
    refine g_aloadN X0 C d16_0 rfl rfl rfl ?_
    refine g_iloadN X0 C d16_1 rfl rfl ?_
    refine g_private (argsL := [(.int (1 : Int32))]) (rest := []) (W := 0) (a := a1) X0 C (rmNBi l Z a0 hw a1 (1 : Int32) tm sr ub fd c5 c6 c7 c8 nn (2 : Int32) lw bl (2 : Int32) 2 gf 1 fn s1 b1 e1 (fun _ => 0) h0 n0 hz0 (by decide) (Or.inr ⟨rfl, rfl⟩) ga_fd ne_a1_fd O_a1 A_fd (by decide) hfn1 ne_sr_fd ne_s1_fd ne_b1_fd A_sr O_s1 A_b1 []) O_a1.1 (hw _ (List.mem_of_getElem? (i := 140) rfl)) (hw _ (List.mem_of_getElem? (i := 141) rfl)) (hw _ (List.mem_of_getElem? (i := 142) rfl)) (hw _ (List.mem_of_getElem? (i := 1) rfl)) (hw _ (List.mem_of_getElem? (i := 2) rfl)) (hw _ (List.mem_of_getElem? (i := 143) rfl)) (by decide) pd_6 rfl rfl rfl rfl rfl (by decide) (by decide) (by decide) (by decide) d16_2 rfl (fun r1096 T1093 h1095 hQ1097 X1094 => ?_)
    obtain ⟨rfl, KNB, A_fd⟩ := hQ1097
    have O_a1 := O_a1.keep KNB (ninN ne_a1_fd nin0)
    have A_tm := A_tm.keep KNB (ninN ne_tm_fd nin0)
    have A_sr := A_sr.keep KNB (ninN ne_sr_fd nin0)
    have A_ub := A_ub.keep KNB (ninN ne_ub_fd nin0)
    have O_s0 := O_s0.keep KNB (ninN ne_s0_fd nin0)
    have O_s1 := O_s1.keep KNB (ninN ne_s1_fd nin0)
    have A_b0 := A_b0.keep KNB (ninN ne_b0_fd nin0)
    have A_e0 := A_e0.keep KNB (ninN ne_e0_fd nin0)
    have A_b1 := A_b1.keep KNB (ninN ne_b1_fd nin0)
    have A_e1 := A_e1.keep KNB (ninN ne_e1_fd nin0)
    have hz1098 : Lo n0 h1095.size := Lo.keep hz0 KNB
    have KK1099 := (Keep.refl h0 [fd]).trans KNB (allS (Or.inl (List.mem_of_getElem? (i := 0) rfl)) all0)
    show Go p e below RS T1093 (mkF m 5 #[.val (.ref a1), .val (.int (1 : Int32)), .val (.long p3), .second, .val (.int (0 : Int32)), .unset, .unset, .unset, .unset, .unset] [])
    refine g_iloadN X1094 C d16_5 rfl rfl ?_
    refine g_if_lt (a := 1) X1094 C d16_6 (by decide) (by decide) (pT := 136) (by decide) (pF := 9) rfl (fun hc6_1100 => absurd hc6_1100 (by omega)) (fun hc6_1100 => ?_)
    refine g_aloadN X1094 C d16_9 rfl rfl rfl ?_
    refine g_getO (i := 0) X1094 C O_a1 rfl rfl (host := "") (Or.inl (hw _ (List.mem_of_getElem? (i := 10) rfl))) d16_10 rfl (fun T1101 X1102 => ?_)
    refine g_iloadN X1102 C d16_13 rfl rfl ?_
    refine g_laload (i := 1) (v := (.long (gt 1))) X1102 C A_tm (by decide) (by decide) rfl d16_14 rfl ?_
    refine g_lloadN X1102 C d16_15 rfl rfl ?_
    refine g_lcmp X1102 C d16_16 rfl ?_
    refine g_lif_ne (a := (gt 1).toInt) (b := p3.toInt) X1102 C d16_17 rfl rfl (by decide) (pT := 136) (by decide) (pF := 20) rfl (fun hc17_1103 => ?_) (fun hc17_1103 => ?_)
    ·
      refine g_aloadN X1102 C d16_136 rfl rfl rfl ?_
      refine g_aloadN X1102 C d16_137 rfl rfl rfl ?_
      refine g_getO (i := 10) X1102 C O_a1 rfl rfl (host := "") (Or.inl (hw _ (List.mem_of_getElem? (i := 35) rfl))) d16_138 rfl (fun T1104 X1105 => ?_)
      refine g_private (argsL := [(.ref fd)]) (rest := []) (W := 0) (a := a1) X1105 C (rmCount l Z a0 hw a1 fd tm sr ub fd c5 c6 c7 c8 nn (2 : Int32) lw bl (2 : Int32) 2 _ h1095 n0 hz1098 (Or.inr ⟨rfl, rfl⟩) O_a1 A_fd []) O_a1.1 (hw _ (List.mem_of_getElem? (i := 149) rfl)) (hw _ (List.mem_of_getElem? (i := 150) rfl)) (hw _ (List.mem_of_getElem? (i := 151) rfl)) (hw _ (List.mem_of_getElem? (i := 1) rfl)) (hw _ (List.mem_of_getElem? (i := 2) rfl)) (hw _ (List.mem_of_getElem? (i := 152) rfl)) (by decide) pd_10 rfl rfl rfl rfl rfl (by decide) (by decide) (by decide) (by decide) d16_141 rfl (fun r1109 T1106 h1108 hQ1110 X1107 => ?_)
      obtain ⟨q1111, rfl, hh⟩ := hQ1110; rw [hh] at X1107
      show Go p e below RS T1106 (mkF m 144 #[.val (.ref a1), .val (.int (1 : Int32)), .val (.long p3), .second, .val (.int (0 : Int32)), .unset, .unset, .unset, .unset, .unset] [(.int q1111)])
      refine g_iload X1107 C d16_144 rfl rfl ?_
      refine g_icmp_lt (a := q1111.toInt) (b := 0) X1107 C d16_146 rfl (by decide) (by decide) (pT := 153) (by decide) (pF := 149) rfl (fun hc146_1112 => ?_) (fun hc146_1112 => ?_)
      ·
        refine g_iconst (v := 0) X1107 C d16_153 (by decide) rfl ?_
        rw [hRS]
        refine g_retZ X1107 C d16_154 ?_ (by decide) (by decide)
        refine ⟨⟨_, rfl⟩, KK1099, _, A_fd, ?_⟩
        exact Or.inr ⟨by omega, fun _ _ => rfl⟩
      ·
        refine g_iconst (v := 1) X1107 C d16_149 (by decide) rfl ?_
        refine g_goto (pc' := 154) X1107 C d16_150 (by decide) (by decide) ?_
        rw [hRS]
        refine g_retZ X1107 C d16_154 ?_ (by decide) (by decide)
        refine ⟨⟨_, rfl⟩, KK1099, _, A_fd, ?_⟩
        exact Or.inr ⟨by omega, fun _ _ => rfl⟩
    ·
      refine g_aloadN X1102 C d16_20 rfl rfl rfl ?_
      refine g_getO (i := 1) X1102 C O_a1 rfl rfl (host := "") (Or.inl (hw _ (List.mem_of_getElem? (i := 14) rfl))) d16_21 rfl (fun T1113 X1114 => ?_)
      refine g_iloadN X1114 C d16_24 rfl rfl ?_
      refine g_aaload (i := 1) (v := (.ref s1)) X1114 C A_sr (by decide) (by decide) hfn1 d16_25 rfl ?_
      refine g_astore (L' := #[.val (.ref a1), .val (.int (1 : Int32)), .val (.long p3), .second, .val (.int (0 : Int32)), .val (.ref s1), .unset, .unset, .unset, .unset]) X1114 C d16_26 rfl rfl rfl ?_
      refine g_iloadN X1114 C d16_28 rfl rfl ?_
      refine g_if_le (a := 1) X1114 C d16_29 (by decide) (by decide) (pT := 46) (by decide) (pF := 32) rfl (fun hc29_1115 => absurd hc29_1115 (by omega)) (fun hc29_1115 => ?_)
      refine g_aloadN X1114 C d16_32 rfl rfl rfl ?_
      refine g_getO (i := 1) X1114 C O_a1 rfl rfl (host := "") (Or.inl (hw _ (List.mem_of_getElem? (i := 14) rfl))) d16_33 rfl (fun T1116 X1117 => ?_)
      refine g_iloadN X1117 C d16_36 rfl rfl ?_
      refine g_iconst (v := 1) X1117 C d16_37 (by decide) rfl ?_
      refine g_isub X1117 C d16_38 rfl ?_
      rw [show ((1 : Int32) - (1 : Int32)) = (0 : Int32) by decide]
      refine g_aaload (i := 0) (v := (.ref s0)) X1117 C A_sr (by decide) (by decide) hfn0 d16_39 rfl ?_
      refine g_getO (i := 0) X1117 C O_s0 rfl rfl (host := "") (Or.inl (hw _ (List.mem_of_getElem? (i := 93) rfl))) d16_40 rfl (fun T1118 X1119 => ?_)
      refine g_goto (pc' := 47) X1119 C d16_43 (by decide) (by decide) ?_
      refine g_astore (L' := #[.val (.ref a1), .val (.int (1 : Int32)), .val (.long p3), .second, .val (.int (0 : Int32)), .val (.ref s1), .val (.ref b0), .unset, .unset, .unset]) X1119 C d16_47 rfl rfl rfl ?_
      refine g_iconst (v := 0) X1119 C d16_49 (by decide) rfl ?_
      refine g_istore (L' := #[.val (.ref a1), .val (.int (1 : Int32)), .val (.long p3), .second, .val (.int (0 : Int32)), .val (.ref s1), .val (.ref b0), .val (.int (0 : Int32)), .unset, .unset]) X1119 C d16_50 rfl rfl rfl ?_
      refine g_iload X1119 C d16_52 rfl rfl ?_
      refine g_aloadN X1119 C d16_54 rfl rfl rfl ?_
      refine g_getO (i := 8) X1119 C O_a1 rfl rfl (host := "") (Or.inl (hw _ (List.mem_of_getElem? (i := 31) rfl))) d16_55 rfl (fun T1120 X1121 => ?_)
      refine g_icmp_ge (a := 0) (b := 2) X1121 C d16_58 (by decide) (by decide) (by decide) (pT := 118) (by decide) (pF := 61) rfl (fun hc58_1122 => absurd hc58_1122 (by omega)) (fun hc58_1122 => ?_)
      refine g_aload X1121 C d16_61 rfl rfl rfl ?_
      refine g_nonnullY X1121 C d16_63 (by decide) (pT := 70) (by decide) ?_
      refine g_aload X1121 C d16_70 rfl rfl rfl ?_
      refine g_iload X1121 C d16_72 rfl rfl ?_
      refine g_laload (i := 0) (v := (.long (gm 0))) X1121 C A_b0 (by decide) (by decide) rfl d16_74 rfl ?_
      refine g_aload X1121 C d16_75 rfl rfl rfl ?_
      refine g_getO (i := 0) X1121 C O_s1 rfl rfl (host := "") (Or.inl (hw _ (List.mem_of_getElem? (i := 93) rfl))) d16_77 rfl (fun T1123 X1124 => ?_)
      refine g_iload X1124 C d16_80 rfl rfl ?_
      refine g_laload (i := 0) (v := (.long (0 : Int64))) X1124 C A_b1 (by decide) (by decide) rfl d16_82 rfl ?_
      refine g_land X1124 C d16_83 rfl ?_
      refine g_aload X1124 C d16_84 rfl rfl rfl ?_
      refine g_getO (i := 1) X1124 C O_s1 rfl rfl (host := "") (Or.inl (hw _ (List.mem_of_getElem? (i := 108) rfl))) d16_86 rfl (fun T1125 X1126 => ?_)
      refine g_iload X1126 C d16_89 rfl rfl ?_
      refine g_laload (i := 0) (v := (.long (gm 0))) X1126 C A_e1 (by decide) (by decide) rfl d16_91 rfl ?_
      refine g_ldcJ X1126 C (hw _ (List.mem_of_getElem? (i := 144) rfl)) d16_92 rfl ?_
      refine g_lxor X1126 C d16_95 rfl ?_
      refine g_land X1126 C d16_96 rfl ?_
      obtain ⟨j1127, h_j1127⟩ : ∃ z, z = (((gm 0) &&& (0 : Int64)) &&& ((gm 0) ^^^ (-1 : Int64))) := ⟨_, rfl⟩
      have z_j1127 : j1127 = 0 := by rw [h_j1127]; simp
      refine g_lstore (L' := #[.val (.ref a1), .val (.int (1 : Int32)), .val (.long p3), .second, .val (.int (0 : Int32)), .val (.ref s1), .val (.ref b0), .val (.int (0 : Int32)), .val (.long j1127), .second]) X1126 C d16_97 h_j1127 rfl rfl ?_
      refine g_aloadN X1126 C d16_99 rfl rfl rfl ?_
      refine g_getO (i := 10) X1126 C O_a1 rfl rfl (host := "") (Or.inl (hw _ (List.mem_of_getElem? (i := 35) rfl))) d16_100 rfl (fun T1128 X1129 => ?_)
      refine g_iload X1129 C d16_103 rfl rfl ?_
      refine g_lload X1129 C d16_105 rfl rfl ?_
      refine g_ldcJ X1129 C (hw _ (List.mem_of_getElem? (i := 144) rfl)) d16_107 rfl ?_
      refine g_lxor X1129 C d16_110 rfl ?_
      refine g_lastore (i := 0) X1129 C A_fd (by decide) (by decide) ga_fd d16_111 rfl (fun T1130 h1132 X1131 A_fd K1133 => ?_)
      have O_a1 := O_a1.keep K1133 (ninN ne_a1_fd nin0)
      have A_tm := A_tm.keep K1133 (ninN ne_tm_fd nin0)
      have A_sr := A_sr.keep K1133 (ninN ne_sr_fd nin0)
      have A_ub := A_ub.keep K1133 (ninN ne_ub_fd nin0)
      have O_s0 := O_s0.keep K1133 (ninN ne_s0_fd nin0)
      have O_s1 := O_s1.keep K1133 (ninN ne_s1_fd nin0)
      have A_b0 := A_b0.keep K1133 (ninN ne_b0_fd nin0)
      have A_e0 := A_e0.keep K1133 (ninN ne_e0_fd nin0)
      have A_b1 := A_b1.keep K1133 (ninN ne_b1_fd nin0)
      have A_e1 := A_e1.keep K1133 (ninN ne_e1_fd nin0)
      have hz1134 : Lo n0 h1132.size := Lo.keep hz1098 K1133
      have KK1135 := KK1099.trans K1133 (allS (Or.inl (List.mem_of_getElem? (i := 0) rfl)) all0)
      refine g_iinc (v' := (1 : Int32)) (L' := #[.val (.ref a1), .val (.int (1 : Int32)), .val (.long p3), .second, .val (.int (0 : Int32)), .val (.ref s1), .val (.ref b0), .val (.int (1 : Int32)), .val (.long j1127), .second]) X1131 C d16_112 rfl (by decide) rfl rfl ?_
      refine g_goto (pc' := 52) X1131 C d16_115 (by decide) (by decide) ?_
      refine g_iload X1131 C d16_52 rfl rfl ?_
      refine g_aloadN X1131 C d16_54 rfl rfl rfl ?_
      refine g_getO (i := 8) X1131 C O_a1 rfl rfl (host := "") (Or.inl (hw _ (List.mem_of_getElem? (i := 31) rfl))) d16_55 rfl (fun T1136 X1137 => ?_)
      refine g_icmp_ge (a := 1) (b := 2) X1137 C d16_58 (by decide) (by decide) (by decide) (pT := 118) (by decide) (pF := 61) rfl (fun hc58_1138 => absurd hc58_1138 (by omega)) (fun hc58_1138 => ?_)
      refine g_aload X1137 C d16_61 rfl rfl rfl ?_
      refine g_nonnullY X1137 C d16_63 (by decide) (pT := 70) (by decide) ?_
      refine g_aload X1137 C d16_70 rfl rfl rfl ?_
      refine g_iload X1137 C d16_72 rfl rfl ?_
      refine g_laload (i := 1) (v := (.long (gm 1))) X1137 C A_b0 (by decide) (by decide) rfl d16_74 rfl ?_
      refine g_aload X1137 C d16_75 rfl rfl rfl ?_
      refine g_getO (i := 0) X1137 C O_s1 rfl rfl (host := "") (Or.inl (hw _ (List.mem_of_getElem? (i := 93) rfl))) d16_77 rfl (fun T1139 X1140 => ?_)
      refine g_iload X1140 C d16_80 rfl rfl ?_
      refine g_laload (i := 1) (v := (.long (0 : Int64))) X1140 C A_b1 (by decide) (by decide) rfl d16_82 rfl ?_
      refine g_land X1140 C d16_83 rfl ?_
      refine g_aload X1140 C d16_84 rfl rfl rfl ?_
      refine g_getO (i := 1) X1140 C O_s1 rfl rfl (host := "") (Or.inl (hw _ (List.mem_of_getElem? (i := 108) rfl))) d16_86 rfl (fun T1141 X1142 => ?_)
      refine g_iload X1142 C d16_89 rfl rfl ?_
      refine g_laload (i := 1) (v := (.long (gm 1))) X1142 C A_e1 (by decide) (by decide) rfl d16_91 rfl ?_
      refine g_ldcJ X1142 C (hw _ (List.mem_of_getElem? (i := 144) rfl)) d16_92 rfl ?_
      refine g_lxor X1142 C d16_95 rfl ?_
      refine g_land X1142 C d16_96 rfl ?_
      obtain ⟨j1143, h_j1143⟩ : ∃ z, z = (((gm 1) &&& (0 : Int64)) &&& ((gm 1) ^^^ (-1 : Int64))) := ⟨_, rfl⟩
      have z_j1143 : j1143 = 0 := by rw [h_j1143]; simp
      refine g_lstore (L' := #[.val (.ref a1), .val (.int (1 : Int32)), .val (.long p3), .second, .val (.int (0 : Int32)), .val (.ref s1), .val (.ref b0), .val (.int (1 : Int32)), .val (.long j1143), .second]) X1142 C d16_97 h_j1143 rfl rfl ?_
      refine g_aloadN X1142 C d16_99 rfl rfl rfl ?_
      refine g_getO (i := 10) X1142 C O_a1 rfl rfl (host := "") (Or.inl (hw _ (List.mem_of_getElem? (i := 35) rfl))) d16_100 rfl (fun T1144 X1145 => ?_)
      refine g_iload X1145 C d16_103 rfl rfl ?_
      refine g_lload X1145 C d16_105 rfl rfl ?_
      refine g_ldcJ X1145 C (hw _ (List.mem_of_getElem? (i := 144) rfl)) d16_107 rfl ?_
      refine g_lxor X1145 C d16_110 rfl ?_
      refine g_lastore (i := 1) X1145 C A_fd (by decide) (by decide) ga_fd d16_111 rfl (fun T1146 h1148 X1147 A_fd K1149 => ?_)
      have O_a1 := O_a1.keep K1149 (ninN ne_a1_fd nin0)
      have A_tm := A_tm.keep K1149 (ninN ne_tm_fd nin0)
      have A_sr := A_sr.keep K1149 (ninN ne_sr_fd nin0)
      have A_ub := A_ub.keep K1149 (ninN ne_ub_fd nin0)
      have O_s0 := O_s0.keep K1149 (ninN ne_s0_fd nin0)
      have O_s1 := O_s1.keep K1149 (ninN ne_s1_fd nin0)
      have A_b0 := A_b0.keep K1149 (ninN ne_b0_fd nin0)
      have A_e0 := A_e0.keep K1149 (ninN ne_e0_fd nin0)
      have A_b1 := A_b1.keep K1149 (ninN ne_b1_fd nin0)
      have A_e1 := A_e1.keep K1149 (ninN ne_e1_fd nin0)
      have hz1150 : Lo n0 h1148.size := Lo.keep hz1134 K1149
      have KK1151 := KK1135.trans K1149 (allS (Or.inl (List.mem_of_getElem? (i := 0) rfl)) all0)
      refine g_iinc (v' := (2 : Int32)) (L' := #[.val (.ref a1), .val (.int (1 : Int32)), .val (.long p3), .second, .val (.int (0 : Int32)), .val (.ref s1), .val (.ref b0), .val (.int (2 : Int32)), .val (.long j1143), .second]) X1147 C d16_112 rfl (by decide) rfl rfl ?_
      refine g_goto (pc' := 52) X1147 C d16_115 (by decide) (by decide) ?_
      refine g_iload X1147 C d16_52 rfl rfl ?_
      refine g_aloadN X1147 C d16_54 rfl rfl rfl ?_
      refine g_getO (i := 8) X1147 C O_a1 rfl rfl (host := "") (Or.inl (hw _ (List.mem_of_getElem? (i := 31) rfl))) d16_55 rfl (fun T1152 X1153 => ?_)
      refine g_icmp_ge (a := 2) (b := 2) X1153 C d16_58 (by decide) (by decide) (by decide) (pT := 118) (by decide) (pF := 61) rfl (fun hc58_1154 => ?_) (fun hc58_1154 => absurd hc58_1154 (by omega))
      refine g_aloadN X1153 C d16_118 rfl rfl rfl ?_
      refine g_getO (i := 10) X1153 C O_a1 rfl rfl (host := "") (Or.inl (hw _ (List.mem_of_getElem? (i := 35) rfl))) d16_119 rfl (fun T1155 X1156 => ?_)
      refine g_aloadN X1156 C d16_122 rfl rfl rfl ?_
      refine g_getO (i := 8) X1156 C O_a1 rfl rfl (host := "") (Or.inl (hw _ (List.mem_of_getElem? (i := 31) rfl))) d16_123 rfl (fun T1157 X1158 => ?_)
      refine g_iconst (v := 1) X1158 C d16_126 (by decide) rfl ?_
      refine g_isub X1158 C d16_127 rfl ?_
      rw [show ((2 : Int32) - (1 : Int32)) = (1 : Int32) by decide]
      refine g_dup2 X1158 C d16_128 rfl rfl rfl ?_
      refine g_laload (i := 1) (v := (.long (j1143 ^^^ (-1 : Int64)))) X1158 C A_fd (by decide) (by decide) rfl d16_129 rfl ?_
      refine g_aloadN X1158 C d16_130 rfl rfl rfl ?_
      refine g_getO (i := 9) X1158 C O_a1 rfl rfl (host := "") (Or.inl (hw _ (List.mem_of_getElem? (i := 33) rfl))) d16_131 rfl (fun T1159 X1160 => ?_)
      refine g_land X1160 C d16_134 rfl ?_
      refine g_lastore (i := 1) X1160 C A_fd (by decide) (by decide) ga_fd d16_135 rfl (fun T1161 h1163 X1162 A_fd K1164 => ?_)
      have O_a1 := O_a1.keep K1164 (ninN ne_a1_fd nin0)
      have A_tm := A_tm.keep K1164 (ninN ne_tm_fd nin0)
      have A_sr := A_sr.keep K1164 (ninN ne_sr_fd nin0)
      have A_ub := A_ub.keep K1164 (ninN ne_ub_fd nin0)
      have O_s0 := O_s0.keep K1164 (ninN ne_s0_fd nin0)
      have O_s1 := O_s1.keep K1164 (ninN ne_s1_fd nin0)
      have A_b0 := A_b0.keep K1164 (ninN ne_b0_fd nin0)
      have A_e0 := A_e0.keep K1164 (ninN ne_e0_fd nin0)
      have A_b1 := A_b1.keep K1164 (ninN ne_b1_fd nin0)
      have A_e1 := A_e1.keep K1164 (ninN ne_e1_fd nin0)
      have hz1165 : Lo n0 h1163.size := Lo.keep hz1150 K1164
      have KK1166 := KK1151.trans K1164 (allS (Or.inl (List.mem_of_getElem? (i := 0) rfl)) all0)
      refine g_aloadN X1162 C d16_136 rfl rfl rfl ?_
      refine g_aloadN X1162 C d16_137 rfl rfl rfl ?_
      refine g_getO (i := 10) X1162 C O_a1 rfl rfl (host := "") (Or.inl (hw _ (List.mem_of_getElem? (i := 35) rfl))) d16_138 rfl (fun T1167 X1168 => ?_)
      refine g_private (argsL := [(.ref fd)]) (rest := []) (W := 0) (a := a1) X1168 C (rmCount l Z a0 hw a1 fd tm sr ub fd c5 c6 c7 c8 nn (2 : Int32) lw bl (2 : Int32) 2 _ h1163 n0 hz1165 (Or.inr ⟨rfl, rfl⟩) O_a1 A_fd []) O_a1.1 (hw _ (List.mem_of_getElem? (i := 149) rfl)) (hw _ (List.mem_of_getElem? (i := 150) rfl)) (hw _ (List.mem_of_getElem? (i := 151) rfl)) (hw _ (List.mem_of_getElem? (i := 1) rfl)) (hw _ (List.mem_of_getElem? (i := 2) rfl)) (hw _ (List.mem_of_getElem? (i := 152) rfl)) (by decide) pd_10 rfl rfl rfl rfl rfl (by decide) (by decide) (by decide) (by decide) d16_141 rfl (fun r1172 T1169 h1171 hQ1173 X1170 => ?_)
      obtain ⟨q1174, rfl, hh⟩ := hQ1173; rw [hh] at X1170
      show Go p e below RS T1169 (mkF m 144 #[.val (.ref a1), .val (.int (1 : Int32)), .val (.long p3), .second, .val (.int (0 : Int32)), .val (.ref s1), .val (.ref b0), .val (.int (2 : Int32)), .val (.long j1143), .second] [(.int q1174)])
      refine g_iload X1170 C d16_144 rfl rfl ?_
      refine g_icmp_lt (a := q1174.toInt) (b := 0) X1170 C d16_146 rfl (by decide) (by decide) (pT := 153) (by decide) (pF := 149) rfl (fun hc146_1175 => ?_) (fun hc146_1175 => ?_)
      ·
        refine g_iconst (v := 0) X1170 C d16_153 (by decide) rfl ?_
        rw [hRS]
        refine g_retZ X1170 C d16_154 ?_ (by decide) (by decide)
        refine ⟨⟨_, rfl⟩, KK1166, _, A_fd, ?_⟩
        refine Or.inr ⟨by omega, own_all2 ?_ ?_⟩ <;> first | rfl | (simp [own_nb, z_j1127, z_j1143]; done)
      ·
        refine g_iconst (v := 1) X1170 C d16_149 (by decide) rfl ?_
        refine g_goto (pc' := 154) X1170 C d16_150 (by decide) (by decide) ?_
        rw [hRS]
        refine g_retZ X1170 C d16_154 ?_ (by decide) (by decide)
        refine ⟨⟨_, rfl⟩, KK1166, _, A_fd, ?_⟩
        refine Or.inr ⟨by omega, own_all2 ?_ ?_⟩ <;> first | rfl | (simp [own_nb, z_j1127, z_j1143]; done)
theorem ef_rmFUm (m : MethodId) (a1 : Addr) (p3 : Int64) : entryFrame m #[(.ref a1), (.int (-1 : Int32)), (.long p3), (.int (0 : Int32))] 8 = mkF m 0 #[.val (.ref a1), .val (.int (-1 : Int32)), .val (.long p3), .second, .val (.int (0 : Int32)), .unset, .unset, .unset] [] := by first | (simp [entryFrame, mkF, argsToLocals, Value.category]; done) | rfl
set_option maxRecDepth 65536 in
set_option maxHeartbeats 40000000 in
theorem rmFUm (l : Launch) (Z : State) (a0 : Array Value) (hw : ∀ d ∈ tables_1, d.before a0 Z = true) (a1 : Addr) (p3 : Int64) (tm sr ub fd c5 c6 c7 c8 : Addr) (nn wv : Int32) (lw : Int64) (bl : Int32) (wn : Nat) (gt gm gf : Nat → Int64) (fn : Nat → Value) (gu : Nat → Int32) (s0 s1 b0 b1 e0 e1 : Addr) (h0 : Heap) (n0 : Nat) (hz0 : Lo n0 h0.size) (hwn : own_W wn wv) (hgt0 : (gt 0).toInt = 0) (hgt1 : (gt 1).toInt = 10) (hfn0 : fn 0 = .ref s0) (hfn1 : fn 1 = .ref s1) (hnn : 0 ≤ nn.toInt) (hgu : ∀ k, k < 2 → 0 ≤ (gu k).toInt) (ga_a1 : Lo n0 a1) (ga_fd : Lo n0 fd) (ne_a1_fd : NE a1 fd) (ne_tm_fd : NE tm fd) (ne_sr_fd : NE sr fd) (ne_ub_fd : NE ub fd) (ne_s0_fd : NE s0 fd) (ne_s1_fd : NE s1 fd) (ne_b0_fd : NE b0 fd) (ne_b1_fd : NE b1 fd) (ne_e0_fd : NE e0 fd) (ne_e1_fd : NE e1 fd) (ne_tm_a1 : NE tm a1) (ne_sr_a1 : NE sr a1) (ne_ub_a1 : NE ub a1) (ne_s0_a1 : NE s0 a1) (ne_s1_a1 : NE s1 a1) (ne_b0_a1 : NE b0 a1) (ne_b1_a1 : NE b1 a1) (ne_e0_a1 : NE e0 a1) (ne_e1_a1 : NE e1 a1) (O_a1 : Ob Z h0 a1 "org/foreslot/planning/ClusterTimeline" NS_CT [(.ref tm), (.ref sr), (.ref ub), (.long (-9223372036854775808 : Int64)), (.long (1 : Int64)), (.long (9223372036854775807 : Int64)), (.long (-9223372036854775808 : Int64)), (.int nn), (.int wv), (.long lw), (.ref fd), (.ref c5), (.ref c6), (.ref c7), (.ref c8), (.int (2 : Int32)), (.int bl)]) (A_tm : Ar Z h0 tm .long 16 (fun j_ => .long (gt j_))) (A_sr : ArR Z h0 sr "org/foreslot/planning/ClusterTimeline$Stretch" 16 fn) (A_ub : Ar Z h0 ub .int 16 (fun k => .int (gu k))) (O_s0 : Ob Z h0 s0 "org/foreslot/planning/ClusterTimeline$Stretch" NS_SR [(.ref b0), (.ref e0), .null, .null, .null]) (O_s1 : Ob Z h0 s1 "org/foreslot/planning/ClusterTimeline$Stretch" NS_SR [(.ref b1), (.ref e1), .null, .null, .null]) (A_b0 : Ar Z h0 b0 .long wn (fun j_ => .long (gm j_))) (A_e0 : Ar Z h0 e0 .long wn (fun j_ => .long ((fun _ => 0) j_))) (A_b1 : Ar Z h0 b1 .long wn (fun j_ => .long ((fun _ => 0) j_))) (A_e1 : Ar Z h0 e1 .long wn (fun j_ => .long (gm j_))) (A_fd : Ar Z h0 fd .long wn (fun j_ => .long (gf j_))) (ws : List Jvm.Cond) :
    Ctr l (⟨"org/foreslot/planning/ClusterTimeline", "fitsUntil", "(IJI)Z"⟩ : MethodName) prog_29_method_23_code 8 (some .boolean) ({ frames := 2, cells := 0, slots := 0, locals := 40 } : Room) Z n0 #[(.ref a1), (.int (-1 : Int32)), (.long p3), (.int (0 : Int32))] h0 (fun v h => (∃ r : Int32, v = some (.int r)) ∧ Keep h0 h [a1, fd] ∧ ∃ (bl' : Int32) (gf' : Nat → Int64), Ob Z h a1 "org/foreslot/planning/ClusterTimeline" NS_CT [(.ref tm), (.ref sr), (.ref ub), (.long (-9223372036854775808 : Int64)), (.long (1 : Int64)), (.long (9223372036854775807 : Int64)), (.long (-9223372036854775808 : Int64)), (.int nn), (.int wv), (.long lw), (.ref fd), (.ref c5), (.ref c6), (.ref c7), (.ref c8), (.int (2 : Int32)), (.int bl')] ∧ Ar Z h fd .long wn (fun j_ => .long (gf' j_)) ∧ own_fd wn lw gm gf' (0 < p3.toInt)) ws := by
  refine ctr_of (plainFor_of_name pn_1) ?_
  intro p e s m below meth c T0 X0 C
  refine go_cast (ef_rmFUm m a1 p3) ?_
  obtain ⟨RS, hRS⟩ : ∃ RS, RS = Rs s below n0 (fun v h => (∃ r : Int32, v = some (.int r)) ∧ Keep h0 h [a1, fd] ∧ ∃ (bl' : Int32) (gf' : Nat → Int64), Ob Z h a1 "org/foreslot/planning/ClusterTimeline" NS_CT [(.ref tm), (.ref sr), (.ref ub), (.long (-9223372036854775808 : Int64)), (.long (1 : Int64)), (.long (9223372036854775807 : Int64)), (.long (-9223372036854775808 : Int64)), (.int nn), (.int wv), (.long lw), (.ref fd), (.ref c5), (.ref c6), (.ref c7), (.ref c8), (.int (2 : Int32)), (.int bl')] ∧ Ar Z h fd .long wn (fun j_ => .long (gf' j_)) ∧ own_fd wn lw gm gf' (0 < p3.toInt)) ({ frames := 2, cells := 0, slots := 0, locals := 40 } : Room).cells ({ frames := 2, cells := 0, slots := 0, locals := 40 } : Room).slots := ⟨_, rfl⟩
  suffices HG : Go p e below RS T0 (mkF m 0 #[.val (.ref a1), .val (.int (-1 : Int32)), .val (.long p3), .second, .val (.int (0 : Int32)), .unset, .unset, .unset] []) by rw [hRS] at HG; exact HG
  show Go p e below RS T0 (mkF m 0 #[.val (.ref a1), .val (.int (-1 : Int32)), .val (.long p3), .second, .val (.int (0 : Int32)), .unset, .unset, .unset] [])
  refine g_aloadN X0 C d24_0 rfl rfl rfl ?_
  refine g_iloadN X0 C d24_1 rfl rfl ?_
  refine g_private (argsL := [(.int (-1 : Int32))]) (rest := []) (W := 0) (a := a1) X0 C (rmNBn l Z a0 hw a1 (-1 : Int32) tm sr ub fd c5 c6 c7 c8 nn wv lw bl (2 : Int32) wn gf h0 n0 hz0 (by decide) hwn ga_fd ne_a1_fd O_a1 A_fd []) O_a1.1 (hw _ (List.mem_of_getElem? (i := 140) rfl)) (hw _ (List.mem_of_getElem? (i := 141) rfl)) (hw _ (List.mem_of_getElem? (i := 142) rfl)) (hw _ (List.mem_of_getElem? (i := 1) rfl)) (hw _ (List.mem_of_getElem? (i := 2) rfl)) (hw _ (List.mem_of_getElem? (i := 143) rfl)) (by decide) pd_6 rfl rfl rfl rfl rfl (by decide) (by decide) (by decide) (by decide) d24_2 rfl (fun r1179 T1176 h1178 hQ1180 X1177 => ?_)
  obtain ⟨rfl, KNB, A_fd⟩ := hQ1180
  have O_a1 := O_a1.keep KNB (ninN ne_a1_fd nin0)
  have A_tm := A_tm.keep KNB (ninN ne_tm_fd nin0)
  have A_sr := A_sr.keep KNB (ninN ne_sr_fd nin0)
  have A_ub := A_ub.keep KNB (ninN ne_ub_fd nin0)
  have O_s0 := O_s0.keep KNB (ninN ne_s0_fd nin0)
  have O_s1 := O_s1.keep KNB (ninN ne_s1_fd nin0)
  have A_b0 := A_b0.keep KNB (ninN ne_b0_fd nin0)
  have A_e0 := A_e0.keep KNB (ninN ne_e0_fd nin0)
  have A_b1 := A_b1.keep KNB (ninN ne_b1_fd nin0)
  have A_e1 := A_e1.keep KNB (ninN ne_e1_fd nin0)
  have hz1181 : Lo n0 h1178.size := Lo.keep hz0 KNB
  have KK1182 := (Keep.refl h0 [a1, fd]).trans KNB (allS (Or.inl (List.mem_of_getElem? (i := 1) rfl)) all0)
  show Go p e below RS T1176 (mkF m 5 #[.val (.ref a1), .val (.int (-1 : Int32)), .val (.long p3), .second, .val (.int (0 : Int32)), .unset, .unset, .unset] [])
  refine g_iconst (v := 1) X1177 C d24_5 (by decide) rfl ?_
  refine g_istore (L' := #[.val (.ref a1), .val (.int (-1 : Int32)), .val (.long p3), .second, .val (.int (0 : Int32)), .val (.int (1 : Int32)), .unset, .unset]) X1177 C d24_6 rfl rfl rfl ?_
  refine g_iloadN X1177 C d24_8 rfl rfl ?_
  refine g_iconst (v := 1) X1177 C d24_9 (by decide) rfl ?_
  refine g_iadd X1177 C d24_10 rfl ?_
  rw [show ((-1 : Int32) + (1 : Int32)) = (0 : Int32) by decide]
  refine g_istore (L' := #[.val (.ref a1), .val (.int (-1 : Int32)), .val (.long p3), .second, .val (.int (0 : Int32)), .val (.int (1 : Int32)), .val (.int (0 : Int32)), .unset]) X1177 C d24_11 rfl rfl rfl ?_
  refine g_iload X1177 C d24_13 rfl rfl ?_
  refine g_aloadN X1177 C d24_15 rfl rfl rfl ?_
  refine g_getO (i := 15) X1177 C O_a1 rfl rfl (host := "") (Or.inl (hw _ (List.mem_of_getElem? (i := 74) rfl))) d24_16 rfl (fun T1183 X1184 => ?_)
  refine g_icmp_ge (a := 0) (b := 2) X1184 C d24_19 (by decide) (by decide) (by decide) (pT := 119) (by decide) (pF := 22) rfl (fun hc19_1185 => absurd hc19_1185 (by omega)) (fun hc19_1185 => ?_)
  refine g_aloadN X1184 C d24_22 rfl rfl rfl ?_
  refine g_getO (i := 0) X1184 C O_a1 rfl rfl (host := "") (Or.inl (hw _ (List.mem_of_getElem? (i := 10) rfl))) d24_23 rfl (fun T1186 X1187 => ?_)
  refine g_iload X1187 C d24_26 rfl rfl ?_
  refine g_laload (i := 0) (v := (.long (gt 0))) X1187 C A_tm (by decide) (by decide) rfl d24_28 rfl ?_
  refine g_lloadN X1187 C d24_29 rfl rfl ?_
  refine g_lcmp X1187 C d24_30 rfl ?_
  refine g_lif_ge (a := (gt 0).toInt) (b := p3.toInt) X1187 C d24_31 rfl rfl (by decide) (pT := 119) (by decide) (pF := 34) rfl (fun hc31_1188 => ?_) (fun hc31_1188 => ?_)
  ·
    refine g_iload X1187 C d24_119 rfl rfl ?_
    rw [hRS]
    refine g_retZ X1187 C d24_121 ?_ (by decide) (by decide)
    refine ⟨⟨_, rfl⟩, KK1182, _, _, O_a1, A_fd, ?_⟩
    exact Or.inr ⟨by omega, fun _ _ => rfl⟩
  ·
    refine g_iload X1187 C d24_34 rfl rfl ?_
    refine g_if_eq (a := 1) X1187 C d24_36 (by decide) (by decide) (pT := 119) (by decide) (pF := 39) rfl (fun hc36_1189 => absurd hc36_1189 (by omega)) (fun hc36_1189 => ?_)
    refine g_aloadN X1187 C d24_39 rfl rfl rfl ?_
    refine g_getO (i := 1) X1187 C O_a1 rfl rfl (host := "") (Or.inl (hw _ (List.mem_of_getElem? (i := 14) rfl))) d24_40 rfl (fun T1190 X1191 => ?_)
    refine g_iload X1191 C d24_43 rfl rfl ?_
    refine g_aaload (i := 0) (v := (.ref s0)) X1191 C A_sr (by decide) (by decide) hfn0 d24_45 rfl ?_
    refine g_astore (L' := #[.val (.ref a1), .val (.int (-1 : Int32)), .val (.long p3), .second, .val (.int (0 : Int32)), .val (.int (1 : Int32)), .val (.int (0 : Int32)), .val (.ref s0)]) X1191 C d24_46 rfl rfl rfl ?_
    refine g_aloadN X1191 C d24_48 rfl rfl rfl ?_
    refine g_aloadN X1191 C d24_49 rfl rfl rfl ?_
    refine g_getO (i := 10) X1191 C O_a1 rfl rfl (host := "") (Or.inl (hw _ (List.mem_of_getElem? (i := 35) rfl))) d24_50 rfl (fun T1192 X1193 => ?_)
    refine g_aload X1193 C d24_53 rfl rfl rfl ?_
    refine g_getO (i := 0) X1193 C O_s0 rfl rfl (host := "") (Or.inl (hw _ (List.mem_of_getElem? (i := 93) rfl))) d24_55 rfl (fun T1194 X1195 => ?_)
    refine g_private (argsL := [(.ref fd), (.ref b0)]) (rest := []) (W := 0) (a := a1) X1195 C (rmTake l Z a0 hw a1 fd b0 tm sr ub fd c5 c6 c7 c8 nn wv lw bl (2 : Int32) wn (own_nb wn lw (fun _ => 0)) gm h1178 n0 hz1181 hwn ga_fd ne_a1_fd ne_b0_fd O_a1 A_fd A_b0 []) O_a1.1 (hw _ (List.mem_of_getElem? (i := 178) rfl)) (hw _ (List.mem_of_getElem? (i := 179) rfl)) (hw _ (List.mem_of_getElem? (i := 180) rfl)) (hw _ (List.mem_of_getElem? (i := 1) rfl)) (hw _ (List.mem_of_getElem? (i := 2) rfl)) (hw _ (List.mem_of_getElem? (i := 181) rfl)) (by decide) pd_1 rfl rfl rfl rfl rfl (by decide) (by decide) (by decide) (by decide) d24_58 rfl (fun r1199 T1196 h1198 hQ1200 X1197 => ?_)
    obtain ⟨rfl, KT1201, A_fd⟩ := hQ1200
    have O_a1 := O_a1.keep KT1201 (ninN ne_a1_fd nin0)
    have A_tm := A_tm.keep KT1201 (ninN ne_tm_fd nin0)
    have A_sr := A_sr.keep KT1201 (ninN ne_sr_fd nin0)
    have A_ub := A_ub.keep KT1201 (ninN ne_ub_fd nin0)
    have O_s0 := O_s0.keep KT1201 (ninN ne_s0_fd nin0)
    have O_s1 := O_s1.keep KT1201 (ninN ne_s1_fd nin0)
    have A_b0 := A_b0.keep KT1201 (ninN ne_b0_fd nin0)
    have A_e0 := A_e0.keep KT1201 (ninN ne_e0_fd nin0)
    have A_b1 := A_b1.keep KT1201 (ninN ne_b1_fd nin0)
    have A_e1 := A_e1.keep KT1201 (ninN ne_e1_fd nin0)
    have hz1202 : Lo n0 h1198.size := Lo.keep hz1181 KT1201
    have KK1203 := KK1182.trans KT1201 (allS (Or.inl (List.mem_of_getElem? (i := 1) rfl)) all0)
    have A_fd : Ar Z h1198 fd .long wn (fun j_ => .long ((own_nb wn lw gm) j_)) := A_fd.congr (fun j _ => by rw [own_tk gm])
    show Go p e below RS T1196 (mkF m 61 #[.val (.ref a1), .val (.int (-1 : Int32)), .val (.long p3), .second, .val (.int (0 : Int32)), .val (.int (1 : Int32)), .val (.int (0 : Int32)), .val (.ref s0)] [])
    refine g_aload X1197 C d24_61 rfl rfl rfl ?_
    refine g_getO (i := 3) X1197 C O_s0 rfl rfl (host := "") (Or.inl (hw _ (List.mem_of_getElem? (i := 117) rfl))) d24_63 rfl (fun T1204 X1205 => ?_)
    refine g_nullY X1205 C d24_66 (by decide) (pT := 82) (by decide) ?_
    refine g_iload X1205 C d24_82 rfl rfl ?_
    refine g_if_le (a := 0) X1205 C d24_84 (by decide) (by decide) (pT := 100) (by decide) (pF := 87) rfl (fun hc84_1206 => ?_) (fun hc84_1206 => absurd hc84_1206 (by omega))
    refine g_iconst (v := 1) X1205 C d24_100 (by decide) rfl ?_
    refine g_goto (pc' := 105) X1205 C d24_101 (by decide) (by decide) ?_
    refine g_istore (L' := #[.val (.ref a1), .val (.int (-1 : Int32)), .val (.long p3), .second, .val (.int (0 : Int32)), .val (.int (1 : Int32)), .val (.int (0 : Int32)), .val (.ref s0)]) X1205 C d24_105 rfl rfl rfl ?_
    refine g_aloadN X1205 C d24_107 rfl rfl rfl ?_
    refine g_iload X1205 C d24_108 rfl rfl ?_
    refine g_putO (i := 16) (vs' := [(.ref tm), (.ref sr), (.ref ub), (.long (-9223372036854775808 : Int64)), (.long (1 : Int64)), (.long (9223372036854775807 : Int64)), (.long (-9223372036854775808 : Int64)), (.int nn), (.int wv), (.long lw), (.ref fd), (.ref c5), (.ref c6), (.ref c7), (.ref c8), (.int (2 : Int32)), (.int (0 : Int32))]) X1205 C O_a1 (CF_CT hw) rfl rfl rfl ga_a1 (host := "") (Or.inl (hw _ (List.mem_of_getElem? (i := 134) rfl))) (Or.inl (hw _ (List.mem_of_getElem? (i := 135) rfl))) (ty := .int) (by decide) rfl rfl d24_110 rfl (fun T1207 h1209 X1208 O_a1 K1210 => ?_)
    have A_tm := A_tm.keep K1210 (ninN ne_tm_a1 nin0)
    have A_sr := A_sr.keep K1210 (ninN ne_sr_a1 nin0)
    have A_ub := A_ub.keep K1210 (ninN ne_ub_a1 nin0)
    have O_s0 := O_s0.keep K1210 (ninN ne_s0_a1 nin0)
    have O_s1 := O_s1.keep K1210 (ninN ne_s1_a1 nin0)
    have A_b0 := A_b0.keep K1210 (ninN ne_b0_a1 nin0)
    have A_e0 := A_e0.keep K1210 (ninN ne_e0_a1 nin0)
    have A_b1 := A_b1.keep K1210 (ninN ne_b1_a1 nin0)
    have A_e1 := A_e1.keep K1210 (ninN ne_e1_a1 nin0)
    have A_fd := A_fd.keep K1210 (ninN (NE.symm ne_a1_fd) nin0)
    have hz1211 : Lo n0 h1209.size := Lo.keep hz1202 K1210
    have KK1212 := KK1203.trans K1210 (allS (Or.inl (List.mem_of_getElem? (i := 0) rfl)) all0)
    refine g_iinc (v' := (1 : Int32)) (L' := #[.val (.ref a1), .val (.int (-1 : Int32)), .val (.long p3), .second, .val (.int (0 : Int32)), .val (.int (1 : Int32)), .val (.int (1 : Int32)), .val (.ref s0)]) X1208 C d24_113 rfl (by decide) rfl rfl ?_
    refine g_goto (pc' := 13) X1208 C d24_116 (by decide) (by decide) ?_
    refine g_iload X1208 C d24_13 rfl rfl ?_
    refine g_aloadN X1208 C d24_15 rfl rfl rfl ?_
    refine g_getO (i := 15) X1208 C O_a1 rfl rfl (host := "") (Or.inl (hw _ (List.mem_of_getElem? (i := 74) rfl))) d24_16 rfl (fun T1213 X1214 => ?_)
    refine g_icmp_ge (a := 1) (b := 2) X1214 C d24_19 (by decide) (by decide) (by decide) (pT := 119) (by decide) (pF := 22) rfl (fun hc19_1215 => absurd hc19_1215 (by omega)) (fun hc19_1215 => ?_)
    refine g_aloadN X1214 C d24_22 rfl rfl rfl ?_
    refine g_getO (i := 0) X1214 C O_a1 rfl rfl (host := "") (Or.inl (hw _ (List.mem_of_getElem? (i := 10) rfl))) d24_23 rfl (fun T1216 X1217 => ?_)
    refine g_iload X1217 C d24_26 rfl rfl ?_
    refine g_laload (i := 1) (v := (.long (gt 1))) X1217 C A_tm (by decide) (by decide) rfl d24_28 rfl ?_
    refine g_lloadN X1217 C d24_29 rfl rfl ?_
    refine g_lcmp X1217 C d24_30 rfl ?_
    refine g_lif_ge (a := (gt 1).toInt) (b := p3.toInt) X1217 C d24_31 rfl rfl (by decide) (pT := 119) (by decide) (pF := 34) rfl (fun hc31_1218 => ?_) (fun hc31_1218 => ?_)
    ·
      refine g_iload X1217 C d24_119 rfl rfl ?_
      rw [hRS]
      refine g_retZ X1217 C d24_121 ?_ (by decide) (by decide)
      refine ⟨⟨_, rfl⟩, KK1212, _, _, O_a1, A_fd, ?_⟩
      exact Or.inl ⟨by omega, fun _ _ => rfl⟩
    ·
      refine g_iload X1217 C d24_34 rfl rfl ?_
      refine g_if_eq (a := 1) X1217 C d24_36 (by decide) (by decide) (pT := 119) (by decide) (pF := 39) rfl (fun hc36_1219 => absurd hc36_1219 (by omega)) (fun hc36_1219 => ?_)
      refine g_aloadN X1217 C d24_39 rfl rfl rfl ?_
      refine g_getO (i := 1) X1217 C O_a1 rfl rfl (host := "") (Or.inl (hw _ (List.mem_of_getElem? (i := 14) rfl))) d24_40 rfl (fun T1220 X1221 => ?_)
      refine g_iload X1221 C d24_43 rfl rfl ?_
      refine g_aaload (i := 1) (v := (.ref s1)) X1221 C A_sr (by decide) (by decide) hfn1 d24_45 rfl ?_
      refine g_astore (L' := #[.val (.ref a1), .val (.int (-1 : Int32)), .val (.long p3), .second, .val (.int (0 : Int32)), .val (.int (1 : Int32)), .val (.int (1 : Int32)), .val (.ref s1)]) X1221 C d24_46 rfl rfl rfl ?_
      refine g_aloadN X1221 C d24_48 rfl rfl rfl ?_
      refine g_aloadN X1221 C d24_49 rfl rfl rfl ?_
      refine g_getO (i := 10) X1221 C O_a1 rfl rfl (host := "") (Or.inl (hw _ (List.mem_of_getElem? (i := 35) rfl))) d24_50 rfl (fun T1222 X1223 => ?_)
      refine g_aload X1223 C d24_53 rfl rfl rfl ?_
      refine g_getO (i := 0) X1223 C O_s1 rfl rfl (host := "") (Or.inl (hw _ (List.mem_of_getElem? (i := 93) rfl))) d24_55 rfl (fun T1224 X1225 => ?_)
      refine g_private (argsL := [(.ref fd), (.ref b1)]) (rest := []) (W := 0) (a := a1) X1225 C (rmTake l Z a0 hw a1 fd b1 tm sr ub fd c5 c6 c7 c8 nn wv lw (0 : Int32) (2 : Int32) wn (own_nb wn lw gm) (fun _ => 0) h1209 n0 hz1211 hwn ga_fd ne_a1_fd ne_b1_fd O_a1 A_fd A_b1 []) O_a1.1 (hw _ (List.mem_of_getElem? (i := 178) rfl)) (hw _ (List.mem_of_getElem? (i := 179) rfl)) (hw _ (List.mem_of_getElem? (i := 180) rfl)) (hw _ (List.mem_of_getElem? (i := 1) rfl)) (hw _ (List.mem_of_getElem? (i := 2) rfl)) (hw _ (List.mem_of_getElem? (i := 181) rfl)) (by decide) pd_1 rfl rfl rfl rfl rfl (by decide) (by decide) (by decide) (by decide) d24_58 rfl (fun r1229 T1226 h1228 hQ1230 X1227 => ?_)
      obtain ⟨rfl, KT1231, A_fd⟩ := hQ1230
      have O_a1 := O_a1.keep KT1231 (ninN ne_a1_fd nin0)
      have A_tm := A_tm.keep KT1231 (ninN ne_tm_fd nin0)
      have A_sr := A_sr.keep KT1231 (ninN ne_sr_fd nin0)
      have A_ub := A_ub.keep KT1231 (ninN ne_ub_fd nin0)
      have O_s0 := O_s0.keep KT1231 (ninN ne_s0_fd nin0)
      have O_s1 := O_s1.keep KT1231 (ninN ne_s1_fd nin0)
      have A_b0 := A_b0.keep KT1231 (ninN ne_b0_fd nin0)
      have A_e0 := A_e0.keep KT1231 (ninN ne_e0_fd nin0)
      have A_b1 := A_b1.keep KT1231 (ninN ne_b1_fd nin0)
      have A_e1 := A_e1.keep KT1231 (ninN ne_e1_fd nin0)
      have hz1232 : Lo n0 h1228.size := Lo.keep hz1211 KT1231
      have KK1233 := KK1212.trans KT1231 (allS (Or.inl (List.mem_of_getElem? (i := 1) rfl)) all0)
      have A_fd : Ar Z h1228 fd .long wn (fun j_ => .long ((own_nb wn lw gm) j_)) := A_fd.congr (fun j _ => by rw [own_tk0])
      show Go p e below RS T1226 (mkF m 61 #[.val (.ref a1), .val (.int (-1 : Int32)), .val (.long p3), .second, .val (.int (0 : Int32)), .val (.int (1 : Int32)), .val (.int (1 : Int32)), .val (.ref s1)] [])
      refine g_aload X1227 C d24_61 rfl rfl rfl ?_
      refine g_getO (i := 3) X1227 C O_s1 rfl rfl (host := "") (Or.inl (hw _ (List.mem_of_getElem? (i := 117) rfl))) d24_63 rfl (fun T1234 X1235 => ?_)
      refine g_nullY X1235 C d24_66 (by decide) (pT := 82) (by decide) ?_
      refine g_iload X1235 C d24_82 rfl rfl ?_
      refine g_if_le (a := 0) X1235 C d24_84 (by decide) (by decide) (pT := 100) (by decide) (pF := 87) rfl (fun hc84_1236 => ?_) (fun hc84_1236 => absurd hc84_1236 (by omega))
      refine g_iconst (v := 1) X1235 C d24_100 (by decide) rfl ?_
      refine g_goto (pc' := 105) X1235 C d24_101 (by decide) (by decide) ?_
      refine g_istore (L' := #[.val (.ref a1), .val (.int (-1 : Int32)), .val (.long p3), .second, .val (.int (0 : Int32)), .val (.int (1 : Int32)), .val (.int (1 : Int32)), .val (.ref s1)]) X1235 C d24_105 rfl rfl rfl ?_
      refine g_aloadN X1235 C d24_107 rfl rfl rfl ?_
      refine g_iload X1235 C d24_108 rfl rfl ?_
      refine g_putO (i := 16) (vs' := [(.ref tm), (.ref sr), (.ref ub), (.long (-9223372036854775808 : Int64)), (.long (1 : Int64)), (.long (9223372036854775807 : Int64)), (.long (-9223372036854775808 : Int64)), (.int nn), (.int wv), (.long lw), (.ref fd), (.ref c5), (.ref c6), (.ref c7), (.ref c8), (.int (2 : Int32)), (.int (1 : Int32))]) X1235 C O_a1 (CF_CT hw) rfl rfl rfl ga_a1 (host := "") (Or.inl (hw _ (List.mem_of_getElem? (i := 134) rfl))) (Or.inl (hw _ (List.mem_of_getElem? (i := 135) rfl))) (ty := .int) (by decide) rfl rfl d24_110 rfl (fun T1237 h1239 X1238 O_a1 K1240 => ?_)
      have A_tm := A_tm.keep K1240 (ninN ne_tm_a1 nin0)
      have A_sr := A_sr.keep K1240 (ninN ne_sr_a1 nin0)
      have A_ub := A_ub.keep K1240 (ninN ne_ub_a1 nin0)
      have O_s0 := O_s0.keep K1240 (ninN ne_s0_a1 nin0)
      have O_s1 := O_s1.keep K1240 (ninN ne_s1_a1 nin0)
      have A_b0 := A_b0.keep K1240 (ninN ne_b0_a1 nin0)
      have A_e0 := A_e0.keep K1240 (ninN ne_e0_a1 nin0)
      have A_b1 := A_b1.keep K1240 (ninN ne_b1_a1 nin0)
      have A_e1 := A_e1.keep K1240 (ninN ne_e1_a1 nin0)
      have A_fd := A_fd.keep K1240 (ninN (NE.symm ne_a1_fd) nin0)
      have hz1241 : Lo n0 h1239.size := Lo.keep hz1232 K1240
      have KK1242 := KK1233.trans K1240 (allS (Or.inl (List.mem_of_getElem? (i := 0) rfl)) all0)
      refine g_iinc (v' := (2 : Int32)) (L' := #[.val (.ref a1), .val (.int (-1 : Int32)), .val (.long p3), .second, .val (.int (0 : Int32)), .val (.int (1 : Int32)), .val (.int (2 : Int32)), .val (.ref s1)]) X1238 C d24_113 rfl (by decide) rfl rfl ?_
      refine g_goto (pc' := 13) X1238 C d24_116 (by decide) (by decide) ?_
      refine g_iload X1238 C d24_13 rfl rfl ?_
      refine g_aloadN X1238 C d24_15 rfl rfl rfl ?_
      refine g_getO (i := 15) X1238 C O_a1 rfl rfl (host := "") (Or.inl (hw _ (List.mem_of_getElem? (i := 74) rfl))) d24_16 rfl (fun T1243 X1244 => ?_)
      refine g_icmp_ge (a := 2) (b := 2) X1244 C d24_19 (by decide) (by decide) (by decide) (pT := 119) (by decide) (pF := 22) rfl (fun hc19_1245 => ?_) (fun hc19_1245 => absurd hc19_1245 (by omega))
      refine g_iload X1244 C d24_119 rfl rfl ?_
      rw [hRS]
      refine g_retZ X1244 C d24_121 ?_ (by decide) (by decide)
      refine ⟨⟨_, rfl⟩, KK1242, _, _, O_a1, A_fd, ?_⟩
      exact Or.inl ⟨by omega, fun _ _ => rfl⟩
theorem ef_rmFU0 (m : MethodId) (a1 : Addr) (p3 : Int64) : entryFrame m #[(.ref a1), (.int (0 : Int32)), (.long p3), (.int (0 : Int32))] 8 = mkF m 0 #[.val (.ref a1), .val (.int (0 : Int32)), .val (.long p3), .second, .val (.int (0 : Int32)), .unset, .unset, .unset] [] := by first | (simp [entryFrame, mkF, argsToLocals, Value.category]; done) | rfl
set_option maxRecDepth 65536 in
set_option maxHeartbeats 40000000 in
theorem rmFU0 (l : Launch) (Z : State) (a0 : Array Value) (hw : ∀ d ∈ tables_1, d.before a0 Z = true) (a1 : Addr) (p3 : Int64) (tm sr ub fd c5 c6 c7 c8 : Addr) (nn wv : Int32) (lw : Int64) (bl : Int32) (wn : Nat) (gt gm gf : Nat → Int64) (fn : Nat → Value) (gu : Nat → Int32) (s0 s1 b0 b1 e0 e1 : Addr) (h0 : Heap) (n0 : Nat) (hz0 : Lo n0 h0.size) (hwn : own_W wn wv) (hgt0 : (gt 0).toInt = 0) (hgt1 : (gt 1).toInt = 10) (hfn0 : fn 0 = .ref s0) (hfn1 : fn 1 = .ref s1) (hnn : 0 ≤ nn.toInt) (hgu : ∀ k, k < 2 → 0 ≤ (gu k).toInt) (ga_a1 : Lo n0 a1) (ga_fd : Lo n0 fd) (ne_a1_fd : NE a1 fd) (ne_tm_fd : NE tm fd) (ne_sr_fd : NE sr fd) (ne_ub_fd : NE ub fd) (ne_s0_fd : NE s0 fd) (ne_s1_fd : NE s1 fd) (ne_b0_fd : NE b0 fd) (ne_b1_fd : NE b1 fd) (ne_e0_fd : NE e0 fd) (ne_e1_fd : NE e1 fd) (ne_tm_a1 : NE tm a1) (ne_sr_a1 : NE sr a1) (ne_ub_a1 : NE ub a1) (ne_s0_a1 : NE s0 a1) (ne_s1_a1 : NE s1 a1) (ne_b0_a1 : NE b0 a1) (ne_b1_a1 : NE b1 a1) (ne_e0_a1 : NE e0 a1) (ne_e1_a1 : NE e1 a1) (O_a1 : Ob Z h0 a1 "org/foreslot/planning/ClusterTimeline" NS_CT [(.ref tm), (.ref sr), (.ref ub), (.long (-9223372036854775808 : Int64)), (.long (1 : Int64)), (.long (9223372036854775807 : Int64)), (.long (-9223372036854775808 : Int64)), (.int nn), (.int wv), (.long lw), (.ref fd), (.ref c5), (.ref c6), (.ref c7), (.ref c8), (.int (2 : Int32)), (.int bl)]) (A_tm : Ar Z h0 tm .long 16 (fun j_ => .long (gt j_))) (A_sr : ArR Z h0 sr "org/foreslot/planning/ClusterTimeline$Stretch" 16 fn) (A_ub : Ar Z h0 ub .int 16 (fun k => .int (gu k))) (O_s0 : Ob Z h0 s0 "org/foreslot/planning/ClusterTimeline$Stretch" NS_SR [(.ref b0), (.ref e0), .null, .null, .null]) (O_s1 : Ob Z h0 s1 "org/foreslot/planning/ClusterTimeline$Stretch" NS_SR [(.ref b1), (.ref e1), .null, .null, .null]) (A_b0 : Ar Z h0 b0 .long wn (fun j_ => .long (gm j_))) (A_e0 : Ar Z h0 e0 .long wn (fun j_ => .long ((fun _ => 0) j_))) (A_b1 : Ar Z h0 b1 .long wn (fun j_ => .long ((fun _ => 0) j_))) (A_e1 : Ar Z h0 e1 .long wn (fun j_ => .long (gm j_))) (A_fd : Ar Z h0 fd .long wn (fun j_ => .long (gf j_))) (ws : List Jvm.Cond) :
    Ctr l (⟨"org/foreslot/planning/ClusterTimeline", "fitsUntil", "(IJI)Z"⟩ : MethodName) prog_29_method_23_code 8 (some .boolean) ({ frames := 2, cells := 0, slots := 0, locals := 40 } : Room) Z n0 #[(.ref a1), (.int (0 : Int32)), (.long p3), (.int (0 : Int32))] h0 (fun v h => (∃ r : Int32, v = some (.int r)) ∧ Keep h0 h [a1, fd] ∧ ∃ (bl' : Int32) (gf' : Nat → Int64), Ob Z h a1 "org/foreslot/planning/ClusterTimeline" NS_CT [(.ref tm), (.ref sr), (.ref ub), (.long (-9223372036854775808 : Int64)), (.long (1 : Int64)), (.long (9223372036854775807 : Int64)), (.long (-9223372036854775808 : Int64)), (.int nn), (.int wv), (.long lw), (.ref fd), (.ref c5), (.ref c6), (.ref c7), (.ref c8), (.int (2 : Int32)), (.int bl')] ∧ Ar Z h fd .long wn (fun j_ => .long (gf' j_)) ∧ own_fd wn lw gm gf' (True)) ws := by
  refine ctr_of (plainFor_of_name pn_1) ?_
  intro p e s m below meth c T0 X0 C
  refine go_cast (ef_rmFU0 m a1 p3) ?_
  obtain ⟨RS, hRS⟩ : ∃ RS, RS = Rs s below n0 (fun v h => (∃ r : Int32, v = some (.int r)) ∧ Keep h0 h [a1, fd] ∧ ∃ (bl' : Int32) (gf' : Nat → Int64), Ob Z h a1 "org/foreslot/planning/ClusterTimeline" NS_CT [(.ref tm), (.ref sr), (.ref ub), (.long (-9223372036854775808 : Int64)), (.long (1 : Int64)), (.long (9223372036854775807 : Int64)), (.long (-9223372036854775808 : Int64)), (.int nn), (.int wv), (.long lw), (.ref fd), (.ref c5), (.ref c6), (.ref c7), (.ref c8), (.int (2 : Int32)), (.int bl')] ∧ Ar Z h fd .long wn (fun j_ => .long (gf' j_)) ∧ own_fd wn lw gm gf' (True)) ({ frames := 2, cells := 0, slots := 0, locals := 40 } : Room).cells ({ frames := 2, cells := 0, slots := 0, locals := 40 } : Room).slots := ⟨_, rfl⟩
  suffices HG : Go p e below RS T0 (mkF m 0 #[.val (.ref a1), .val (.int (0 : Int32)), .val (.long p3), .second, .val (.int (0 : Int32)), .unset, .unset, .unset] []) by rw [hRS] at HG; exact HG
  show Go p e below RS T0 (mkF m 0 #[.val (.ref a1), .val (.int (0 : Int32)), .val (.long p3), .second, .val (.int (0 : Int32)), .unset, .unset, .unset] [])
  refine g_aloadN X0 C d24_0 rfl rfl rfl ?_
  refine g_iloadN X0 C d24_1 rfl rfl ?_
  refine g_private (argsL := [(.int (0 : Int32))]) (rest := []) (W := 0) (a := a1) X0 C (rmNBi l Z a0 hw a1 (0 : Int32) tm sr ub fd c5 c6 c7 c8 nn wv lw bl (2 : Int32) wn gf 0 fn s0 b0 e0 gm h0 n0 hz0 (by decide) hwn ga_fd ne_a1_fd O_a1 A_fd (by decide) hfn0 ne_sr_fd ne_s0_fd ne_b0_fd A_sr O_s0 A_b0 []) O_a1.1 (hw _ (List.mem_of_getElem? (i := 140) rfl)) (hw _ (List.mem_of_getElem? (i := 141) rfl)) (hw _ (List.mem_of_getElem? (i := 142) rfl)) (hw _ (List.mem_of_getElem? (i := 1) rfl)) (hw _ (List.mem_of_getElem? (i := 2) rfl)) (hw _ (List.mem_of_getElem? (i := 143) rfl)) (by decide) pd_6 rfl rfl rfl rfl rfl (by decide) (by decide) (by decide) (by decide) d24_2 rfl (fun r1249 T1246 h1248 hQ1250 X1247 => ?_)
  obtain ⟨rfl, KNB, A_fd⟩ := hQ1250
  have O_a1 := O_a1.keep KNB (ninN ne_a1_fd nin0)
  have A_tm := A_tm.keep KNB (ninN ne_tm_fd nin0)
  have A_sr := A_sr.keep KNB (ninN ne_sr_fd nin0)
  have A_ub := A_ub.keep KNB (ninN ne_ub_fd nin0)
  have O_s0 := O_s0.keep KNB (ninN ne_s0_fd nin0)
  have O_s1 := O_s1.keep KNB (ninN ne_s1_fd nin0)
  have A_b0 := A_b0.keep KNB (ninN ne_b0_fd nin0)
  have A_e0 := A_e0.keep KNB (ninN ne_e0_fd nin0)
  have A_b1 := A_b1.keep KNB (ninN ne_b1_fd nin0)
  have A_e1 := A_e1.keep KNB (ninN ne_e1_fd nin0)
  have hz1251 : Lo n0 h1248.size := Lo.keep hz0 KNB
  have KK1252 := (Keep.refl h0 [a1, fd]).trans KNB (allS (Or.inl (List.mem_of_getElem? (i := 1) rfl)) all0)
  show Go p e below RS T1246 (mkF m 5 #[.val (.ref a1), .val (.int (0 : Int32)), .val (.long p3), .second, .val (.int (0 : Int32)), .unset, .unset, .unset] [])
  refine g_iconst (v := 1) X1247 C d24_5 (by decide) rfl ?_
  refine g_istore (L' := #[.val (.ref a1), .val (.int (0 : Int32)), .val (.long p3), .second, .val (.int (0 : Int32)), .val (.int (1 : Int32)), .unset, .unset]) X1247 C d24_6 rfl rfl rfl ?_
  refine g_iloadN X1247 C d24_8 rfl rfl ?_
  refine g_iconst (v := 1) X1247 C d24_9 (by decide) rfl ?_
  refine g_iadd X1247 C d24_10 rfl ?_
  rw [show ((0 : Int32) + (1 : Int32)) = (1 : Int32) by decide]
  refine g_istore (L' := #[.val (.ref a1), .val (.int (0 : Int32)), .val (.long p3), .second, .val (.int (0 : Int32)), .val (.int (1 : Int32)), .val (.int (1 : Int32)), .unset]) X1247 C d24_11 rfl rfl rfl ?_
  refine g_iload X1247 C d24_13 rfl rfl ?_
  refine g_aloadN X1247 C d24_15 rfl rfl rfl ?_
  refine g_getO (i := 15) X1247 C O_a1 rfl rfl (host := "") (Or.inl (hw _ (List.mem_of_getElem? (i := 74) rfl))) d24_16 rfl (fun T1253 X1254 => ?_)
  refine g_icmp_ge (a := 1) (b := 2) X1254 C d24_19 (by decide) (by decide) (by decide) (pT := 119) (by decide) (pF := 22) rfl (fun hc19_1255 => absurd hc19_1255 (by omega)) (fun hc19_1255 => ?_)
  refine g_aloadN X1254 C d24_22 rfl rfl rfl ?_
  refine g_getO (i := 0) X1254 C O_a1 rfl rfl (host := "") (Or.inl (hw _ (List.mem_of_getElem? (i := 10) rfl))) d24_23 rfl (fun T1256 X1257 => ?_)
  refine g_iload X1257 C d24_26 rfl rfl ?_
  refine g_laload (i := 1) (v := (.long (gt 1))) X1257 C A_tm (by decide) (by decide) rfl d24_28 rfl ?_
  refine g_lloadN X1257 C d24_29 rfl rfl ?_
  refine g_lcmp X1257 C d24_30 rfl ?_
  refine g_lif_ge (a := (gt 1).toInt) (b := p3.toInt) X1257 C d24_31 rfl rfl (by decide) (pT := 119) (by decide) (pF := 34) rfl (fun hc31_1258 => ?_) (fun hc31_1258 => ?_)
  ·
    refine g_iload X1257 C d24_119 rfl rfl ?_
    rw [hRS]
    refine g_retZ X1257 C d24_121 ?_ (by decide) (by decide)
    refine ⟨⟨_, rfl⟩, KK1252, _, _, O_a1, A_fd, ?_⟩
    exact Or.inl ⟨trivial, fun _ _ => rfl⟩
  ·
    refine g_iload X1257 C d24_34 rfl rfl ?_
    refine g_if_eq (a := 1) X1257 C d24_36 (by decide) (by decide) (pT := 119) (by decide) (pF := 39) rfl (fun hc36_1259 => absurd hc36_1259 (by omega)) (fun hc36_1259 => ?_)
    refine g_aloadN X1257 C d24_39 rfl rfl rfl ?_
    refine g_getO (i := 1) X1257 C O_a1 rfl rfl (host := "") (Or.inl (hw _ (List.mem_of_getElem? (i := 14) rfl))) d24_40 rfl (fun T1260 X1261 => ?_)
    refine g_iload X1261 C d24_43 rfl rfl ?_
    refine g_aaload (i := 1) (v := (.ref s1)) X1261 C A_sr (by decide) (by decide) hfn1 d24_45 rfl ?_
    refine g_astore (L' := #[.val (.ref a1), .val (.int (0 : Int32)), .val (.long p3), .second, .val (.int (0 : Int32)), .val (.int (1 : Int32)), .val (.int (1 : Int32)), .val (.ref s1)]) X1261 C d24_46 rfl rfl rfl ?_
    refine g_aloadN X1261 C d24_48 rfl rfl rfl ?_
    refine g_aloadN X1261 C d24_49 rfl rfl rfl ?_
    refine g_getO (i := 10) X1261 C O_a1 rfl rfl (host := "") (Or.inl (hw _ (List.mem_of_getElem? (i := 35) rfl))) d24_50 rfl (fun T1262 X1263 => ?_)
    refine g_aload X1263 C d24_53 rfl rfl rfl ?_
    refine g_getO (i := 0) X1263 C O_s1 rfl rfl (host := "") (Or.inl (hw _ (List.mem_of_getElem? (i := 93) rfl))) d24_55 rfl (fun T1264 X1265 => ?_)
    refine g_private (argsL := [(.ref fd), (.ref b1)]) (rest := []) (W := 0) (a := a1) X1265 C (rmTake l Z a0 hw a1 fd b1 tm sr ub fd c5 c6 c7 c8 nn wv lw bl (2 : Int32) wn (own_nb wn lw gm) (fun _ => 0) h1248 n0 hz1251 hwn ga_fd ne_a1_fd ne_b1_fd O_a1 A_fd A_b1 []) O_a1.1 (hw _ (List.mem_of_getElem? (i := 178) rfl)) (hw _ (List.mem_of_getElem? (i := 179) rfl)) (hw _ (List.mem_of_getElem? (i := 180) rfl)) (hw _ (List.mem_of_getElem? (i := 1) rfl)) (hw _ (List.mem_of_getElem? (i := 2) rfl)) (hw _ (List.mem_of_getElem? (i := 181) rfl)) (by decide) pd_1 rfl rfl rfl rfl rfl (by decide) (by decide) (by decide) (by decide) d24_58 rfl (fun r1269 T1266 h1268 hQ1270 X1267 => ?_)
    obtain ⟨rfl, KT1271, A_fd⟩ := hQ1270
    have O_a1 := O_a1.keep KT1271 (ninN ne_a1_fd nin0)
    have A_tm := A_tm.keep KT1271 (ninN ne_tm_fd nin0)
    have A_sr := A_sr.keep KT1271 (ninN ne_sr_fd nin0)
    have A_ub := A_ub.keep KT1271 (ninN ne_ub_fd nin0)
    have O_s0 := O_s0.keep KT1271 (ninN ne_s0_fd nin0)
    have O_s1 := O_s1.keep KT1271 (ninN ne_s1_fd nin0)
    have A_b0 := A_b0.keep KT1271 (ninN ne_b0_fd nin0)
    have A_e0 := A_e0.keep KT1271 (ninN ne_e0_fd nin0)
    have A_b1 := A_b1.keep KT1271 (ninN ne_b1_fd nin0)
    have A_e1 := A_e1.keep KT1271 (ninN ne_e1_fd nin0)
    have hz1272 : Lo n0 h1268.size := Lo.keep hz1251 KT1271
    have KK1273 := KK1252.trans KT1271 (allS (Or.inl (List.mem_of_getElem? (i := 1) rfl)) all0)
    have A_fd : Ar Z h1268 fd .long wn (fun j_ => .long ((own_nb wn lw gm) j_)) := A_fd.congr (fun j _ => by rw [own_tk0])
    show Go p e below RS T1266 (mkF m 61 #[.val (.ref a1), .val (.int (0 : Int32)), .val (.long p3), .second, .val (.int (0 : Int32)), .val (.int (1 : Int32)), .val (.int (1 : Int32)), .val (.ref s1)] [])
    refine g_aload X1267 C d24_61 rfl rfl rfl ?_
    refine g_getO (i := 3) X1267 C O_s1 rfl rfl (host := "") (Or.inl (hw _ (List.mem_of_getElem? (i := 117) rfl))) d24_63 rfl (fun T1274 X1275 => ?_)
    refine g_nullY X1275 C d24_66 (by decide) (pT := 82) (by decide) ?_
    refine g_iload X1275 C d24_82 rfl rfl ?_
    refine g_if_le (a := 0) X1275 C d24_84 (by decide) (by decide) (pT := 100) (by decide) (pF := 87) rfl (fun hc84_1276 => ?_) (fun hc84_1276 => absurd hc84_1276 (by omega))
    refine g_iconst (v := 1) X1275 C d24_100 (by decide) rfl ?_
    refine g_goto (pc' := 105) X1275 C d24_101 (by decide) (by decide) ?_
    refine g_istore (L' := #[.val (.ref a1), .val (.int (0 : Int32)), .val (.long p3), .second, .val (.int (0 : Int32)), .val (.int (1 : Int32)), .val (.int (1 : Int32)), .val (.ref s1)]) X1275 C d24_105 rfl rfl rfl ?_
    refine g_aloadN X1275 C d24_107 rfl rfl rfl ?_
    refine g_iload X1275 C d24_108 rfl rfl ?_
    refine g_putO (i := 16) (vs' := [(.ref tm), (.ref sr), (.ref ub), (.long (-9223372036854775808 : Int64)), (.long (1 : Int64)), (.long (9223372036854775807 : Int64)), (.long (-9223372036854775808 : Int64)), (.int nn), (.int wv), (.long lw), (.ref fd), (.ref c5), (.ref c6), (.ref c7), (.ref c8), (.int (2 : Int32)), (.int (1 : Int32))]) X1275 C O_a1 (CF_CT hw) rfl rfl rfl ga_a1 (host := "") (Or.inl (hw _ (List.mem_of_getElem? (i := 134) rfl))) (Or.inl (hw _ (List.mem_of_getElem? (i := 135) rfl))) (ty := .int) (by decide) rfl rfl d24_110 rfl (fun T1277 h1279 X1278 O_a1 K1280 => ?_)
    have A_tm := A_tm.keep K1280 (ninN ne_tm_a1 nin0)
    have A_sr := A_sr.keep K1280 (ninN ne_sr_a1 nin0)
    have A_ub := A_ub.keep K1280 (ninN ne_ub_a1 nin0)
    have O_s0 := O_s0.keep K1280 (ninN ne_s0_a1 nin0)
    have O_s1 := O_s1.keep K1280 (ninN ne_s1_a1 nin0)
    have A_b0 := A_b0.keep K1280 (ninN ne_b0_a1 nin0)
    have A_e0 := A_e0.keep K1280 (ninN ne_e0_a1 nin0)
    have A_b1 := A_b1.keep K1280 (ninN ne_b1_a1 nin0)
    have A_e1 := A_e1.keep K1280 (ninN ne_e1_a1 nin0)
    have A_fd := A_fd.keep K1280 (ninN (NE.symm ne_a1_fd) nin0)
    have hz1281 : Lo n0 h1279.size := Lo.keep hz1272 K1280
    have KK1282 := KK1273.trans K1280 (allS (Or.inl (List.mem_of_getElem? (i := 0) rfl)) all0)
    refine g_iinc (v' := (2 : Int32)) (L' := #[.val (.ref a1), .val (.int (0 : Int32)), .val (.long p3), .second, .val (.int (0 : Int32)), .val (.int (1 : Int32)), .val (.int (2 : Int32)), .val (.ref s1)]) X1278 C d24_113 rfl (by decide) rfl rfl ?_
    refine g_goto (pc' := 13) X1278 C d24_116 (by decide) (by decide) ?_
    refine g_iload X1278 C d24_13 rfl rfl ?_
    refine g_aloadN X1278 C d24_15 rfl rfl rfl ?_
    refine g_getO (i := 15) X1278 C O_a1 rfl rfl (host := "") (Or.inl (hw _ (List.mem_of_getElem? (i := 74) rfl))) d24_16 rfl (fun T1283 X1284 => ?_)
    refine g_icmp_ge (a := 2) (b := 2) X1284 C d24_19 (by decide) (by decide) (by decide) (pT := 119) (by decide) (pF := 22) rfl (fun hc19_1285 => ?_) (fun hc19_1285 => absurd hc19_1285 (by omega))
    refine g_iload X1284 C d24_119 rfl rfl ?_
    rw [hRS]
    refine g_retZ X1284 C d24_121 ?_ (by decide) (by decide)
    refine ⟨⟨_, rfl⟩, KK1282, _, _, O_a1, A_fd, ?_⟩
    exact Or.inl ⟨trivial, fun _ _ => rfl⟩
theorem ef_rmFU1 (m : MethodId) (a1 : Addr) (p3 : Int64) : entryFrame m #[(.ref a1), (.int (1 : Int32)), (.long p3), (.int (0 : Int32))] 8 = mkF m 0 #[.val (.ref a1), .val (.int (1 : Int32)), .val (.long p3), .second, .val (.int (0 : Int32)), .unset, .unset, .unset] [] := by first | (simp [entryFrame, mkF, argsToLocals, Value.category]; done) | rfl
set_option maxRecDepth 65536 in
set_option maxHeartbeats 40000000 in
theorem rmFU1 (l : Launch) (Z : State) (a0 : Array Value) (hw : ∀ d ∈ tables_1, d.before a0 Z = true) (a1 : Addr) (p3 : Int64) (tm sr ub fd c5 c6 c7 c8 : Addr) (nn wv : Int32) (lw : Int64) (bl : Int32) (wn : Nat) (gt gm gf : Nat → Int64) (fn : Nat → Value) (gu : Nat → Int32) (s0 s1 b0 b1 e0 e1 : Addr) (h0 : Heap) (n0 : Nat) (hz0 : Lo n0 h0.size) (hwn : own_W wn wv) (hgt0 : (gt 0).toInt = 0) (hgt1 : (gt 1).toInt = 10) (hfn0 : fn 0 = .ref s0) (hfn1 : fn 1 = .ref s1) (hnn : 0 ≤ nn.toInt) (hgu : ∀ k, k < 2 → 0 ≤ (gu k).toInt) (ga_a1 : Lo n0 a1) (ga_fd : Lo n0 fd) (ne_a1_fd : NE a1 fd) (ne_tm_fd : NE tm fd) (ne_sr_fd : NE sr fd) (ne_ub_fd : NE ub fd) (ne_s0_fd : NE s0 fd) (ne_s1_fd : NE s1 fd) (ne_b0_fd : NE b0 fd) (ne_b1_fd : NE b1 fd) (ne_e0_fd : NE e0 fd) (ne_e1_fd : NE e1 fd) (ne_tm_a1 : NE tm a1) (ne_sr_a1 : NE sr a1) (ne_ub_a1 : NE ub a1) (ne_s0_a1 : NE s0 a1) (ne_s1_a1 : NE s1 a1) (ne_b0_a1 : NE b0 a1) (ne_b1_a1 : NE b1 a1) (ne_e0_a1 : NE e0 a1) (ne_e1_a1 : NE e1 a1) (O_a1 : Ob Z h0 a1 "org/foreslot/planning/ClusterTimeline" NS_CT [(.ref tm), (.ref sr), (.ref ub), (.long (-9223372036854775808 : Int64)), (.long (1 : Int64)), (.long (9223372036854775807 : Int64)), (.long (-9223372036854775808 : Int64)), (.int nn), (.int wv), (.long lw), (.ref fd), (.ref c5), (.ref c6), (.ref c7), (.ref c8), (.int (2 : Int32)), (.int bl)]) (A_tm : Ar Z h0 tm .long 16 (fun j_ => .long (gt j_))) (A_sr : ArR Z h0 sr "org/foreslot/planning/ClusterTimeline$Stretch" 16 fn) (A_ub : Ar Z h0 ub .int 16 (fun k => .int (gu k))) (O_s0 : Ob Z h0 s0 "org/foreslot/planning/ClusterTimeline$Stretch" NS_SR [(.ref b0), (.ref e0), .null, .null, .null]) (O_s1 : Ob Z h0 s1 "org/foreslot/planning/ClusterTimeline$Stretch" NS_SR [(.ref b1), (.ref e1), .null, .null, .null]) (A_b0 : Ar Z h0 b0 .long wn (fun j_ => .long (gm j_))) (A_e0 : Ar Z h0 e0 .long wn (fun j_ => .long ((fun _ => 0) j_))) (A_b1 : Ar Z h0 b1 .long wn (fun j_ => .long ((fun _ => 0) j_))) (A_e1 : Ar Z h0 e1 .long wn (fun j_ => .long (gm j_))) (A_fd : Ar Z h0 fd .long wn (fun j_ => .long (gf j_))) (ws : List Jvm.Cond) :
    Ctr l (⟨"org/foreslot/planning/ClusterTimeline", "fitsUntil", "(IJI)Z"⟩ : MethodName) prog_29_method_23_code 8 (some .boolean) ({ frames := 2, cells := 0, slots := 0, locals := 40 } : Room) Z n0 #[(.ref a1), (.int (1 : Int32)), (.long p3), (.int (0 : Int32))] h0 (fun v h => (∃ r : Int32, v = some (.int r)) ∧ Keep h0 h [a1, fd] ∧ ∃ (bl' : Int32) (gf' : Nat → Int64), Ob Z h a1 "org/foreslot/planning/ClusterTimeline" NS_CT [(.ref tm), (.ref sr), (.ref ub), (.long (-9223372036854775808 : Int64)), (.long (1 : Int64)), (.long (9223372036854775807 : Int64)), (.long (-9223372036854775808 : Int64)), (.int nn), (.int wv), (.long lw), (.ref fd), (.ref c5), (.ref c6), (.ref c7), (.ref c8), (.int (2 : Int32)), (.int bl')] ∧ Ar Z h fd .long wn (fun j_ => .long (gf' j_)) ∧ own_fd wn lw gm gf' (False)) ws := by
  refine ctr_of (plainFor_of_name pn_1) ?_
  intro p e s m below meth c T0 X0 C
  refine go_cast (ef_rmFU1 m a1 p3) ?_
  obtain ⟨RS, hRS⟩ : ∃ RS, RS = Rs s below n0 (fun v h => (∃ r : Int32, v = some (.int r)) ∧ Keep h0 h [a1, fd] ∧ ∃ (bl' : Int32) (gf' : Nat → Int64), Ob Z h a1 "org/foreslot/planning/ClusterTimeline" NS_CT [(.ref tm), (.ref sr), (.ref ub), (.long (-9223372036854775808 : Int64)), (.long (1 : Int64)), (.long (9223372036854775807 : Int64)), (.long (-9223372036854775808 : Int64)), (.int nn), (.int wv), (.long lw), (.ref fd), (.ref c5), (.ref c6), (.ref c7), (.ref c8), (.int (2 : Int32)), (.int bl')] ∧ Ar Z h fd .long wn (fun j_ => .long (gf' j_)) ∧ own_fd wn lw gm gf' (False)) ({ frames := 2, cells := 0, slots := 0, locals := 40 } : Room).cells ({ frames := 2, cells := 0, slots := 0, locals := 40 } : Room).slots := ⟨_, rfl⟩
  suffices HG : Go p e below RS T0 (mkF m 0 #[.val (.ref a1), .val (.int (1 : Int32)), .val (.long p3), .second, .val (.int (0 : Int32)), .unset, .unset, .unset] []) by rw [hRS] at HG; exact HG
  show Go p e below RS T0 (mkF m 0 #[.val (.ref a1), .val (.int (1 : Int32)), .val (.long p3), .second, .val (.int (0 : Int32)), .unset, .unset, .unset] [])
  refine g_aloadN X0 C d24_0 rfl rfl rfl ?_
  refine g_iloadN X0 C d24_1 rfl rfl ?_
  refine g_private (argsL := [(.int (1 : Int32))]) (rest := []) (W := 0) (a := a1) X0 C (rmNBi l Z a0 hw a1 (1 : Int32) tm sr ub fd c5 c6 c7 c8 nn wv lw bl (2 : Int32) wn gf 1 fn s1 b1 e1 (fun _ => 0) h0 n0 hz0 (by decide) hwn ga_fd ne_a1_fd O_a1 A_fd (by decide) hfn1 ne_sr_fd ne_s1_fd ne_b1_fd A_sr O_s1 A_b1 []) O_a1.1 (hw _ (List.mem_of_getElem? (i := 140) rfl)) (hw _ (List.mem_of_getElem? (i := 141) rfl)) (hw _ (List.mem_of_getElem? (i := 142) rfl)) (hw _ (List.mem_of_getElem? (i := 1) rfl)) (hw _ (List.mem_of_getElem? (i := 2) rfl)) (hw _ (List.mem_of_getElem? (i := 143) rfl)) (by decide) pd_6 rfl rfl rfl rfl rfl (by decide) (by decide) (by decide) (by decide) d24_2 rfl (fun r1289 T1286 h1288 hQ1290 X1287 => ?_)
  obtain ⟨rfl, KNB, A_fd⟩ := hQ1290
  have O_a1 := O_a1.keep KNB (ninN ne_a1_fd nin0)
  have A_tm := A_tm.keep KNB (ninN ne_tm_fd nin0)
  have A_sr := A_sr.keep KNB (ninN ne_sr_fd nin0)
  have A_ub := A_ub.keep KNB (ninN ne_ub_fd nin0)
  have O_s0 := O_s0.keep KNB (ninN ne_s0_fd nin0)
  have O_s1 := O_s1.keep KNB (ninN ne_s1_fd nin0)
  have A_b0 := A_b0.keep KNB (ninN ne_b0_fd nin0)
  have A_e0 := A_e0.keep KNB (ninN ne_e0_fd nin0)
  have A_b1 := A_b1.keep KNB (ninN ne_b1_fd nin0)
  have A_e1 := A_e1.keep KNB (ninN ne_e1_fd nin0)
  have hz1291 : Lo n0 h1288.size := Lo.keep hz0 KNB
  have KK1292 := (Keep.refl h0 [a1, fd]).trans KNB (allS (Or.inl (List.mem_of_getElem? (i := 1) rfl)) all0)
  show Go p e below RS T1286 (mkF m 5 #[.val (.ref a1), .val (.int (1 : Int32)), .val (.long p3), .second, .val (.int (0 : Int32)), .unset, .unset, .unset] [])
  refine g_iconst (v := 1) X1287 C d24_5 (by decide) rfl ?_
  refine g_istore (L' := #[.val (.ref a1), .val (.int (1 : Int32)), .val (.long p3), .second, .val (.int (0 : Int32)), .val (.int (1 : Int32)), .unset, .unset]) X1287 C d24_6 rfl rfl rfl ?_
  refine g_iloadN X1287 C d24_8 rfl rfl ?_
  refine g_iconst (v := 1) X1287 C d24_9 (by decide) rfl ?_
  refine g_iadd X1287 C d24_10 rfl ?_
  rw [show ((1 : Int32) + (1 : Int32)) = (2 : Int32) by decide]
  refine g_istore (L' := #[.val (.ref a1), .val (.int (1 : Int32)), .val (.long p3), .second, .val (.int (0 : Int32)), .val (.int (1 : Int32)), .val (.int (2 : Int32)), .unset]) X1287 C d24_11 rfl rfl rfl ?_
  refine g_iload X1287 C d24_13 rfl rfl ?_
  refine g_aloadN X1287 C d24_15 rfl rfl rfl ?_
  refine g_getO (i := 15) X1287 C O_a1 rfl rfl (host := "") (Or.inl (hw _ (List.mem_of_getElem? (i := 74) rfl))) d24_16 rfl (fun T1293 X1294 => ?_)
  refine g_icmp_ge (a := 2) (b := 2) X1294 C d24_19 (by decide) (by decide) (by decide) (pT := 119) (by decide) (pF := 22) rfl (fun hc19_1295 => ?_) (fun hc19_1295 => absurd hc19_1295 (by omega))
  refine g_iload X1294 C d24_119 rfl rfl ?_
  rw [hRS]
  refine g_retZ X1294 C d24_121 ?_ (by decide) (by decide)
  refine ⟨⟨_, rfl⟩, KK1292, _, _, O_a1, A_fd, ?_⟩
  exact Or.inr ⟨not_false, fun _ _ => rfl⟩
theorem ef_rmFTm (m : MethodId) (a1 : Addr) (p3 : Int64) (p4 : Int64) : entryFrame m #[(.ref a1), (.int (-1 : Int32)), (.long p3), (.long p4), (.int (0 : Int32))] 7 = mkF m 0 #[.val (.ref a1), .val (.int (-1 : Int32)), .val (.long p3), .second, .val (.long p4), .second, .val (.int (0 : Int32))] [] := by first | (simp [entryFrame, mkF, argsToLocals, Value.category]; done) | rfl
set_option maxRecDepth 65536 in
set_option maxHeartbeats 40000000 in
theorem rmFTm (l : Launch) (Z : State) (a0 : Array Value) (hw : ∀ d ∈ tables_1, d.before a0 Z = true) (a1 : Addr) (p3 p4 : Int64) (tm sr ub fd c5 c6 c7 c8 : Addr) (nn wv : Int32) (lw : Int64) (bl : Int32) (wn : Nat) (gt gm gf : Nat → Int64) (fn : Nat → Value) (gu : Nat → Int32) (s0 s1 b0 b1 e0 e1 : Addr) (h0 : Heap) (n0 : Nat) (hz0 : Lo n0 h0.size) (hst : p3.toInt < 0) (hb3 : -8 ≤ p3.toInt ∧ p3.toInt ≤ 23) (hb4 : 0 ≤ p4.toInt ∧ p4.toInt ≤ 15) (hwn : own_W wn wv) (hgt0 : (gt 0).toInt = 0) (hgt1 : (gt 1).toInt = 10) (hfn0 : fn 0 = .ref s0) (hfn1 : fn 1 = .ref s1) (hnn : 0 ≤ nn.toInt) (hgu : ∀ k, k < 2 → 0 ≤ (gu k).toInt) (ga_a1 : Lo n0 a1) (ga_fd : Lo n0 fd) (ne_a1_fd : NE a1 fd) (ne_tm_fd : NE tm fd) (ne_sr_fd : NE sr fd) (ne_ub_fd : NE ub fd) (ne_s0_fd : NE s0 fd) (ne_s1_fd : NE s1 fd) (ne_b0_fd : NE b0 fd) (ne_b1_fd : NE b1 fd) (ne_e0_fd : NE e0 fd) (ne_e1_fd : NE e1 fd) (ne_tm_a1 : NE tm a1) (ne_sr_a1 : NE sr a1) (ne_ub_a1 : NE ub a1) (ne_s0_a1 : NE s0 a1) (ne_s1_a1 : NE s1 a1) (ne_b0_a1 : NE b0 a1) (ne_b1_a1 : NE b1 a1) (ne_e0_a1 : NE e0 a1) (ne_e1_a1 : NE e1 a1) (O_a1 : Ob Z h0 a1 "org/foreslot/planning/ClusterTimeline" NS_CT [(.ref tm), (.ref sr), (.ref ub), (.long (-9223372036854775808 : Int64)), (.long (1 : Int64)), (.long (9223372036854775807 : Int64)), (.long (-9223372036854775808 : Int64)), (.int nn), (.int wv), (.long lw), (.ref fd), (.ref c5), (.ref c6), (.ref c7), (.ref c8), (.int (2 : Int32)), (.int bl)]) (A_tm : Ar Z h0 tm .long 16 (fun j_ => .long (gt j_))) (A_sr : ArR Z h0 sr "org/foreslot/planning/ClusterTimeline$Stretch" 16 fn) (A_ub : Ar Z h0 ub .int 16 (fun k => .int (gu k))) (O_s0 : Ob Z h0 s0 "org/foreslot/planning/ClusterTimeline$Stretch" NS_SR [(.ref b0), (.ref e0), .null, .null, .null]) (O_s1 : Ob Z h0 s1 "org/foreslot/planning/ClusterTimeline$Stretch" NS_SR [(.ref b1), (.ref e1), .null, .null, .null]) (A_b0 : Ar Z h0 b0 .long wn (fun j_ => .long (gm j_))) (A_e0 : Ar Z h0 e0 .long wn (fun j_ => .long ((fun _ => 0) j_))) (A_b1 : Ar Z h0 b1 .long wn (fun j_ => .long ((fun _ => 0) j_))) (A_e1 : Ar Z h0 e1 .long wn (fun j_ => .long (gm j_))) (A_fd : Ar Z h0 fd .long wn (fun j_ => .long (gf j_))) (ws : List Jvm.Cond) :
    Ctr l (⟨"org/foreslot/planning/ClusterTimeline", "fits", "(IJJI)Z"⟩ : MethodName) prog_29_method_20_code 7 (some .boolean) ({ frames := 3, cells := 0, slots := 0, locals := 66 } : Room) Z n0 #[(.ref a1), (.int (-1 : Int32)), (.long p3), (.long p4), (.int (0 : Int32))] h0 (fun v h => (∃ r : Int32, v = some (.int r)) ∧ Keep h0 h [a1, fd] ∧ ∃ (bl' : Int32) (gf' : Nat → Int64), Ob Z h a1 "org/foreslot/planning/ClusterTimeline" NS_CT [(.ref tm), (.ref sr), (.ref ub), (.long (-9223372036854775808 : Int64)), (.long (1 : Int64)), (.long (9223372036854775807 : Int64)), (.long (-9223372036854775808 : Int64)), (.int nn), (.int wv), (.long lw), (.ref fd), (.ref c5), (.ref c6), (.ref c7), (.ref c8), (.int (2 : Int32)), (.int bl')] ∧ Ar Z h fd .long wn (fun j_ => .long (gf' j_)) ∧ own_fd wn lw gm gf' (own_ov p3.toInt p4.toInt)) ws := by
  refine ctr_of (plainFor_of_name pn_1) ?_
  intro p e s m below meth c T0 X0 C
  refine go_cast (ef_rmFTm m a1 p3 p4) ?_
  obtain ⟨RS, hRS⟩ : ∃ RS, RS = Rs s below n0 (fun v h => (∃ r : Int32, v = some (.int r)) ∧ Keep h0 h [a1, fd] ∧ ∃ (bl' : Int32) (gf' : Nat → Int64), Ob Z h a1 "org/foreslot/planning/ClusterTimeline" NS_CT [(.ref tm), (.ref sr), (.ref ub), (.long (-9223372036854775808 : Int64)), (.long (1 : Int64)), (.long (9223372036854775807 : Int64)), (.long (-9223372036854775808 : Int64)), (.int nn), (.int wv), (.long lw), (.ref fd), (.ref c5), (.ref c6), (.ref c7), (.ref c8), (.int (2 : Int32)), (.int bl')] ∧ Ar Z h fd .long wn (fun j_ => .long (gf' j_)) ∧ own_fd wn lw gm gf' (own_ov p3.toInt p4.toInt)) ({ frames := 3, cells := 0, slots := 0, locals := 66 } : Room).cells ({ frames := 3, cells := 0, slots := 0, locals := 66 } : Room).slots := ⟨_, rfl⟩
  suffices HG : Go p e below RS T0 (mkF m 0 #[.val (.ref a1), .val (.int (-1 : Int32)), .val (.long p3), .second, .val (.long p4), .second, .val (.int (0 : Int32))] []) by rw [hRS] at HG; exact HG
  show Go p e below RS T0 (mkF m 0 #[.val (.ref a1), .val (.int (-1 : Int32)), .val (.long p3), .second, .val (.long p4), .second, .val (.int (0 : Int32))] [])
  refine g_aloadN X0 C d15_0 rfl rfl rfl ?_
  refine g_iloadN X0 C d15_1 rfl rfl ?_
  refine g_putO (i := 16) (vs' := [(.ref tm), (.ref sr), (.ref ub), (.long (-9223372036854775808 : Int64)), (.long (1 : Int64)), (.long (9223372036854775807 : Int64)), (.long (-9223372036854775808 : Int64)), (.int nn), (.int wv), (.long lw), (.ref fd), (.ref c5), (.ref c6), (.ref c7), (.ref c8), (.int (2 : Int32)), (.int (-1 : Int32))]) X0 C O_a1 (CF_CT hw) rfl rfl rfl ga_a1 (host := "") (Or.inl (hw _ (List.mem_of_getElem? (i := 134) rfl))) (Or.inl (hw _ (List.mem_of_getElem? (i := 135) rfl))) (ty := .int) (by decide) rfl rfl d15_2 rfl (fun T1296 h1298 X1297 O_a1 K1299 => ?_)
  have A_tm := A_tm.keep K1299 (ninN ne_tm_a1 nin0)
  have A_sr := A_sr.keep K1299 (ninN ne_sr_a1 nin0)
  have A_ub := A_ub.keep K1299 (ninN ne_ub_a1 nin0)
  have O_s0 := O_s0.keep K1299 (ninN ne_s0_a1 nin0)
  have O_s1 := O_s1.keep K1299 (ninN ne_s1_a1 nin0)
  have A_b0 := A_b0.keep K1299 (ninN ne_b0_a1 nin0)
  have A_e0 := A_e0.keep K1299 (ninN ne_e0_a1 nin0)
  have A_b1 := A_b1.keep K1299 (ninN ne_b1_a1 nin0)
  have A_e1 := A_e1.keep K1299 (ninN ne_e1_a1 nin0)
  have A_fd := A_fd.keep K1299 (ninN (NE.symm ne_a1_fd) nin0)
  have hz1300 : Lo n0 h1298.size := Lo.keep hz0 K1299
  have KK1301 := (Keep.refl h0 [a1, fd]).trans K1299 (allS (Or.inl (List.mem_of_getElem? (i := 0) rfl)) all0)
  refine g_lload X1297 C d15_5 rfl rfl ?_
  refine g_lconst (v := 0) X1297 C d15_7 (by decide) rfl ?_
  refine g_lcmp X1297 C d15_8 rfl ?_
  refine g_lif_le (a := p4.toInt) (b := 0) X1297 C d15_9 rfl (by decide) (by decide) (pT := 44) (by decide) (pF := 12) rfl (fun hc9 => ?_) (fun hc9 => ?_)
  ·
    refine g_aloadN X1297 C d15_44 rfl rfl rfl ?_
    refine g_iloadN X1297 C d15_45 rfl rfl ?_
    refine g_lloadN X1297 C d15_46 rfl rfl ?_
    refine g_iload X1297 C d15_47 rfl rfl ?_
    refine g_private (argsL := [(.int (-1 : Int32)), (.long p3), (.int (0 : Int32))]) (rest := []) (W := 0) (a := a1) X1297 C (rmFAm l Z a0 hw a1 p3 tm sr ub fd c5 c6 c7 c8 nn wv lw (-1 : Int32) wn gt gm gf fn gu s0 s1 b0 b1 e0 e1 h1298 n0 hz1300 hst hwn hgt0 hgt1 hfn0 hfn1 hnn hgu ga_a1 ga_fd ne_a1_fd ne_tm_fd ne_sr_fd ne_ub_fd ne_s0_fd ne_s1_fd ne_b0_fd ne_b1_fd ne_e0_fd ne_e1_fd ne_tm_a1 ne_sr_a1 ne_ub_a1 ne_s0_a1 ne_s1_a1 ne_b0_a1 ne_b1_a1 ne_e0_a1 ne_e1_a1 O_a1 A_tm A_sr A_ub O_s0 O_s1 A_b0 A_e0 A_b1 A_e1 A_fd []) O_a1.1 (hw _ (List.mem_of_getElem? (i := 136) rfl)) (hw _ (List.mem_of_getElem? (i := 137) rfl)) (hw _ (List.mem_of_getElem? (i := 138) rfl)) (hw _ (List.mem_of_getElem? (i := 1) rfl)) (hw _ (List.mem_of_getElem? (i := 2) rfl)) (hw _ (List.mem_of_getElem? (i := 139) rfl)) (by decide) pd_11 rfl rfl rfl rfl rfl (by decide) (by decide) (by decide) (by decide) d15_49 rfl (fun r1305 T1302 h1304 hQ1306 X1303 => ?_)
    obtain ⟨⟨rf, rfl⟩, KX, gf', A_fd, HF⟩ := hQ1306
    have O_a1 := O_a1.keep KX (ninN ne_a1_fd nin0)
    have hz1307 : Lo n0 h1304.size := Lo.keep hz1300 KX
    have KK1308 := KK1301.trans KX (allS (Or.inl (List.mem_of_getElem? (i := 1) rfl)) all0)
    show Go p e below RS T1302 (mkF m 52 #[.val (.ref a1), .val (.int (-1 : Int32)), .val (.long p3), .second, .val (.long p4), .second, .val (.int (0 : Int32))] [(.int rf)])
    rw [hRS]
    refine g_retZ X1303 C d15_52 ?_ (by decide) (by decide)
    refine ⟨⟨_, rfl⟩, KK1308, _, _, O_a1, A_fd, HF.iff ?_⟩
    simp only [own_ov]; omega
  ·
    refine g_aloadN X1297 C d15_12 rfl rfl rfl ?_
    refine g_iloadN X1297 C d15_13 rfl rfl ?_
    refine g_private (argsL := [(.int (-1 : Int32))]) (rest := []) (W := 0) (a := a1) X1297 C (rmUA l Z a0 hw a1 (-1 : Int32) tm sr ub fd c5 c6 c7 c8 nn wv lw (-1 : Int32) (2 : Int32) gu h1298 n0 hz1300 hnn hgu (by decide) O_a1 A_ub []) O_a1.1 (hw _ (List.mem_of_getElem? (i := 170) rfl)) (hw _ (List.mem_of_getElem? (i := 171) rfl)) (hw _ (List.mem_of_getElem? (i := 172) rfl)) (hw _ (List.mem_of_getElem? (i := 1) rfl)) (hw _ (List.mem_of_getElem? (i := 2) rfl)) (hw _ (List.mem_of_getElem? (i := 173) rfl)) (by decide) pd_12 rfl rfl rfl rfl rfl (by decide) (by decide) (by decide) (by decide) d15_14 rfl (fun r1312 T1309 h1311 hQ1313 X1310 => ?_)
    obtain ⟨ru, rfl, hh, hru⟩ := hQ1313; rw [hh] at X1310
    show Go p e below RS T1309 (mkF m 17 #[.val (.ref a1), .val (.int (-1 : Int32)), .val (.long p3), .second, .val (.long p4), .second, .val (.int (0 : Int32))] [(.int ru)])
    refine g_iload X1310 C d15_17 rfl rfl ?_
    refine g_icmp_lt (a := ru.toInt) (b := 0) X1310 C d15_19 rfl (by decide) (by decide) (pT := 40) (by decide) (pF := 22) rfl (fun hc19 => absurd hc19 (by omega)) (fun hc19 => ?_)
    refine g_aloadN X1310 C d15_22 rfl rfl rfl ?_
    refine g_iloadN X1310 C d15_23 rfl rfl ?_
    refine g_lloadN X1310 C d15_24 rfl rfl ?_
    refine g_lload X1310 C d15_25 rfl rfl ?_
    refine g_ladd X1310 C d15_27 rfl ?_
    refine g_iload X1310 C d15_28 rfl rfl ?_
    have hsum : (p3 + p4).toInt = p3.toInt + p4.toInt := by
      have g1 := c_ladd p3 p4; have g2 := rng64 (p3 + p4); omega
    refine g_private (argsL := [(.int (-1 : Int32)), (.long (p3 + p4)), (.int (0 : Int32))]) (rest := []) (W := 0) (a := a1) X1310 C (rmFUm l Z a0 hw a1 (p3 + p4) tm sr ub fd c5 c6 c7 c8 nn wv lw (-1 : Int32) wn gt gm gf fn gu s0 s1 b0 b1 e0 e1 h1298 n0 hz1300 hwn hgt0 hgt1 hfn0 hfn1 hnn hgu ga_a1 ga_fd ne_a1_fd ne_tm_fd ne_sr_fd ne_ub_fd ne_s0_fd ne_s1_fd ne_b0_fd ne_b1_fd ne_e0_fd ne_e1_fd ne_tm_a1 ne_sr_a1 ne_ub_a1 ne_s0_a1 ne_s1_a1 ne_b0_a1 ne_b1_a1 ne_e0_a1 ne_e1_a1 O_a1 A_tm A_sr A_ub O_s0 O_s1 A_b0 A_e0 A_b1 A_e1 A_fd []) O_a1.1 (hw _ (List.mem_of_getElem? (i := 174) rfl)) (hw _ (List.mem_of_getElem? (i := 175) rfl)) (hw _ (List.mem_of_getElem? (i := 176) rfl)) (hw _ (List.mem_of_getElem? (i := 1) rfl)) (hw _ (List.mem_of_getElem? (i := 2) rfl)) (hw _ (List.mem_of_getElem? (i := 177) rfl)) (by decide) pd_11 rfl rfl rfl rfl rfl (by decide) (by decide) (by decide) (by decide) d15_30 rfl (fun r1317 T1314 h1316 hQ1318 X1315 => ?_)
    obtain ⟨⟨rf, rfl⟩, KX, bl', gf', O_a1, A_fd, HF⟩ := hQ1318
    have hz1319 : Lo n0 h1316.size := Lo.keep hz1300 KX
    have KK1320 := KK1301.trans KX (allS (Or.inl (List.mem_of_getElem? (i := 0) rfl)) (allS (Or.inl (List.mem_of_getElem? (i := 1) rfl)) all0))
    show Go p e below RS T1314 (mkF m 33 #[.val (.ref a1), .val (.int (-1 : Int32)), .val (.long p3), .second, .val (.long p4), .second, .val (.int (0 : Int32))] [(.int rf)])
    refine g_if_eq (a := rf.toInt) X1315 C d15_33 rfl (by decide) (pT := 40) (by decide) (pF := 36) rfl (fun hc33 => ?_) (fun hc33 => ?_)
    ·
      refine g_iconst (v := 0) X1315 C d15_40 (by decide) rfl ?_
      refine g_goto (pc' := 52) X1315 C d15_41 (by decide) (by decide) ?_
      rw [hRS]
      refine g_retZ X1315 C d15_52 ?_ (by decide) (by decide)
      refine ⟨⟨_, rfl⟩, KK1320, _, _, O_a1, A_fd, HF.iff ?_⟩
      simp only [own_ov]; rw [hsum]; omega
    ·
      refine g_iconst (v := 1) X1315 C d15_36 (by decide) rfl ?_
      refine g_goto (pc' := 52) X1315 C d15_37 (by decide) (by decide) ?_
      rw [hRS]
      refine g_retZ X1315 C d15_52 ?_ (by decide) (by decide)
      refine ⟨⟨_, rfl⟩, KK1320, _, _, O_a1, A_fd, HF.iff ?_⟩
      simp only [own_ov]; rw [hsum]; omega
theorem ef_rmFT0 (m : MethodId) (a1 : Addr) (p3 : Int64) (p4 : Int64) : entryFrame m #[(.ref a1), (.int (0 : Int32)), (.long p3), (.long p4), (.int (0 : Int32))] 7 = mkF m 0 #[.val (.ref a1), .val (.int (0 : Int32)), .val (.long p3), .second, .val (.long p4), .second, .val (.int (0 : Int32))] [] := by first | (simp [entryFrame, mkF, argsToLocals, Value.category]; done) | rfl
set_option maxRecDepth 65536 in
set_option maxHeartbeats 40000000 in
theorem rmFT0 (l : Launch) (Z : State) (a0 : Array Value) (hw : ∀ d ∈ tables_1, d.before a0 Z = true) (a1 : Addr) (p3 p4 : Int64) (tm sr ub fd c5 c6 c7 c8 : Addr) (nn wv : Int32) (lw : Int64) (bl : Int32) (wn : Nat) (gt gm gf : Nat → Int64) (fn : Nat → Value) (gu : Nat → Int32) (s0 s1 b0 b1 e0 e1 : Addr) (h0 : Heap) (n0 : Nat) (hz0 : Lo n0 h0.size) (hst : 0 ≤ p3.toInt ∧ p3.toInt < 10) (hb3 : -8 ≤ p3.toInt ∧ p3.toInt ≤ 23) (hb4 : 0 ≤ p4.toInt ∧ p4.toInt ≤ 15) (hwn : own_W wn wv) (hgt0 : (gt 0).toInt = 0) (hgt1 : (gt 1).toInt = 10) (hfn0 : fn 0 = .ref s0) (hfn1 : fn 1 = .ref s1) (hnn : 0 ≤ nn.toInt) (hgu : ∀ k, k < 2 → 0 ≤ (gu k).toInt) (ga_a1 : Lo n0 a1) (ga_fd : Lo n0 fd) (ne_a1_fd : NE a1 fd) (ne_tm_fd : NE tm fd) (ne_sr_fd : NE sr fd) (ne_ub_fd : NE ub fd) (ne_s0_fd : NE s0 fd) (ne_s1_fd : NE s1 fd) (ne_b0_fd : NE b0 fd) (ne_b1_fd : NE b1 fd) (ne_e0_fd : NE e0 fd) (ne_e1_fd : NE e1 fd) (ne_tm_a1 : NE tm a1) (ne_sr_a1 : NE sr a1) (ne_ub_a1 : NE ub a1) (ne_s0_a1 : NE s0 a1) (ne_s1_a1 : NE s1 a1) (ne_b0_a1 : NE b0 a1) (ne_b1_a1 : NE b1 a1) (ne_e0_a1 : NE e0 a1) (ne_e1_a1 : NE e1 a1) (O_a1 : Ob Z h0 a1 "org/foreslot/planning/ClusterTimeline" NS_CT [(.ref tm), (.ref sr), (.ref ub), (.long (-9223372036854775808 : Int64)), (.long (1 : Int64)), (.long (9223372036854775807 : Int64)), (.long (-9223372036854775808 : Int64)), (.int nn), (.int wv), (.long lw), (.ref fd), (.ref c5), (.ref c6), (.ref c7), (.ref c8), (.int (2 : Int32)), (.int bl)]) (A_tm : Ar Z h0 tm .long 16 (fun j_ => .long (gt j_))) (A_sr : ArR Z h0 sr "org/foreslot/planning/ClusterTimeline$Stretch" 16 fn) (A_ub : Ar Z h0 ub .int 16 (fun k => .int (gu k))) (O_s0 : Ob Z h0 s0 "org/foreslot/planning/ClusterTimeline$Stretch" NS_SR [(.ref b0), (.ref e0), .null, .null, .null]) (O_s1 : Ob Z h0 s1 "org/foreslot/planning/ClusterTimeline$Stretch" NS_SR [(.ref b1), (.ref e1), .null, .null, .null]) (A_b0 : Ar Z h0 b0 .long wn (fun j_ => .long (gm j_))) (A_e0 : Ar Z h0 e0 .long wn (fun j_ => .long ((fun _ => 0) j_))) (A_b1 : Ar Z h0 b1 .long wn (fun j_ => .long ((fun _ => 0) j_))) (A_e1 : Ar Z h0 e1 .long wn (fun j_ => .long (gm j_))) (A_fd : Ar Z h0 fd .long wn (fun j_ => .long (gf j_))) (ws : List Jvm.Cond) :
    Ctr l (⟨"org/foreslot/planning/ClusterTimeline", "fits", "(IJJI)Z"⟩ : MethodName) prog_29_method_20_code 7 (some .boolean) ({ frames := 3, cells := 0, slots := 0, locals := 66 } : Room) Z n0 #[(.ref a1), (.int (0 : Int32)), (.long p3), (.long p4), (.int (0 : Int32))] h0 (fun v h => (∃ r : Int32, v = some (.int r)) ∧ Keep h0 h [a1, fd] ∧ ∃ (bl' : Int32) (gf' : Nat → Int64), Ob Z h a1 "org/foreslot/planning/ClusterTimeline" NS_CT [(.ref tm), (.ref sr), (.ref ub), (.long (-9223372036854775808 : Int64)), (.long (1 : Int64)), (.long (9223372036854775807 : Int64)), (.long (-9223372036854775808 : Int64)), (.int nn), (.int wv), (.long lw), (.ref fd), (.ref c5), (.ref c6), (.ref c7), (.ref c8), (.int (2 : Int32)), (.int bl')] ∧ Ar Z h fd .long wn (fun j_ => .long (gf' j_)) ∧ own_fd wn lw gm gf' (own_ov p3.toInt p4.toInt)) ws := by
  refine ctr_of (plainFor_of_name pn_1) ?_
  intro p e s m below meth c T0 X0 C
  refine go_cast (ef_rmFT0 m a1 p3 p4) ?_
  obtain ⟨RS, hRS⟩ : ∃ RS, RS = Rs s below n0 (fun v h => (∃ r : Int32, v = some (.int r)) ∧ Keep h0 h [a1, fd] ∧ ∃ (bl' : Int32) (gf' : Nat → Int64), Ob Z h a1 "org/foreslot/planning/ClusterTimeline" NS_CT [(.ref tm), (.ref sr), (.ref ub), (.long (-9223372036854775808 : Int64)), (.long (1 : Int64)), (.long (9223372036854775807 : Int64)), (.long (-9223372036854775808 : Int64)), (.int nn), (.int wv), (.long lw), (.ref fd), (.ref c5), (.ref c6), (.ref c7), (.ref c8), (.int (2 : Int32)), (.int bl')] ∧ Ar Z h fd .long wn (fun j_ => .long (gf' j_)) ∧ own_fd wn lw gm gf' (own_ov p3.toInt p4.toInt)) ({ frames := 3, cells := 0, slots := 0, locals := 66 } : Room).cells ({ frames := 3, cells := 0, slots := 0, locals := 66 } : Room).slots := ⟨_, rfl⟩
  suffices HG : Go p e below RS T0 (mkF m 0 #[.val (.ref a1), .val (.int (0 : Int32)), .val (.long p3), .second, .val (.long p4), .second, .val (.int (0 : Int32))] []) by rw [hRS] at HG; exact HG
  show Go p e below RS T0 (mkF m 0 #[.val (.ref a1), .val (.int (0 : Int32)), .val (.long p3), .second, .val (.long p4), .second, .val (.int (0 : Int32))] [])
  refine g_aloadN X0 C d15_0 rfl rfl rfl ?_
  refine g_iloadN X0 C d15_1 rfl rfl ?_
  refine g_putO (i := 16) (vs' := [(.ref tm), (.ref sr), (.ref ub), (.long (-9223372036854775808 : Int64)), (.long (1 : Int64)), (.long (9223372036854775807 : Int64)), (.long (-9223372036854775808 : Int64)), (.int nn), (.int wv), (.long lw), (.ref fd), (.ref c5), (.ref c6), (.ref c7), (.ref c8), (.int (2 : Int32)), (.int (0 : Int32))]) X0 C O_a1 (CF_CT hw) rfl rfl rfl ga_a1 (host := "") (Or.inl (hw _ (List.mem_of_getElem? (i := 134) rfl))) (Or.inl (hw _ (List.mem_of_getElem? (i := 135) rfl))) (ty := .int) (by decide) rfl rfl d15_2 rfl (fun T1321 h1323 X1322 O_a1 K1324 => ?_)
  have A_tm := A_tm.keep K1324 (ninN ne_tm_a1 nin0)
  have A_sr := A_sr.keep K1324 (ninN ne_sr_a1 nin0)
  have A_ub := A_ub.keep K1324 (ninN ne_ub_a1 nin0)
  have O_s0 := O_s0.keep K1324 (ninN ne_s0_a1 nin0)
  have O_s1 := O_s1.keep K1324 (ninN ne_s1_a1 nin0)
  have A_b0 := A_b0.keep K1324 (ninN ne_b0_a1 nin0)
  have A_e0 := A_e0.keep K1324 (ninN ne_e0_a1 nin0)
  have A_b1 := A_b1.keep K1324 (ninN ne_b1_a1 nin0)
  have A_e1 := A_e1.keep K1324 (ninN ne_e1_a1 nin0)
  have A_fd := A_fd.keep K1324 (ninN (NE.symm ne_a1_fd) nin0)
  have hz1325 : Lo n0 h1323.size := Lo.keep hz0 K1324
  have KK1326 := (Keep.refl h0 [a1, fd]).trans K1324 (allS (Or.inl (List.mem_of_getElem? (i := 0) rfl)) all0)
  refine g_lload X1322 C d15_5 rfl rfl ?_
  refine g_lconst (v := 0) X1322 C d15_7 (by decide) rfl ?_
  refine g_lcmp X1322 C d15_8 rfl ?_
  refine g_lif_le (a := p4.toInt) (b := 0) X1322 C d15_9 rfl (by decide) (by decide) (pT := 44) (by decide) (pF := 12) rfl (fun hc9 => ?_) (fun hc9 => ?_)
  ·
    refine g_aloadN X1322 C d15_44 rfl rfl rfl ?_
    refine g_iloadN X1322 C d15_45 rfl rfl ?_
    refine g_lloadN X1322 C d15_46 rfl rfl ?_
    refine g_iload X1322 C d15_47 rfl rfl ?_
    refine g_private (argsL := [(.int (0 : Int32)), (.long p3), (.int (0 : Int32))]) (rest := []) (W := 0) (a := a1) X1322 C (rmFA0 l Z a0 hw a1 p3 tm sr ub fd c5 c6 c7 c8 nn wv lw (0 : Int32) wn gt gm gf fn gu s0 s1 b0 b1 e0 e1 h1323 n0 hz1325 hst hwn hgt0 hgt1 hfn0 hfn1 hnn hgu ga_a1 ga_fd ne_a1_fd ne_tm_fd ne_sr_fd ne_ub_fd ne_s0_fd ne_s1_fd ne_b0_fd ne_b1_fd ne_e0_fd ne_e1_fd ne_tm_a1 ne_sr_a1 ne_ub_a1 ne_s0_a1 ne_s1_a1 ne_b0_a1 ne_b1_a1 ne_e0_a1 ne_e1_a1 O_a1 A_tm A_sr A_ub O_s0 O_s1 A_b0 A_e0 A_b1 A_e1 A_fd []) O_a1.1 (hw _ (List.mem_of_getElem? (i := 136) rfl)) (hw _ (List.mem_of_getElem? (i := 137) rfl)) (hw _ (List.mem_of_getElem? (i := 138) rfl)) (hw _ (List.mem_of_getElem? (i := 1) rfl)) (hw _ (List.mem_of_getElem? (i := 2) rfl)) (hw _ (List.mem_of_getElem? (i := 139) rfl)) (by decide) pd_11 rfl rfl rfl rfl rfl (by decide) (by decide) (by decide) (by decide) d15_49 rfl (fun r1330 T1327 h1329 hQ1331 X1328 => ?_)
    obtain ⟨⟨rf, rfl⟩, KX, gf', A_fd, HF⟩ := hQ1331
    have O_a1 := O_a1.keep KX (ninN ne_a1_fd nin0)
    have hz1332 : Lo n0 h1329.size := Lo.keep hz1325 KX
    have KK1333 := KK1326.trans KX (allS (Or.inl (List.mem_of_getElem? (i := 1) rfl)) all0)
    show Go p e below RS T1327 (mkF m 52 #[.val (.ref a1), .val (.int (0 : Int32)), .val (.long p3), .second, .val (.long p4), .second, .val (.int (0 : Int32))] [(.int rf)])
    rw [hRS]
    refine g_retZ X1328 C d15_52 ?_ (by decide) (by decide)
    refine ⟨⟨_, rfl⟩, KK1333, _, _, O_a1, A_fd, HF.iff ?_⟩
    simp only [own_ov]; omega
  ·
    refine g_aloadN X1322 C d15_12 rfl rfl rfl ?_
    refine g_iloadN X1322 C d15_13 rfl rfl ?_
    refine g_private (argsL := [(.int (0 : Int32))]) (rest := []) (W := 0) (a := a1) X1322 C (rmUA l Z a0 hw a1 (0 : Int32) tm sr ub fd c5 c6 c7 c8 nn wv lw (0 : Int32) (2 : Int32) gu h1323 n0 hz1325 hnn hgu (by decide) O_a1 A_ub []) O_a1.1 (hw _ (List.mem_of_getElem? (i := 170) rfl)) (hw _ (List.mem_of_getElem? (i := 171) rfl)) (hw _ (List.mem_of_getElem? (i := 172) rfl)) (hw _ (List.mem_of_getElem? (i := 1) rfl)) (hw _ (List.mem_of_getElem? (i := 2) rfl)) (hw _ (List.mem_of_getElem? (i := 173) rfl)) (by decide) pd_12 rfl rfl rfl rfl rfl (by decide) (by decide) (by decide) (by decide) d15_14 rfl (fun r1337 T1334 h1336 hQ1338 X1335 => ?_)
    obtain ⟨ru, rfl, hh, hru⟩ := hQ1338; rw [hh] at X1335
    show Go p e below RS T1334 (mkF m 17 #[.val (.ref a1), .val (.int (0 : Int32)), .val (.long p3), .second, .val (.long p4), .second, .val (.int (0 : Int32))] [(.int ru)])
    refine g_iload X1335 C d15_17 rfl rfl ?_
    refine g_icmp_lt (a := ru.toInt) (b := 0) X1335 C d15_19 rfl (by decide) (by decide) (pT := 40) (by decide) (pF := 22) rfl (fun hc19 => absurd hc19 (by omega)) (fun hc19 => ?_)
    refine g_aloadN X1335 C d15_22 rfl rfl rfl ?_
    refine g_iloadN X1335 C d15_23 rfl rfl ?_
    refine g_lloadN X1335 C d15_24 rfl rfl ?_
    refine g_lload X1335 C d15_25 rfl rfl ?_
    refine g_ladd X1335 C d15_27 rfl ?_
    refine g_iload X1335 C d15_28 rfl rfl ?_
    have hsum : (p3 + p4).toInt = p3.toInt + p4.toInt := by
      have g1 := c_ladd p3 p4; have g2 := rng64 (p3 + p4); omega
    refine g_private (argsL := [(.int (0 : Int32)), (.long (p3 + p4)), (.int (0 : Int32))]) (rest := []) (W := 0) (a := a1) X1335 C (rmFU0 l Z a0 hw a1 (p3 + p4) tm sr ub fd c5 c6 c7 c8 nn wv lw (0 : Int32) wn gt gm gf fn gu s0 s1 b0 b1 e0 e1 h1323 n0 hz1325 hwn hgt0 hgt1 hfn0 hfn1 hnn hgu ga_a1 ga_fd ne_a1_fd ne_tm_fd ne_sr_fd ne_ub_fd ne_s0_fd ne_s1_fd ne_b0_fd ne_b1_fd ne_e0_fd ne_e1_fd ne_tm_a1 ne_sr_a1 ne_ub_a1 ne_s0_a1 ne_s1_a1 ne_b0_a1 ne_b1_a1 ne_e0_a1 ne_e1_a1 O_a1 A_tm A_sr A_ub O_s0 O_s1 A_b0 A_e0 A_b1 A_e1 A_fd []) O_a1.1 (hw _ (List.mem_of_getElem? (i := 174) rfl)) (hw _ (List.mem_of_getElem? (i := 175) rfl)) (hw _ (List.mem_of_getElem? (i := 176) rfl)) (hw _ (List.mem_of_getElem? (i := 1) rfl)) (hw _ (List.mem_of_getElem? (i := 2) rfl)) (hw _ (List.mem_of_getElem? (i := 177) rfl)) (by decide) pd_11 rfl rfl rfl rfl rfl (by decide) (by decide) (by decide) (by decide) d15_30 rfl (fun r1342 T1339 h1341 hQ1343 X1340 => ?_)
    obtain ⟨⟨rf, rfl⟩, KX, bl', gf', O_a1, A_fd, HF⟩ := hQ1343
    have hz1344 : Lo n0 h1341.size := Lo.keep hz1325 KX
    have KK1345 := KK1326.trans KX (allS (Or.inl (List.mem_of_getElem? (i := 0) rfl)) (allS (Or.inl (List.mem_of_getElem? (i := 1) rfl)) all0))
    show Go p e below RS T1339 (mkF m 33 #[.val (.ref a1), .val (.int (0 : Int32)), .val (.long p3), .second, .val (.long p4), .second, .val (.int (0 : Int32))] [(.int rf)])
    refine g_if_eq (a := rf.toInt) X1340 C d15_33 rfl (by decide) (pT := 40) (by decide) (pF := 36) rfl (fun hc33 => ?_) (fun hc33 => ?_)
    ·
      refine g_iconst (v := 0) X1340 C d15_40 (by decide) rfl ?_
      refine g_goto (pc' := 52) X1340 C d15_41 (by decide) (by decide) ?_
      rw [hRS]
      refine g_retZ X1340 C d15_52 ?_ (by decide) (by decide)
      refine ⟨⟨_, rfl⟩, KK1345, _, _, O_a1, A_fd, HF.iff ?_⟩
      exact ⟨fun _ => by simp only [own_ov]; omega, fun _ => trivial⟩
    ·
      refine g_iconst (v := 1) X1340 C d15_36 (by decide) rfl ?_
      refine g_goto (pc' := 52) X1340 C d15_37 (by decide) (by decide) ?_
      rw [hRS]
      refine g_retZ X1340 C d15_52 ?_ (by decide) (by decide)
      refine ⟨⟨_, rfl⟩, KK1345, _, _, O_a1, A_fd, HF.iff ?_⟩
      exact ⟨fun _ => by simp only [own_ov]; omega, fun _ => trivial⟩
theorem ef_rmFT1 (m : MethodId) (a1 : Addr) (p3 : Int64) (p4 : Int64) : entryFrame m #[(.ref a1), (.int (1 : Int32)), (.long p3), (.long p4), (.int (0 : Int32))] 7 = mkF m 0 #[.val (.ref a1), .val (.int (1 : Int32)), .val (.long p3), .second, .val (.long p4), .second, .val (.int (0 : Int32))] [] := by first | (simp [entryFrame, mkF, argsToLocals, Value.category]; done) | rfl
set_option maxRecDepth 65536 in
set_option maxHeartbeats 40000000 in
theorem rmFT1 (l : Launch) (Z : State) (a0 : Array Value) (hw : ∀ d ∈ tables_1, d.before a0 Z = true) (a1 : Addr) (p3 p4 : Int64) (tm sr ub fd c5 c6 c7 c8 : Addr) (nn wv : Int32) (lw : Int64) (bl : Int32) (wn : Nat) (gt gm gf : Nat → Int64) (fn : Nat → Value) (gu : Nat → Int32) (s0 s1 b0 b1 e0 e1 : Addr) (h0 : Heap) (n0 : Nat) (hz0 : Lo n0 h0.size) (hst : 10 ≤ p3.toInt) (hb3 : -8 ≤ p3.toInt ∧ p3.toInt ≤ 23) (hb4 : 0 ≤ p4.toInt ∧ p4.toInt ≤ 15) (hwn : own_W wn wv) (hgt0 : (gt 0).toInt = 0) (hgt1 : (gt 1).toInt = 10) (hfn0 : fn 0 = .ref s0) (hfn1 : fn 1 = .ref s1) (hnn : 0 ≤ nn.toInt) (hgu : ∀ k, k < 2 → 0 ≤ (gu k).toInt) (ga_a1 : Lo n0 a1) (ga_fd : Lo n0 fd) (ne_a1_fd : NE a1 fd) (ne_tm_fd : NE tm fd) (ne_sr_fd : NE sr fd) (ne_ub_fd : NE ub fd) (ne_s0_fd : NE s0 fd) (ne_s1_fd : NE s1 fd) (ne_b0_fd : NE b0 fd) (ne_b1_fd : NE b1 fd) (ne_e0_fd : NE e0 fd) (ne_e1_fd : NE e1 fd) (ne_tm_a1 : NE tm a1) (ne_sr_a1 : NE sr a1) (ne_ub_a1 : NE ub a1) (ne_s0_a1 : NE s0 a1) (ne_s1_a1 : NE s1 a1) (ne_b0_a1 : NE b0 a1) (ne_b1_a1 : NE b1 a1) (ne_e0_a1 : NE e0 a1) (ne_e1_a1 : NE e1 a1) (O_a1 : Ob Z h0 a1 "org/foreslot/planning/ClusterTimeline" NS_CT [(.ref tm), (.ref sr), (.ref ub), (.long (-9223372036854775808 : Int64)), (.long (1 : Int64)), (.long (9223372036854775807 : Int64)), (.long (-9223372036854775808 : Int64)), (.int nn), (.int wv), (.long lw), (.ref fd), (.ref c5), (.ref c6), (.ref c7), (.ref c8), (.int (2 : Int32)), (.int bl)]) (A_tm : Ar Z h0 tm .long 16 (fun j_ => .long (gt j_))) (A_sr : ArR Z h0 sr "org/foreslot/planning/ClusterTimeline$Stretch" 16 fn) (A_ub : Ar Z h0 ub .int 16 (fun k => .int (gu k))) (O_s0 : Ob Z h0 s0 "org/foreslot/planning/ClusterTimeline$Stretch" NS_SR [(.ref b0), (.ref e0), .null, .null, .null]) (O_s1 : Ob Z h0 s1 "org/foreslot/planning/ClusterTimeline$Stretch" NS_SR [(.ref b1), (.ref e1), .null, .null, .null]) (A_b0 : Ar Z h0 b0 .long wn (fun j_ => .long (gm j_))) (A_e0 : Ar Z h0 e0 .long wn (fun j_ => .long ((fun _ => 0) j_))) (A_b1 : Ar Z h0 b1 .long wn (fun j_ => .long ((fun _ => 0) j_))) (A_e1 : Ar Z h0 e1 .long wn (fun j_ => .long (gm j_))) (A_fd : Ar Z h0 fd .long wn (fun j_ => .long (gf j_))) (ws : List Jvm.Cond) :
    Ctr l (⟨"org/foreslot/planning/ClusterTimeline", "fits", "(IJJI)Z"⟩ : MethodName) prog_29_method_20_code 7 (some .boolean) ({ frames := 3, cells := 0, slots := 0, locals := 66 } : Room) Z n0 #[(.ref a1), (.int (1 : Int32)), (.long p3), (.long p4), (.int (0 : Int32))] h0 (fun v h => (∃ r : Int32, v = some (.int r)) ∧ Keep h0 h [a1, fd] ∧ ∃ (bl' : Int32) (gf' : Nat → Int64), Ob Z h a1 "org/foreslot/planning/ClusterTimeline" NS_CT [(.ref tm), (.ref sr), (.ref ub), (.long (-9223372036854775808 : Int64)), (.long (1 : Int64)), (.long (9223372036854775807 : Int64)), (.long (-9223372036854775808 : Int64)), (.int nn), (.int wv), (.long lw), (.ref fd), (.ref c5), (.ref c6), (.ref c7), (.ref c8), (.int (2 : Int32)), (.int bl')] ∧ Ar Z h fd .long wn (fun j_ => .long (gf' j_)) ∧ own_fd wn lw gm gf' (own_ov p3.toInt p4.toInt)) ws := by
  refine ctr_of (plainFor_of_name pn_1) ?_
  intro p e s m below meth c T0 X0 C
  refine go_cast (ef_rmFT1 m a1 p3 p4) ?_
  obtain ⟨RS, hRS⟩ : ∃ RS, RS = Rs s below n0 (fun v h => (∃ r : Int32, v = some (.int r)) ∧ Keep h0 h [a1, fd] ∧ ∃ (bl' : Int32) (gf' : Nat → Int64), Ob Z h a1 "org/foreslot/planning/ClusterTimeline" NS_CT [(.ref tm), (.ref sr), (.ref ub), (.long (-9223372036854775808 : Int64)), (.long (1 : Int64)), (.long (9223372036854775807 : Int64)), (.long (-9223372036854775808 : Int64)), (.int nn), (.int wv), (.long lw), (.ref fd), (.ref c5), (.ref c6), (.ref c7), (.ref c8), (.int (2 : Int32)), (.int bl')] ∧ Ar Z h fd .long wn (fun j_ => .long (gf' j_)) ∧ own_fd wn lw gm gf' (own_ov p3.toInt p4.toInt)) ({ frames := 3, cells := 0, slots := 0, locals := 66 } : Room).cells ({ frames := 3, cells := 0, slots := 0, locals := 66 } : Room).slots := ⟨_, rfl⟩
  suffices HG : Go p e below RS T0 (mkF m 0 #[.val (.ref a1), .val (.int (1 : Int32)), .val (.long p3), .second, .val (.long p4), .second, .val (.int (0 : Int32))] []) by rw [hRS] at HG; exact HG
  show Go p e below RS T0 (mkF m 0 #[.val (.ref a1), .val (.int (1 : Int32)), .val (.long p3), .second, .val (.long p4), .second, .val (.int (0 : Int32))] [])
  refine g_aloadN X0 C d15_0 rfl rfl rfl ?_
  refine g_iloadN X0 C d15_1 rfl rfl ?_
  refine g_putO (i := 16) (vs' := [(.ref tm), (.ref sr), (.ref ub), (.long (-9223372036854775808 : Int64)), (.long (1 : Int64)), (.long (9223372036854775807 : Int64)), (.long (-9223372036854775808 : Int64)), (.int nn), (.int wv), (.long lw), (.ref fd), (.ref c5), (.ref c6), (.ref c7), (.ref c8), (.int (2 : Int32)), (.int (1 : Int32))]) X0 C O_a1 (CF_CT hw) rfl rfl rfl ga_a1 (host := "") (Or.inl (hw _ (List.mem_of_getElem? (i := 134) rfl))) (Or.inl (hw _ (List.mem_of_getElem? (i := 135) rfl))) (ty := .int) (by decide) rfl rfl d15_2 rfl (fun T1346 h1348 X1347 O_a1 K1349 => ?_)
  have A_tm := A_tm.keep K1349 (ninN ne_tm_a1 nin0)
  have A_sr := A_sr.keep K1349 (ninN ne_sr_a1 nin0)
  have A_ub := A_ub.keep K1349 (ninN ne_ub_a1 nin0)
  have O_s0 := O_s0.keep K1349 (ninN ne_s0_a1 nin0)
  have O_s1 := O_s1.keep K1349 (ninN ne_s1_a1 nin0)
  have A_b0 := A_b0.keep K1349 (ninN ne_b0_a1 nin0)
  have A_e0 := A_e0.keep K1349 (ninN ne_e0_a1 nin0)
  have A_b1 := A_b1.keep K1349 (ninN ne_b1_a1 nin0)
  have A_e1 := A_e1.keep K1349 (ninN ne_e1_a1 nin0)
  have A_fd := A_fd.keep K1349 (ninN (NE.symm ne_a1_fd) nin0)
  have hz1350 : Lo n0 h1348.size := Lo.keep hz0 K1349
  have KK1351 := (Keep.refl h0 [a1, fd]).trans K1349 (allS (Or.inl (List.mem_of_getElem? (i := 0) rfl)) all0)
  refine g_lload X1347 C d15_5 rfl rfl ?_
  refine g_lconst (v := 0) X1347 C d15_7 (by decide) rfl ?_
  refine g_lcmp X1347 C d15_8 rfl ?_
  refine g_lif_le (a := p4.toInt) (b := 0) X1347 C d15_9 rfl (by decide) (by decide) (pT := 44) (by decide) (pF := 12) rfl (fun hc9 => ?_) (fun hc9 => ?_)
  ·
    refine g_aloadN X1347 C d15_44 rfl rfl rfl ?_
    refine g_iloadN X1347 C d15_45 rfl rfl ?_
    refine g_lloadN X1347 C d15_46 rfl rfl ?_
    refine g_iload X1347 C d15_47 rfl rfl ?_
    refine g_private (argsL := [(.int (1 : Int32)), (.long p3), (.int (0 : Int32))]) (rest := []) (W := 0) (a := a1) X1347 C (rmFA1 l Z a0 hw a1 p3 tm sr ub fd c5 c6 c7 c8 nn wv lw (1 : Int32) wn gt gm gf fn gu s0 s1 b0 b1 e0 e1 h1348 n0 hz1350 hst hwn hgt0 hgt1 hfn0 hfn1 hnn hgu ga_a1 ga_fd ne_a1_fd ne_tm_fd ne_sr_fd ne_ub_fd ne_s0_fd ne_s1_fd ne_b0_fd ne_b1_fd ne_e0_fd ne_e1_fd ne_tm_a1 ne_sr_a1 ne_ub_a1 ne_s0_a1 ne_s1_a1 ne_b0_a1 ne_b1_a1 ne_e0_a1 ne_e1_a1 O_a1 A_tm A_sr A_ub O_s0 O_s1 A_b0 A_e0 A_b1 A_e1 A_fd []) O_a1.1 (hw _ (List.mem_of_getElem? (i := 136) rfl)) (hw _ (List.mem_of_getElem? (i := 137) rfl)) (hw _ (List.mem_of_getElem? (i := 138) rfl)) (hw _ (List.mem_of_getElem? (i := 1) rfl)) (hw _ (List.mem_of_getElem? (i := 2) rfl)) (hw _ (List.mem_of_getElem? (i := 139) rfl)) (by decide) pd_11 rfl rfl rfl rfl rfl (by decide) (by decide) (by decide) (by decide) d15_49 rfl (fun r1355 T1352 h1354 hQ1356 X1353 => ?_)
    obtain ⟨⟨rf, rfl⟩, KX, gf', A_fd, HF⟩ := hQ1356
    have O_a1 := O_a1.keep KX (ninN ne_a1_fd nin0)
    have hz1357 : Lo n0 h1354.size := Lo.keep hz1350 KX
    have KK1358 := KK1351.trans KX (allS (Or.inl (List.mem_of_getElem? (i := 1) rfl)) all0)
    show Go p e below RS T1352 (mkF m 52 #[.val (.ref a1), .val (.int (1 : Int32)), .val (.long p3), .second, .val (.long p4), .second, .val (.int (0 : Int32))] [(.int rf)])
    rw [hRS]
    refine g_retZ X1353 C d15_52 ?_ (by decide) (by decide)
    refine ⟨⟨_, rfl⟩, KK1358, _, _, O_a1, A_fd, HF.iff ?_⟩
    simp only [own_ov]; omega
  ·
    refine g_aloadN X1347 C d15_12 rfl rfl rfl ?_
    refine g_iloadN X1347 C d15_13 rfl rfl ?_
    refine g_private (argsL := [(.int (1 : Int32))]) (rest := []) (W := 0) (a := a1) X1347 C (rmUA l Z a0 hw a1 (1 : Int32) tm sr ub fd c5 c6 c7 c8 nn wv lw (1 : Int32) (2 : Int32) gu h1348 n0 hz1350 hnn hgu (by decide) O_a1 A_ub []) O_a1.1 (hw _ (List.mem_of_getElem? (i := 170) rfl)) (hw _ (List.mem_of_getElem? (i := 171) rfl)) (hw _ (List.mem_of_getElem? (i := 172) rfl)) (hw _ (List.mem_of_getElem? (i := 1) rfl)) (hw _ (List.mem_of_getElem? (i := 2) rfl)) (hw _ (List.mem_of_getElem? (i := 173) rfl)) (by decide) pd_12 rfl rfl rfl rfl rfl (by decide) (by decide) (by decide) (by decide) d15_14 rfl (fun r1362 T1359 h1361 hQ1363 X1360 => ?_)
    obtain ⟨ru, rfl, hh, hru⟩ := hQ1363; rw [hh] at X1360
    show Go p e below RS T1359 (mkF m 17 #[.val (.ref a1), .val (.int (1 : Int32)), .val (.long p3), .second, .val (.long p4), .second, .val (.int (0 : Int32))] [(.int ru)])
    refine g_iload X1360 C d15_17 rfl rfl ?_
    refine g_icmp_lt (a := ru.toInt) (b := 0) X1360 C d15_19 rfl (by decide) (by decide) (pT := 40) (by decide) (pF := 22) rfl (fun hc19 => absurd hc19 (by omega)) (fun hc19 => ?_)
    refine g_aloadN X1360 C d15_22 rfl rfl rfl ?_
    refine g_iloadN X1360 C d15_23 rfl rfl ?_
    refine g_lloadN X1360 C d15_24 rfl rfl ?_
    refine g_lload X1360 C d15_25 rfl rfl ?_
    refine g_ladd X1360 C d15_27 rfl ?_
    refine g_iload X1360 C d15_28 rfl rfl ?_
    have hsum : (p3 + p4).toInt = p3.toInt + p4.toInt := by
      have g1 := c_ladd p3 p4; have g2 := rng64 (p3 + p4); omega
    refine g_private (argsL := [(.int (1 : Int32)), (.long (p3 + p4)), (.int (0 : Int32))]) (rest := []) (W := 0) (a := a1) X1360 C (rmFU1 l Z a0 hw a1 (p3 + p4) tm sr ub fd c5 c6 c7 c8 nn wv lw (1 : Int32) wn gt gm gf fn gu s0 s1 b0 b1 e0 e1 h1348 n0 hz1350 hwn hgt0 hgt1 hfn0 hfn1 hnn hgu ga_a1 ga_fd ne_a1_fd ne_tm_fd ne_sr_fd ne_ub_fd ne_s0_fd ne_s1_fd ne_b0_fd ne_b1_fd ne_e0_fd ne_e1_fd ne_tm_a1 ne_sr_a1 ne_ub_a1 ne_s0_a1 ne_s1_a1 ne_b0_a1 ne_b1_a1 ne_e0_a1 ne_e1_a1 O_a1 A_tm A_sr A_ub O_s0 O_s1 A_b0 A_e0 A_b1 A_e1 A_fd []) O_a1.1 (hw _ (List.mem_of_getElem? (i := 174) rfl)) (hw _ (List.mem_of_getElem? (i := 175) rfl)) (hw _ (List.mem_of_getElem? (i := 176) rfl)) (hw _ (List.mem_of_getElem? (i := 1) rfl)) (hw _ (List.mem_of_getElem? (i := 2) rfl)) (hw _ (List.mem_of_getElem? (i := 177) rfl)) (by decide) pd_11 rfl rfl rfl rfl rfl (by decide) (by decide) (by decide) (by decide) d15_30 rfl (fun r1367 T1364 h1366 hQ1368 X1365 => ?_)
    obtain ⟨⟨rf, rfl⟩, KX, bl', gf', O_a1, A_fd, HF⟩ := hQ1368
    have hz1369 : Lo n0 h1366.size := Lo.keep hz1350 KX
    have KK1370 := KK1351.trans KX (allS (Or.inl (List.mem_of_getElem? (i := 0) rfl)) (allS (Or.inl (List.mem_of_getElem? (i := 1) rfl)) all0))
    show Go p e below RS T1364 (mkF m 33 #[.val (.ref a1), .val (.int (1 : Int32)), .val (.long p3), .second, .val (.long p4), .second, .val (.int (0 : Int32))] [(.int rf)])
    refine g_if_eq (a := rf.toInt) X1365 C d15_33 rfl (by decide) (pT := 40) (by decide) (pF := 36) rfl (fun hc33 => ?_) (fun hc33 => ?_)
    ·
      refine g_iconst (v := 0) X1365 C d15_40 (by decide) rfl ?_
      refine g_goto (pc' := 52) X1365 C d15_41 (by decide) (by decide) ?_
      rw [hRS]
      refine g_retZ X1365 C d15_52 ?_ (by decide) (by decide)
      refine ⟨⟨_, rfl⟩, KK1370, _, _, O_a1, A_fd, HF.iff ?_⟩
      exact ⟨fun q => q.elim, fun q => by simp only [own_ov] at q; omega⟩
    ·
      refine g_iconst (v := 1) X1365 C d15_36 (by decide) rfl ?_
      refine g_goto (pc' := 52) X1365 C d15_37 (by decide) (by decide) ?_
      rw [hRS]
      refine g_retZ X1365 C d15_52 ?_ (by decide) (by decide)
      refine ⟨⟨_, rfl⟩, KK1370, _, _, O_a1, A_fd, HF.iff ?_⟩
      exact ⟨fun q => q.elim, fun q => by simp only [own_ov] at q; omega⟩
theorem ef_rmFF (m : MethodId) (a1 : Addr) (p3 : Int64) (p4 : Int64) : entryFrame m #[(.ref a1), (.long p3), (.long p4)] 5 = mkF m 0 #[.val (.ref a1), .val (.long p3), .second, .val (.long p4), .second] [] := by first | (simp [entryFrame, mkF, argsToLocals, Value.category]; done) | rfl
set_option maxRecDepth 65536 in
set_option maxHeartbeats 40000000 in
theorem rmFF (l : Launch) (Z : State) (a0 : Array Value) (hw : ∀ d ∈ tables_1, d.before a0 Z = true) (a1 : Addr) (p3 p4 : Int64) (tm sr ub fd c5 c6 c7 c8 : Addr) (nn wv : Int32) (lw : Int64) (bl : Int32) (wn : Nat) (gt gm gf : Nat → Int64) (fn : Nat → Value) (gu : Nat → Int32) (s0 s1 b0 b1 e0 e1 : Addr) (h0 : Heap) (n0 : Nat) (hz0 : Lo n0 h0.size) (hb3 : -8 ≤ p3.toInt ∧ p3.toInt ≤ 23) (hb4 : 0 ≤ p4.toInt ∧ p4.toInt ≤ 15) (hwn : own_W wn wv) (hgt0 : (gt 0).toInt = 0) (hgt1 : (gt 1).toInt = 10) (hfn0 : fn 0 = .ref s0) (hfn1 : fn 1 = .ref s1) (hnn : 0 ≤ nn.toInt) (hgu : ∀ k, k < 2 → 0 ≤ (gu k).toInt) (ga_a1 : Lo n0 a1) (ga_fd : Lo n0 fd) (ne_a1_fd : NE a1 fd) (ne_tm_fd : NE tm fd) (ne_sr_fd : NE sr fd) (ne_ub_fd : NE ub fd) (ne_s0_fd : NE s0 fd) (ne_s1_fd : NE s1 fd) (ne_b0_fd : NE b0 fd) (ne_b1_fd : NE b1 fd) (ne_e0_fd : NE e0 fd) (ne_e1_fd : NE e1 fd) (ne_tm_a1 : NE tm a1) (ne_sr_a1 : NE sr a1) (ne_ub_a1 : NE ub a1) (ne_s0_a1 : NE s0 a1) (ne_s1_a1 : NE s1 a1) (ne_b0_a1 : NE b0 a1) (ne_b1_a1 : NE b1 a1) (ne_e0_a1 : NE e0 a1) (ne_e1_a1 : NE e1 a1) (O_a1 : Ob Z h0 a1 "org/foreslot/planning/ClusterTimeline" NS_CT [(.ref tm), (.ref sr), (.ref ub), (.long (-9223372036854775808 : Int64)), (.long (1 : Int64)), (.long (9223372036854775807 : Int64)), (.long (-9223372036854775808 : Int64)), (.int nn), (.int wv), (.long lw), (.ref fd), (.ref c5), (.ref c6), (.ref c7), (.ref c8), (.int (2 : Int32)), (.int bl)]) (A_tm : Ar Z h0 tm .long 16 (fun j_ => .long (gt j_))) (A_sr : ArR Z h0 sr "org/foreslot/planning/ClusterTimeline$Stretch" 16 fn) (A_ub : Ar Z h0 ub .int 16 (fun k => .int (gu k))) (O_s0 : Ob Z h0 s0 "org/foreslot/planning/ClusterTimeline$Stretch" NS_SR [(.ref b0), (.ref e0), .null, .null, .null]) (O_s1 : Ob Z h0 s1 "org/foreslot/planning/ClusterTimeline$Stretch" NS_SR [(.ref b1), (.ref e1), .null, .null, .null]) (A_b0 : Ar Z h0 b0 .long wn (fun j_ => .long (gm j_))) (A_e0 : Ar Z h0 e0 .long wn (fun j_ => .long ((fun _ => 0) j_))) (A_b1 : Ar Z h0 b1 .long wn (fun j_ => .long ((fun _ => 0) j_))) (A_e1 : Ar Z h0 e1 .long wn (fun j_ => .long (gm j_))) (A_fd : Ar Z h0 fd .long wn (fun j_ => .long (gf j_))) (ws : List Jvm.Cond) :
    Ctr l (⟨"org/foreslot/planning/ClusterTimeline", "findFree", "(JJ)V"⟩ : MethodName) prog_29_method_15_code 5 none ({ frames := 4, cells := 0, slots := 0, locals := 90 } : Room) Z n0 #[(.ref a1), (.long p3), (.long p4)] h0 (fun v h => v = none ∧ Keep h0 h [a1, fd] ∧ ∃ (bl' : Int32) (gf' : Nat → Int64), Ob Z h a1 "org/foreslot/planning/ClusterTimeline" NS_CT [(.ref tm), (.ref sr), (.ref ub), (.long (-9223372036854775808 : Int64)), (.long (1 : Int64)), (.long (9223372036854775807 : Int64)), (.long (-9223372036854775808 : Int64)), (.int nn), (.int wv), (.long lw), (.ref fd), (.ref c5), (.ref c6), (.ref c7), (.ref c8), (.int (2 : Int32)), (.int bl')] ∧ Ar Z h fd .long wn (fun j_ => .long (gf' j_)) ∧ own_fd wn lw gm gf' (own_ov p3.toInt p4.toInt)) ws := by
  refine ctr_of (plainFor_of_name pn_1) ?_
  intro p e s m below meth c T0 X0 C
  refine go_cast (ef_rmFF m a1 p3 p4) ?_
  obtain ⟨RS, hRS⟩ : ∃ RS, RS = Rs s below n0 (fun v h => v = none ∧ Keep h0 h [a1, fd] ∧ ∃ (bl' : Int32) (gf' : Nat → Int64), Ob Z h a1 "org/foreslot/planning/ClusterTimeline" NS_CT [(.ref tm), (.ref sr), (.ref ub), (.long (-9223372036854775808 : Int64)), (.long (1 : Int64)), (.long (9223372036854775807 : Int64)), (.long (-9223372036854775808 : Int64)), (.int nn), (.int wv), (.long lw), (.ref fd), (.ref c5), (.ref c6), (.ref c7), (.ref c8), (.int (2 : Int32)), (.int bl')] ∧ Ar Z h fd .long wn (fun j_ => .long (gf' j_)) ∧ own_fd wn lw gm gf' (own_ov p3.toInt p4.toInt)) ({ frames := 4, cells := 0, slots := 0, locals := 90 } : Room).cells ({ frames := 4, cells := 0, slots := 0, locals := 90 } : Room).slots := ⟨_, rfl⟩
  suffices HG : Go p e below RS T0 (mkF m 0 #[.val (.ref a1), .val (.long p3), .second, .val (.long p4), .second] []) by rw [hRS] at HG; exact HG
  show Go p e below RS T0 (mkF m 0 #[.val (.ref a1), .val (.long p3), .second, .val (.long p4), .second] [])
  refine g_aloadN X0 C d14_0 rfl rfl rfl ?_
  refine g_aloadN X0 C d14_1 rfl rfl rfl ?_
  refine g_lloadN X0 C d14_2 rfl rfl ?_
  refine g_private (argsL := [(.long p3)]) (rest := [(.ref a1)]) (W := 1) (a := a1) X0 C (rmX2 l Z a0 hw a1 p3 tm sr ub fd c5 c6 c7 c8 nn wv lw bl gt h0 n0 hz0 O_a1 A_tm []) O_a1.1 (hw _ (List.mem_of_getElem? (i := 70) rfl)) (hw _ (List.mem_of_getElem? (i := 71) rfl)) (hw _ (List.mem_of_getElem? (i := 72) rfl)) (hw _ (List.mem_of_getElem? (i := 1) rfl)) (hw _ (List.mem_of_getElem? (i := 2) rfl)) (hw _ (List.mem_of_getElem? (i := 73) rfl)) (by decide) pd_0 rfl rfl rfl rfl rfl (by decide) (by decide) (by decide) (by decide) d14_3 rfl (fun r1374 T1371 h1373 hQ1375 X1372 => ?_)
  obtain ⟨rx, rfl, hh, hx⟩ := hQ1375; rw [hh] at X1372
  show Go p e below RS T1371 (mkF m 6 #[.val (.ref a1), .val (.long p3), .second, .val (.long p4), .second] [(.int rx), (.ref a1)])
  rcases hx with ⟨rfl, q1, q2⟩ | ⟨rfl, q1, q2⟩ | ⟨rfl, q1⟩
  ·
    show Go p e below RS T1371 (mkF m 6 #[.val (.ref a1), .val (.long p3), .second, .val (.long p4), .second] [(.int (-1 : Int32)), (.ref a1)])
    refine g_lloadN X1372 C d14_6 rfl rfl ?_
    refine g_lloadN X1372 C d14_7 rfl rfl ?_
    refine g_iconst (v := 0) X1372 C d14_8 (by decide) rfl ?_
    refine g_private (argsL := [(.int (-1 : Int32)), (.long p3), (.long p4), (.int (0 : Int32))]) (rest := []) (W := 0) (a := a1) X1372 C (rmFTm l Z a0 hw a1 p3 p4 tm sr ub fd c5 c6 c7 c8 nn wv lw bl wn gt gm gf fn gu s0 s1 b0 b1 e0 e1 h0 n0 hz0 (by omega) hb3 hb4 hwn hgt0 hgt1 hfn0 hfn1 hnn hgu ga_a1 ga_fd ne_a1_fd ne_tm_fd ne_sr_fd ne_ub_fd ne_s0_fd ne_s1_fd ne_b0_fd ne_b1_fd ne_e0_fd ne_e1_fd ne_tm_a1 ne_sr_a1 ne_ub_a1 ne_s0_a1 ne_s1_a1 ne_b0_a1 ne_b1_a1 ne_e0_a1 ne_e1_a1 O_a1 A_tm A_sr A_ub O_s0 O_s1 A_b0 A_e0 A_b1 A_e1 A_fd []) O_a1.1 (hw _ (List.mem_of_getElem? (i := 130) rfl)) (hw _ (List.mem_of_getElem? (i := 131) rfl)) (hw _ (List.mem_of_getElem? (i := 132) rfl)) (hw _ (List.mem_of_getElem? (i := 1) rfl)) (hw _ (List.mem_of_getElem? (i := 2) rfl)) (hw _ (List.mem_of_getElem? (i := 133) rfl)) (by decide) pd_13 rfl rfl rfl rfl rfl (by decide) (by decide) (by decide) (by decide) d14_9 rfl (fun r1379 T1376 h1378 hQ1380 X1377 => ?_)
    obtain ⟨⟨rf, rfl⟩, KX, HX⟩ := hQ1380
    have hz1381 : Lo n0 h1378.size := Lo.keep hz0 KX
    have KK1382 := (Keep.refl h0 [a1, fd]).trans KX (allS (Or.inl (List.mem_of_getElem? (i := 0) rfl)) (allS (Or.inl (List.mem_of_getElem? (i := 1) rfl)) all0))
    show Go p e below RS T1376 (mkF m 12 #[.val (.ref a1), .val (.long p3), .second, .val (.long p4), .second] [(.int rf)])
    refine g_pop X1377 C d14_12 rfl rfl ?_
    rw [hRS]
    refine g_retV X1377 C d14_13 ?_ (by decide) (by decide)
    exact ⟨rfl, KK1382, HX⟩
  ·
    show Go p e below RS T1371 (mkF m 6 #[.val (.ref a1), .val (.long p3), .second, .val (.long p4), .second] [(.int (0 : Int32)), (.ref a1)])
    refine g_lloadN X1372 C d14_6 rfl rfl ?_
    refine g_lloadN X1372 C d14_7 rfl rfl ?_
    refine g_iconst (v := 0) X1372 C d14_8 (by decide) rfl ?_
    refine g_private (argsL := [(.int (0 : Int32)), (.long p3), (.long p4), (.int (0 : Int32))]) (rest := []) (W := 0) (a := a1) X1372 C (rmFT0 l Z a0 hw a1 p3 p4 tm sr ub fd c5 c6 c7 c8 nn wv lw bl wn gt gm gf fn gu s0 s1 b0 b1 e0 e1 h0 n0 hz0 (by omega) hb3 hb4 hwn hgt0 hgt1 hfn0 hfn1 hnn hgu ga_a1 ga_fd ne_a1_fd ne_tm_fd ne_sr_fd ne_ub_fd ne_s0_fd ne_s1_fd ne_b0_fd ne_b1_fd ne_e0_fd ne_e1_fd ne_tm_a1 ne_sr_a1 ne_ub_a1 ne_s0_a1 ne_s1_a1 ne_b0_a1 ne_b1_a1 ne_e0_a1 ne_e1_a1 O_a1 A_tm A_sr A_ub O_s0 O_s1 A_b0 A_e0 A_b1 A_e1 A_fd []) O_a1.1 (hw _ (List.mem_of_getElem? (i := 130) rfl)) (hw _ (List.mem_of_getElem? (i := 131) rfl)) (hw _ (List.mem_of_getElem? (i := 132) rfl)) (hw _ (List.mem_of_getElem? (i := 1) rfl)) (hw _ (List.mem_of_getElem? (i := 2) rfl)) (hw _ (List.mem_of_getElem? (i := 133) rfl)) (by decide) pd_13 rfl rfl rfl rfl rfl (by decide) (by decide) (by decide) (by decide) d14_9 rfl (fun r1386 T1383 h1385 hQ1387 X1384 => ?_)
    obtain ⟨⟨rf, rfl⟩, KX, HX⟩ := hQ1387
    have hz1388 : Lo n0 h1385.size := Lo.keep hz0 KX
    have KK1389 := (Keep.refl h0 [a1, fd]).trans KX (allS (Or.inl (List.mem_of_getElem? (i := 0) rfl)) (allS (Or.inl (List.mem_of_getElem? (i := 1) rfl)) all0))
    show Go p e below RS T1383 (mkF m 12 #[.val (.ref a1), .val (.long p3), .second, .val (.long p4), .second] [(.int rf)])
    refine g_pop X1384 C d14_12 rfl rfl ?_
    rw [hRS]
    refine g_retV X1384 C d14_13 ?_ (by decide) (by decide)
    exact ⟨rfl, KK1389, HX⟩
  ·
    show Go p e below RS T1371 (mkF m 6 #[.val (.ref a1), .val (.long p3), .second, .val (.long p4), .second] [(.int (1 : Int32)), (.ref a1)])
    refine g_lloadN X1372 C d14_6 rfl rfl ?_
    refine g_lloadN X1372 C d14_7 rfl rfl ?_
    refine g_iconst (v := 0) X1372 C d14_8 (by decide) rfl ?_
    refine g_private (argsL := [(.int (1 : Int32)), (.long p3), (.long p4), (.int (0 : Int32))]) (rest := []) (W := 0) (a := a1) X1372 C (rmFT1 l Z a0 hw a1 p3 p4 tm sr ub fd c5 c6 c7 c8 nn wv lw bl wn gt gm gf fn gu s0 s1 b0 b1 e0 e1 h0 n0 hz0 (by omega) hb3 hb4 hwn hgt0 hgt1 hfn0 hfn1 hnn hgu ga_a1 ga_fd ne_a1_fd ne_tm_fd ne_sr_fd ne_ub_fd ne_s0_fd ne_s1_fd ne_b0_fd ne_b1_fd ne_e0_fd ne_e1_fd ne_tm_a1 ne_sr_a1 ne_ub_a1 ne_s0_a1 ne_s1_a1 ne_b0_a1 ne_b1_a1 ne_e0_a1 ne_e1_a1 O_a1 A_tm A_sr A_ub O_s0 O_s1 A_b0 A_e0 A_b1 A_e1 A_fd []) O_a1.1 (hw _ (List.mem_of_getElem? (i := 130) rfl)) (hw _ (List.mem_of_getElem? (i := 131) rfl)) (hw _ (List.mem_of_getElem? (i := 132) rfl)) (hw _ (List.mem_of_getElem? (i := 1) rfl)) (hw _ (List.mem_of_getElem? (i := 2) rfl)) (hw _ (List.mem_of_getElem? (i := 133) rfl)) (by decide) pd_13 rfl rfl rfl rfl rfl (by decide) (by decide) (by decide) (by decide) d14_9 rfl (fun r1393 T1390 h1392 hQ1394 X1391 => ?_)
    obtain ⟨⟨rf, rfl⟩, KX, HX⟩ := hQ1394
    have hz1395 : Lo n0 h1392.size := Lo.keep hz0 KX
    have KK1396 := (Keep.refl h0 [a1, fd]).trans KX (allS (Or.inl (List.mem_of_getElem? (i := 0) rfl)) (allS (Or.inl (List.mem_of_getElem? (i := 1) rfl)) all0))
    show Go p e below RS T1390 (mkF m 12 #[.val (.ref a1), .val (.long p3), .second, .val (.long p4), .second] [(.int rf)])
    refine g_pop X1391 C d14_12 rfl rfl ?_
    rw [hRS]
    refine g_retV X1391 C d14_13 ?_ (by decide) (by decide)
    exact ⟨rfl, KK1396, HX⟩
theorem ef_rm0 (m : MethodId) (p1 : Int32) (p2 : Int32) (p3 : Int32) (p4 : Int64) (p5 : Int64) (p6 : Int32) : entryFrame m #[(.int p1), (.int p2), (.int p3), (.long p4), (.long p5), (.int p6)] maxLocals = mkF m 0 #[.val (.int p1), .val (.int p2), .val (.int p3), .val (.long p4), .second, .val (.long p5), .second, .val (.int p6), .unset, .unset, .unset, .unset, .unset, .unset, .unset, .unset, .unset, .unset, .unset, .unset, .unset, .unset, .unset, .unset, .unset, .unset, .unset, .unset, .unset, .unset, .unset, .unset, .unset, .unset, .unset, .unset, .unset, .unset] [] := by first | (simp [entryFrame, mkF, argsToLocals, Value.category, maxLocals]; done) | rfl
set_option maxRecDepth 65536 in
set_option maxHeartbeats 40000000 in
theorem rm0 (l : Launch) (Z : State) (a0 : Array Value) (hw : ∀ d ∈ tables_1, d.before a0 Z = true) (p1 p2 p3 : Int32) (p4 p5 : Int64) (p6 : Int32) (h0 : Heap) (n0 : Nat) (hz0 : Lo n0 h0.size)  (ws : List Jvm.Cond) :
    Ctr l x code maxLocals ret room_1 Z n0 #[(.int p1), (.int p2), (.int p3), (.long p4), (.long p5), (.int p6)] h0 (fun v h => v = some (.int 1)) ws := by
  refine ctr_of (plainFor_of_name pn_0) ?_
  intro p e s m below meth c T0 X0 C
  refine go_cast (ef_rm0 m p1 p2 p3 p4 p5 p6) ?_
  obtain ⟨RS, hRS⟩ : ∃ RS, RS = Rs s below n0 (fun v h => v = some (.int 1)) room_1.cells room_1.slots := ⟨_, rfl⟩
  suffices HG : Go p e below RS T0 (mkF m 0 #[.val (.int p1), .val (.int p2), .val (.int p3), .val (.long p4), .second, .val (.long p5), .second, .val (.int p6), .unset, .unset, .unset, .unset, .unset, .unset, .unset, .unset, .unset, .unset, .unset, .unset, .unset, .unset, .unset, .unset, .unset, .unset, .unset, .unset, .unset, .unset, .unset, .unset, .unset, .unset, .unset, .unset, .unset, .unset] []) by rw [hRS] at HG; exact HG
  show Go p e below RS T0 (mkF m 0 #[.val (.int p1), .val (.int p2), .val (.int p3), .val (.long p4), .second, .val (.long p5), .second, .val (.int p6), .unset, .unset, .unset, .unset, .unset, .unset, .unset, .unset, .unset, .unset, .unset, .unset, .unset, .unset, .unset, .unset, .unset, .unset, .unset, .unset, .unset, .unset, .unset, .unset, .unset, .unset, .unset, .unset, .unset, .unset] [])
  refine g_iconst (v := 1) X0 C at_0 (by decide) rfl ?_
  refine g_iloadN X0 C at_1 rfl rfl ?_
  refine g_bipush (v := 127) X0 C at_2 (by decide) rfl ?_
  refine g_iand X0 C at_4 rfl ?_
  refine g_iadd X0 C at_5 rfl ?_
  obtain ⟨i1397, h_i1397⟩ : ∃ z, z = ((1 : Int32) + (p1 &&& (127 : Int32))) := ⟨_, rfl⟩
  obtain ⟨n, hn, hn1, hn128⟩ : ∃ n : Nat, i1397.toInt = n ∧ 1 ≤ n ∧ n ≤ 128 := by
    have g1 := c_mask p1 127 7 (by decide) (by decide)
    simp only [Nat.reducePow] at g1
    have g2 := c_iadd 1 (p1 &&& 127); have g3 := rng32 (1 + (p1 &&& 127)); have g4 : (1 : Int32).toInt = 1 := by decide
    rw [← h_i1397] at g2 g3
    exact ⟨i1397.toInt.toNat, by omega, by omega, by omega⟩
  have hnz : i1397 ≠ 0 := by
    intro q; rw [q] at hn; have g4 : (0 : Int32).toInt = 0 := by decide
    omega
  refine g_istore (L' := #[.val (.int p1), .val (.int p2), .val (.int p3), .val (.long p4), .second, .val (.long p5), .second, .val (.int p6), .val (.int i1397), .unset, .unset, .unset, .unset, .unset, .unset, .unset, .unset, .unset, .unset, .unset, .unset, .unset, .unset, .unset, .unset, .unset, .unset, .unset, .unset, .unset, .unset, .unset, .unset, .unset, .unset, .unset, .unset, .unset]) X0 C at_6 h_i1397 rfl rfl ?_
  refine g_iloadN X0 C at_8 rfl rfl ?_
  refine g_sipush (v := 32767) X0 C at_9 (by decide) rfl ?_
  refine g_iand X0 C at_12 rfl ?_
  refine g_iload X0 C at_13 rfl rfl ?_
  refine g_irem X0 C at_15 hnz rfl ?_
  obtain ⟨i1398, h_i1398⟩ : ∃ z, z = ((p2 &&& (32767 : Int32)) % i1397) := ⟨_, rfl⟩
  have hva : 0 ≤ i1398.toInt ∧ i1398.toInt < n := by
    have g1 := c_mask p2 32767 15 (by decide) (by decide)
    simp only [Nat.reducePow] at g1
    have g2 := (c_iremV (p2 &&& (32767 : Int32)) i1397).1 (by omega) (by omega)
    rw [← h_i1398] at g2; omega
  refine g_istore (L' := #[.val (.int p1), .val (.int p2), .val (.int p3), .val (.long p4), .second, .val (.long p5), .second, .val (.int p6), .val (.int i1397), .val (.int i1398), .unset, .unset, .unset, .unset, .unset, .unset, .unset, .unset, .unset, .unset, .unset, .unset, .unset, .unset, .unset, .unset, .unset, .unset, .unset, .unset, .unset, .unset, .unset, .unset, .unset, .unset, .unset, .unset]) X0 C at_16 h_i1398 rfl rfl ?_
  refine g_iloadN X0 C at_18 rfl rfl ?_
  refine g_bipush (v := 16) X0 C at_19 (by decide) rfl ?_
  refine g_iushr X0 C at_21 rfl ?_
  refine g_sipush (v := 32767) X0 C at_22 (by decide) rfl ?_
  refine g_iand X0 C at_25 rfl ?_
  refine g_iload X0 C at_26 rfl rfl ?_
  refine g_irem X0 C at_28 hnz rfl ?_
  obtain ⟨i1399, h_i1399⟩ : ∃ z, z = ((((p2.toUInt32 >>> ((16 : Int32) &&& 31).toUInt32).toInt32) &&& (32767 : Int32)) % i1397) := ⟨_, rfl⟩
  have hvb : 0 ≤ i1399.toInt ∧ i1399.toInt < n := by
    have g1 := c_mask ((p2.toUInt32 >>> ((16 : Int32) &&& 31).toUInt32).toInt32) 32767 15 (by decide) (by decide)
    simp only [Nat.reducePow] at g1
    have g2 := (c_iremV (((p2.toUInt32 >>> ((16 : Int32) &&& 31).toUInt32).toInt32) &&& (32767 : Int32)) i1397).1 (by omega) (by omega)
    rw [← h_i1399] at g2; omega
  refine g_istore (L' := #[.val (.int p1), .val (.int p2), .val (.int p3), .val (.long p4), .second, .val (.long p5), .second, .val (.int p6), .val (.int i1397), .val (.int i1398), .val (.int i1399), .unset, .unset, .unset, .unset, .unset, .unset, .unset, .unset, .unset, .unset, .unset, .unset, .unset, .unset, .unset, .unset, .unset, .unset, .unset, .unset, .unset, .unset, .unset, .unset, .unset, .unset, .unset]) X0 C at_29 h_i1399 rfl rfl ?_
  refine g_iloadN X0 C at_31 rfl rfl ?_
  refine g_bipush (v := 31) X0 C at_32 (by decide) rfl ?_
  refine g_iand X0 C at_34 rfl ?_
  refine g_bipush (v := 8) X0 C at_35 (by decide) rfl ?_
  refine g_isub X0 C at_37 rfl ?_
  refine g_i2l X0 C at_38 rfl ?_
  obtain ⟨j1400, h_j1400⟩ : ∃ z, z = ((p3 &&& (31 : Int32)) - (8 : Int32)).toInt64 := ⟨_, rfl⟩
  have hs3 : -8 ≤ j1400.toInt ∧ j1400.toInt ≤ 23 := by
    have g1 := c_mask p3 31 5 (by decide) (by decide)
    simp only [Nat.reducePow] at g1
    have g2 := c_isub (p3 &&& 31) 8; have g3 := rng32 ((p3 &&& 31) - 8); have g4 : (8 : Int32).toInt = 8 := by decide
    rw [h_j1400, Int32.toInt_toInt64]; omega
  refine g_lstore (L' := #[.val (.int p1), .val (.int p2), .val (.int p3), .val (.long p4), .second, .val (.long p5), .second, .val (.int p6), .val (.int i1397), .val (.int i1398), .val (.int i1399), .val (.long j1400), .second, .unset, .unset, .unset, .unset, .unset, .unset, .unset, .unset, .unset, .unset, .unset, .unset, .unset, .unset, .unset, .unset, .unset, .unset, .unset, .unset, .unset, .unset, .unset, .unset, .unset]) X0 C at_39 h_j1400 rfl rfl ?_
  refine g_iloadN X0 C at_41 rfl rfl ?_
  refine g_iconst (v := 5) X0 C at_42 (by decide) rfl ?_
  refine g_iushr X0 C at_43 rfl ?_
  refine g_bipush (v := 15) X0 C at_44 (by decide) rfl ?_
  refine g_iand X0 C at_46 rfl ?_
  refine g_i2l X0 C at_47 rfl ?_
  obtain ⟨j1401, h_j1401⟩ : ∃ z, z = (((p3.toUInt32 >>> ((5 : Int32) &&& 31).toUInt32).toInt32) &&& (15 : Int32)).toInt64 := ⟨_, rfl⟩
  have hs4 : 0 ≤ j1401.toInt ∧ j1401.toInt ≤ 15 := by
    have g1 := c_mask ((p3.toUInt32 >>> ((5 : Int32) &&& 31).toUInt32).toInt32) 15 4 (by decide) (by decide)
    simp only [Nat.reducePow] at g1
    rw [h_j1401, Int32.toInt_toInt64]; omega
  have hsum : (j1400 + j1401).toInt = j1400.toInt + j1401.toInt := by
    have g1 := c_ladd j1400 j1401; have g2 := rng64 (j1400 + j1401); omega
  refine g_lstore (L' := #[.val (.int p1), .val (.int p2), .val (.int p3), .val (.long p4), .second, .val (.long p5), .second, .val (.int p6), .val (.int i1397), .val (.int i1398), .val (.int i1399), .val (.long j1400), .second, .val (.long j1401), .second, .unset, .unset, .unset, .unset, .unset, .unset, .unset, .unset, .unset, .unset, .unset, .unset, .unset, .unset, .unset, .unset, .unset, .unset, .unset, .unset, .unset, .unset, .unset]) X0 C at_48 h_j1401 rfl rfl ?_
  refine g_newO (vs := [.null, .null, .null, (.long (0 : Int64)), (.long (0 : Int64)), (.long (0 : Int64)), (.long (0 : Int64)), (.int (0 : Int32)), (.int (0 : Int32)), (.long (0 : Int64)), .null, .null, .null, .null, .null, (.int (0 : Int32)), (.int (0 : Int32))]) X0 C (hw _ (List.mem_of_getElem? (i := 0) rfl)) (CF_CT hw) (hw _ (List.mem_of_getElem? (i := 2) rfl)) (by decide) (by decide) (by decide) at_50 rfl (fun T1402 h1404 b1406 hb1407 X1403 O_b1406 K1405 => ?_)
  have ga_b1406 : Lo n0 b1406 := Sz.lo hb1407 hz0
  have hz1408 : Lo n0 h1404.size := Lo.keep hz0 K1405
  refine g_dup X1403 C at_53 rfl rfl ?_
  refine g_iload X1403 C at_54 rfl rfl ?_
  refine g_special (argsL := [(.int i1397)]) (rest := [(.ref b1406)]) (W := 1) (a := b1406) X1403 C (rmI l Z a0 hw b1406 i1397 n h1404 n0 hz1408 hn hn1 hn128 ga_b1406 O_b1406 []) rfl rfl (hw _ (List.mem_of_getElem? (i := 3) rfl)) (hw _ (List.mem_of_getElem? (i := 4) rfl)) (hw _ (List.mem_of_getElem? (i := 2) rfl)) (hw _ (List.mem_of_getElem? (i := 5) rfl)) (by decide) pd_6 rfl rfl rfl rfl rfl (by decide) (by decide) (by decide) (by decide) at_56 rfl (fun r1412 T1409 h1411 hQ1413 X1410 => ?_)
  obtain ⟨rfl, KI, tm, sr, ub, fd, c5, c6, c7, c8, wv, lw, hwn, hlw, lo_tm, lo_sr, lo_ub, lo_fd, ne_tm_sr, ne_tm_ub, ne_sr_ub, ne_tm_fd, ne_sr_fd, ne_ub_fd, N_t, A_tm, A_sr, A_ub, A_fd⟩ := hQ1413
  have ne_b1406_tm : NE b1406 tm := lone O_b1406.lt lo_tm
  have ga_tm : Lo n0 tm := Lo.tr hz1408 lo_tm
  have ne_b1406_sr : NE b1406 sr := lone O_b1406.lt lo_sr
  have ga_sr : Lo n0 sr := Lo.tr hz1408 lo_sr
  have ne_b1406_ub : NE b1406 ub := lone O_b1406.lt lo_ub
  have ga_ub : Lo n0 ub := Lo.tr hz1408 lo_ub
  have ne_b1406_fd : NE b1406 fd := lone O_b1406.lt lo_fd
  have ga_fd : Lo n0 fd := Lo.tr hz1408 lo_fd
  have hz1414 : Lo n0 h1411.size := Lo.keep hz1408 KI
  show Go p e below RS T1409 (mkF m 59 #[.val (.int p1), .val (.int p2), .val (.int p3), .val (.long p4), .second, .val (.long p5), .second, .val (.int p6), .val (.int i1397), .val (.int i1398), .val (.int i1399), .val (.long j1400), .second, .val (.long j1401), .second, .unset, .unset, .unset, .unset, .unset, .unset, .unset, .unset, .unset, .unset, .unset, .unset, .unset, .unset, .unset, .unset, .unset, .unset, .unset, .unset, .unset, .unset, .unset] [(.ref b1406)])
  refine g_astore (L' := #[.val (.int p1), .val (.int p2), .val (.int p3), .val (.long p4), .second, .val (.long p5), .second, .val (.int p6), .val (.int i1397), .val (.int i1398), .val (.int i1399), .val (.long j1400), .second, .val (.long j1401), .second, .val (.ref b1406), .unset, .unset, .unset, .unset, .unset, .unset, .unset, .unset, .unset, .unset, .unset, .unset, .unset, .unset, .unset, .unset, .unset, .unset, .unset, .unset, .unset, .unset]) X1410 C at_59 rfl rfl rfl ?_
  have TAIL : ∀ (TT : State) (hT : Heap) (k : Nat) (lk : Int32) (nd : Nat → Int32) (an : Addr) (hk : (k = 1 ∧ lk = 1) ∨ (k = 2 ∧ lk = 2)) (hkn : k ≤ n) (hM0 : own_m nd 0 k = own_bit i1398 0 ||| own_bit i1399 0) (hM1 : own_m nd 1 k = own_bit i1398 1 ||| own_bit i1399 1) (hnode : ∀ i, i < k → 0 ≤ (nd i).toInt ∧ (nd i).toInt / 64 < ((n + 63) / 64 : Nat)) (XT : St p l e room_1 s m #[(.int p1), (.int p2), (.int p3), (.long p4), (.long p5), (.int p6)] below meth c n0 TT hT 10 219) (hzT : Lo n0 hT.size) (N_t : Ob Z hT b1406 "org/foreslot/planning/ClusterTimeline" NS_CT [(.ref tm), (.ref sr), (.ref ub), (.long (-9223372036854775808 : Int64)), (.long (1 : Int64)), (.long (9223372036854775807 : Int64)), (.long (-9223372036854775808 : Int64)), (.int i1397), (.int wv), (.long lw), (.ref fd), (.ref c5), (.ref c6), (.ref c7), (.ref c8), (.int (0 : Int32)), (.int (0 : Int32))]) (A_tm : Ar Z hT tm .long 16 (fun _ => .long 0)) (A_sr : ArR Z hT sr "org/foreslot/planning/ClusterTimeline$Stretch" 16 (fun _ => .null)) (A_ub : Ar Z hT ub .int 16 (fun _ => .int 0)) (A_fd : Ar Z hT fd .long ((n + 63) / 64) (fun _ => .long 0)) (A_an : Ar Z hT an .int k (fun i => .int (nd i))) (ne_b1406_an : NE b1406 an) (ne_tm_an : NE tm an) (ne_sr_an : NE sr an) (ne_ub_an : NE ub an) (ne_fd_an : NE fd an), Go p e below RS TT (mkF m 94 #[.val (.int p1), .val (.int p2), .val (.int p3), .val (.long p4), .second, .val (.long p5), .second, .val (.int p6), .val (.int i1397), .val (.int i1398), .val (.int i1399), .val (.long j1400), .second, .val (.long j1401), .second, .val (.ref b1406), .val (.ref an), .unset, .unset, .unset, .unset, .unset, .unset, .unset, .unset, .unset, .unset, .unset, .unset, .unset, .unset, .unset, .unset, .unset, .unset, .unset, .unset, .unset] []) := by
    intro TT hT k lk nd an hk hkn hM0 hM1 hnode XT hzT N_t A_tm A_sr A_ub A_fd A_an ne_b1406_an ne_tm_an ne_sr_an ne_ub_an ne_fd_an
    refine g_aload XT C at_94 rfl rfl rfl ?_
    refine g_lconst (v := 0) XT C at_96 (by decide) rfl ?_
    refine g_ldcJ XT C (hw _ (List.mem_of_getElem? (i := 47) rfl)) at_97 rfl ?_
    refine g_aload XT C at_100 rfl rfl rfl ?_
    refine g_virtual (argsL := [(.long (0 : Int64)), (.long (10 : Int64)), (.ref an)]) (rest := []) (W := 0) (a := b1406) XT C (rmB l Z a0 hw b1406 (0 : Int64) (10 : Int64) an tm sr ub fd c5 c6 c7 c8 i1397 wv lw (0 : Int32) ((n + 63) / 64) k lk nd hT n0 hzT hwn hk (by omega) (by decide) (by decide) ga_b1406 ga_tm ga_sr ga_ub ne_b1406_tm ne_b1406_sr ne_b1406_ub ne_tm_sr ne_tm_ub ne_sr_ub N_t A_tm A_sr A_ub (own_mnz nd k _ (by omega) (hnode 0 (by omega))) hnode (NE.symm ne_b1406_an) (NE.symm ne_tm_an) (NE.symm ne_sr_an) (NE.symm ne_ub_an) A_an []) N_t.1 (hw _ (List.mem_of_getElem? (i := 48) rfl)) (hw _ (List.mem_of_getElem? (i := 49) rfl)) (hw _ (List.mem_of_getElem? (i := 51) rfl)) (hw _ (List.mem_of_getElem? (i := 50) rfl)) (hw _ (List.mem_of_getElem? (i := 2) rfl)) (hw _ (List.mem_of_getElem? (i := 52) rfl)) (by decide) pd_14 rfl rfl rfl rfl rfl (by decide) (by decide) (by decide) (by decide) at_102 rfl (fun r1418 T1415 h1417 hQ1419 X1416 => ?_)
    obtain ⟨rfl, KB, s0, b0, e0, s1, b1, e1, u0, hu0, lo_s0, lo_b0, lo_e0, lo_s1, lo_b1, lo_e1, O_t, N_tm, N_sr, N_ub, O_s0, O_s1, A_b0, A_e0, A_b1, A_e1⟩ := hQ1419
    have ne_b1406_s0 : NE b1406 s0 := lone N_t.lt lo_s0
    have ne_tm_s0 : NE tm s0 := lone A_tm.lt lo_s0
    have ne_sr_s0 : NE sr s0 := lone A_sr.lt lo_s0
    have ne_ub_s0 : NE ub s0 := lone A_ub.lt lo_s0
    have ne_fd_s0 : NE fd s0 := lone A_fd.lt lo_s0
    have ne_an_s0 : NE an s0 := lone A_an.lt lo_s0
    have ga_s0 : Lo n0 s0 := Lo.tr hzT lo_s0
    have ne_b1406_b0 : NE b1406 b0 := lone N_t.lt lo_b0
    have ne_tm_b0 : NE tm b0 := lone A_tm.lt lo_b0
    have ne_sr_b0 : NE sr b0 := lone A_sr.lt lo_b0
    have ne_ub_b0 : NE ub b0 := lone A_ub.lt lo_b0
    have ne_fd_b0 : NE fd b0 := lone A_fd.lt lo_b0
    have ne_an_b0 : NE an b0 := lone A_an.lt lo_b0
    have ga_b0 : Lo n0 b0 := Lo.tr hzT lo_b0
    have ne_b1406_e0 : NE b1406 e0 := lone N_t.lt lo_e0
    have ne_tm_e0 : NE tm e0 := lone A_tm.lt lo_e0
    have ne_sr_e0 : NE sr e0 := lone A_sr.lt lo_e0
    have ne_ub_e0 : NE ub e0 := lone A_ub.lt lo_e0
    have ne_fd_e0 : NE fd e0 := lone A_fd.lt lo_e0
    have ne_an_e0 : NE an e0 := lone A_an.lt lo_e0
    have ga_e0 : Lo n0 e0 := Lo.tr hzT lo_e0
    have ne_b1406_s1 : NE b1406 s1 := lone N_t.lt lo_s1
    have ne_tm_s1 : NE tm s1 := lone A_tm.lt lo_s1
    have ne_sr_s1 : NE sr s1 := lone A_sr.lt lo_s1
    have ne_ub_s1 : NE ub s1 := lone A_ub.lt lo_s1
    have ne_fd_s1 : NE fd s1 := lone A_fd.lt lo_s1
    have ne_an_s1 : NE an s1 := lone A_an.lt lo_s1
    have ga_s1 : Lo n0 s1 := Lo.tr hzT lo_s1
    have ne_b1406_b1 : NE b1406 b1 := lone N_t.lt lo_b1
    have ne_tm_b1 : NE tm b1 := lone A_tm.lt lo_b1
    have ne_sr_b1 : NE sr b1 := lone A_sr.lt lo_b1
    have ne_ub_b1 : NE ub b1 := lone A_ub.lt lo_b1
    have ne_fd_b1 : NE fd b1 := lone A_fd.lt lo_b1
    have ne_an_b1 : NE an b1 := lone A_an.lt lo_b1
    have ga_b1 : Lo n0 b1 := Lo.tr hzT lo_b1
    have ne_b1406_e1 : NE b1406 e1 := lone N_t.lt lo_e1
    have ne_tm_e1 : NE tm e1 := lone A_tm.lt lo_e1
    have ne_sr_e1 : NE sr e1 := lone A_sr.lt lo_e1
    have ne_ub_e1 : NE ub e1 := lone A_ub.lt lo_e1
    have ne_fd_e1 : NE fd e1 := lone A_fd.lt lo_e1
    have ne_an_e1 : NE an e1 := lone A_an.lt lo_e1
    have ga_e1 : Lo n0 e1 := Lo.tr hzT lo_e1
    have A_fd := A_fd.keep KB (ninN (NE.symm ne_b1406_fd) (ninN (NE.symm ne_tm_fd) (ninN (NE.symm ne_sr_fd) (ninN (NE.symm ne_ub_fd) nin0))))
    have A_an := A_an.keep KB (ninN (NE.symm ne_b1406_an) (ninN (NE.symm ne_tm_an) (ninN (NE.symm ne_sr_an) (ninN (NE.symm ne_ub_an) nin0))))
    have hz1420 : Lo n0 h1417.size := Lo.keep hzT KB
    show Go p e below RS T1415 (mkF m 105 #[.val (.int p1), .val (.int p2), .val (.int p3), .val (.long p4), .second, .val (.long p5), .second, .val (.int p6), .val (.int i1397), .val (.int i1398), .val (.int i1399), .val (.long j1400), .second, .val (.long j1401), .second, .val (.ref b1406), .val (.ref an), .unset, .unset, .unset, .unset, .unset, .unset, .unset, .unset, .unset, .unset, .unset, .unset, .unset, .unset, .unset, .unset, .unset, .unset, .unset, .unset, .unset] [])
    refine g_aload X1416 C at_105 rfl rfl rfl ?_
    refine g_lload X1416 C at_107 rfl rfl ?_
    refine g_lload X1416 C at_109 rfl rfl ?_
    have hgu : ∀ k, k < 2 → 0 ≤ ((fun k => if k = 0 then u0 else if k = 1 then i1397 else 0) k : Int32).toInt := own_all2 (by show 0 ≤ u0.toInt; omega) (by show 0 ≤ i1397.toInt; omega)
    refine g_virtual (argsL := [(.long j1400), (.long j1401)]) (rest := []) (W := 0) (a := b1406) X1416 C (rmFF l Z a0 hw b1406 j1400 j1401 tm sr ub fd c5 c6 c7 c8 i1397 wv lw (0 : Int32) ((n + 63) / 64) (fun k => if k = 1 then 10 else if k = 0 then 0 else 0) (fun q => own_m nd q k) (fun _ => 0) (fun k => if k = 1 then .ref s1 else if k = 0 then .ref s0 else .null) (fun k => if k = 0 then u0 else if k = 1 then i1397 else 0) s0 s1 b0 b1 e0 e1 h1417 n0 hz1420 hs3 hs4 hwn (by decide) (by decide) rfl rfl (by omega) hgu ga_b1406 ga_fd ne_b1406_fd ne_tm_fd ne_sr_fd ne_ub_fd (NE.symm ne_fd_s0) (NE.symm ne_fd_s1) (NE.symm ne_fd_b0) (NE.symm ne_fd_b1) (NE.symm ne_fd_e0) (NE.symm ne_fd_e1) (NE.symm ne_b1406_tm) (NE.symm ne_b1406_sr) (NE.symm ne_b1406_ub) (NE.symm ne_b1406_s0) (NE.symm ne_b1406_s1) (NE.symm ne_b1406_b0) (NE.symm ne_b1406_b1) (NE.symm ne_b1406_e0) (NE.symm ne_b1406_e1) O_t N_tm N_sr N_ub O_s0 O_s1 A_b0 A_e0 A_b1 A_e1 A_fd []) O_t.1 (hw _ (List.mem_of_getElem? (i := 125) rfl)) (hw _ (List.mem_of_getElem? (i := 126) rfl)) (hw _ (List.mem_of_getElem? (i := 128) rfl)) (hw _ (List.mem_of_getElem? (i := 127) rfl)) (hw _ (List.mem_of_getElem? (i := 2) rfl)) (hw _ (List.mem_of_getElem? (i := 129) rfl)) (by decide) pd_15 rfl rfl rfl rfl rfl (by decide) (by decide) (by decide) (by decide) at_111 rfl (fun r1424 T1421 h1423 hQ1425 X1422 => ?_)
    obtain ⟨rfl, KF, bl', gf', O_t, A_fd, HF⟩ := hQ1425
    have hz1426 : Lo n0 h1423.size := Lo.keep hz1420 KF
    show Go p e below RS T1421 (mkF m 114 #[.val (.int p1), .val (.int p2), .val (.int p3), .val (.long p4), .second, .val (.long p5), .second, .val (.int p6), .val (.int i1397), .val (.int i1398), .val (.int i1399), .val (.long j1400), .second, .val (.long j1401), .second, .val (.ref b1406), .val (.ref an), .unset, .unset, .unset, .unset, .unset, .unset, .unset, .unset, .unset, .unset, .unset, .unset, .unset, .unset, .unset, .unset, .unset, .unset, .unset, .unset, .unset] [])
    refine g_lload X1422 C at_114 rfl rfl ?_
    refine g_lconst (v := 0) X1422 C at_116 (by decide) rfl ?_
    refine g_lcmp X1422 C at_117 rfl ?_
    have J169_1427 : ∀ (i1427 : Int32) (_ : (j1401.toInt ≠ 0 ∧ 10 ≤ j1400.toInt ∧ i1427 = (0 : Int32) ∧ i1427.toInt = 0) ∨ (j1401.toInt ≠ 0 ∧ j1400.toInt < 10 ∧ (j1400 + j1401).toInt ≤ 0 ∧ i1427 = (0 : Int32) ∧ i1427.toInt = 0) ∨ (j1401.toInt ≠ 0 ∧ j1400.toInt < 10 ∧ 0 < (j1400 + j1401).toInt ∧ i1427 = (1 : Int32) ∧ i1427.toInt = 1) ∨ (j1401.toInt = 0 ∧ j1400.toInt ≤ 0 ∧ i1427 = (0 : Int32) ∧ i1427.toInt = 0) ∨ (j1401.toInt = 0 ∧ 0 < j1400.toInt ∧ 10 ≤ j1400.toInt ∧ i1427 = (0 : Int32) ∧ i1427.toInt = 0) ∨ (j1401.toInt = 0 ∧ 0 < j1400.toInt ∧ j1400.toInt < 10 ∧ i1427 = (1 : Int32) ∧ i1427.toInt = 1)), Go p e below RS T1421 (mkF m 169 #[.val (.int p1), .val (.int p2), .val (.int p3), .val (.long p4), .second, .val (.long p5), .second, .val (.int p6), .val (.int i1397), .val (.int i1398), .val (.int i1399), .val (.long j1400), .second, .val (.long j1401), .second, .val (.ref b1406), .val (.ref an), .unset, .unset, .unset, .unset, .unset, .unset, .unset, .unset, .unset, .unset, .unset, .unset, .unset, .unset, .unset, .unset, .unset, .unset, .unset, .unset, .unset] [(.int i1427)]) := by
      intro i1427 hJ169
      have hov : (i1427.toInt = 1 ∧ own_ov j1400.toInt j1401.toInt) ∨ (i1427.toInt = 0 ∧ ¬ own_ov j1400.toInt j1401.toInt) := by
        simp only [own_ov]; omega
      refine g_istore (L' := #[.val (.int p1), .val (.int p2), .val (.int p3), .val (.long p4), .second, .val (.long p5), .second, .val (.int p6), .val (.int i1397), .val (.int i1398), .val (.int i1399), .val (.long j1400), .second, .val (.long j1401), .second, .val (.ref b1406), .val (.ref an), .val (.int i1427), .unset, .unset, .unset, .unset, .unset, .unset, .unset, .unset, .unset, .unset, .unset, .unset, .unset, .unset, .unset, .unset, .unset, .unset, .unset, .unset]) X1422 C at_169 rfl rfl rfl ?_
      refine g_iload X1422 C at_171 rfl rfl ?_
      refine g_bipush (v := 64) X1422 C at_173 (by decide) rfl ?_
      have J190_1429 : ∀ (j1429 : Int64) (_ : (i1397.toInt < 64 ∧ j1429 = (((1 : Int64) <<< (i1397 &&& 0x3f).toInt64) - (1 : Int64))) ∨ (64 ≤ i1397.toInt ∧ j1429 = (-1 : Int64) ∧ j1429.toInt = (-1))), Go p e below RS T1421 (mkF m 190 #[.val (.int p1), .val (.int p2), .val (.int p3), .val (.long p4), .second, .val (.long p5), .second, .val (.int p6), .val (.int i1397), .val (.int i1398), .val (.int i1399), .val (.long j1400), .second, .val (.long j1401), .second, .val (.ref b1406), .val (.ref an), .val (.int i1427), .unset, .unset, .unset, .unset, .unset, .unset, .unset, .unset, .unset, .unset, .unset, .unset, .unset, .unset, .unset, .unset, .unset, .unset, .unset, .unset] [(.long j1429)]) := by
        intro j1429 hJ190
        have hv0 : (64 ≤ n ∧ j1429 = -1) ∨ (n < 64 ∧ j1429 = (1 : Int64) <<< (i1397 &&& 0x3f).toInt64 - 1) := by
          rcases hJ190 with ⟨q1, q2⟩ | ⟨q1, q2, _⟩
          · exact Or.inr ⟨by omega, q2⟩
          · exact Or.inl ⟨by omega, q2⟩
        refine g_lstore (L' := #[.val (.int p1), .val (.int p2), .val (.int p3), .val (.long p4), .second, .val (.long p5), .second, .val (.int p6), .val (.int i1397), .val (.int i1398), .val (.int i1399), .val (.long j1400), .second, .val (.long j1401), .second, .val (.ref b1406), .val (.ref an), .val (.int i1427), .val (.long j1429), .second, .unset, .unset, .unset, .unset, .unset, .unset, .unset, .unset, .unset, .unset, .unset, .unset, .unset, .unset, .unset, .unset, .unset, .unset]) X1422 C at_190 rfl rfl rfl ?_
        refine g_iload X1422 C at_192 rfl rfl ?_
        refine g_sipush (v := 128) X1422 C at_194 (by decide) rfl ?_
        have J226_1431 : ∀ (j1431 : Int64) (_ : (i1397.toInt < 128 ∧ i1397.toInt ≤ 64 ∧ j1431 = (0 : Int64) ∧ j1431.toInt = 0) ∨ (i1397.toInt < 128 ∧ 64 < i1397.toInt ∧ j1431 = (((1 : Int64) <<< ((i1397 - (64 : Int32)) &&& 0x3f).toInt64) - (1 : Int64))) ∨ (128 ≤ i1397.toInt ∧ j1431 = (-1 : Int64) ∧ j1431.toInt = (-1))), Go p e below RS T1421 (mkF m 226 #[.val (.int p1), .val (.int p2), .val (.int p3), .val (.long p4), .second, .val (.long p5), .second, .val (.int p6), .val (.int i1397), .val (.int i1398), .val (.int i1399), .val (.long j1400), .second, .val (.long j1401), .second, .val (.ref b1406), .val (.ref an), .val (.int i1427), .val (.long j1429), .second, .unset, .unset, .unset, .unset, .unset, .unset, .unset, .unset, .unset, .unset, .unset, .unset, .unset, .unset, .unset, .unset, .unset, .unset] [(.long j1431)]) := by
          intro j1431 hJ226
          have hv1 : 64 < n → (128 ≤ n ∧ j1431 = -1) ∨ (n < 128 ∧ j1431 = (1 : Int64) <<< ((i1397 - 64) &&& 0x3f).toInt64 - 1) := by
            intro h64; rcases hJ226 with ⟨q1, q2, q3⟩ | ⟨q1, q2, q3⟩ | ⟨q1, q2, _⟩
            · omega
            · exact Or.inr ⟨by omega, q3⟩
            · exact Or.inl ⟨by omega, q2⟩
          refine g_lstore (L' := #[.val (.int p1), .val (.int p2), .val (.int p3), .val (.long p4), .second, .val (.long p5), .second, .val (.int p6), .val (.int i1397), .val (.int i1398), .val (.int i1399), .val (.long j1400), .second, .val (.long j1401), .second, .val (.ref b1406), .val (.ref an), .val (.int i1427), .val (.long j1429), .second, .val (.long j1431), .second, .unset, .unset, .unset, .unset, .unset, .unset, .unset, .unset, .unset, .unset, .unset, .unset, .unset, .unset, .unset, .unset]) X1422 C at_226 rfl rfl rfl ?_
          refine g_iload X1422 C at_228 rfl rfl ?_
          refine g_if_eq (a := i1427.toInt) X1422 C at_230 rfl (by decide) (pT := 249) (by decide) (pF := 233) rfl (fun hc230 => ?_) (fun hc230 => ?_)
          ·
            refine g_lconst (v := 0) X1422 C at_249 (by decide) rfl ?_
            refine g_lstore (L' := #[.val (.int p1), .val (.int p2), .val (.int p3), .val (.long p4), .second, .val (.long p5), .second, .val (.int p6), .val (.int i1397), .val (.int i1398), .val (.int i1399), .val (.long j1400), .second, .val (.long j1401), .second, .val (.ref b1406), .val (.ref an), .val (.int i1427), .val (.long j1429), .second, .val (.long j1431), .second, .val (.long (0 : Int64)), .second, .unset, .unset, .unset, .unset, .unset, .unset, .unset, .unset, .unset, .unset, .unset, .unset, .unset, .unset]) X1422 C at_250 rfl rfl rfl ?_
            refine g_iload X1422 C at_252 rfl rfl ?_
            refine g_if_eq (a := i1427.toInt) X1422 C at_254 rfl (by decide) (pT := 273) (by decide) (pF := 257) rfl (fun hc254 => ?_) (fun hc254 => absurd hc254 (by omega))
            refine g_lconst (v := 0) X1422 C at_273 (by decide) rfl ?_
            refine g_lstore (L' := #[.val (.int p1), .val (.int p2), .val (.int p3), .val (.long p4), .second, .val (.long p5), .second, .val (.int p6), .val (.int i1397), .val (.int i1398), .val (.int i1399), .val (.long j1400), .second, .val (.long j1401), .second, .val (.ref b1406), .val (.ref an), .val (.int i1427), .val (.long j1429), .second, .val (.long j1431), .second, .val (.long (0 : Int64)), .second, .val (.long (0 : Int64)), .second, .unset, .unset, .unset, .unset, .unset, .unset, .unset, .unset, .unset, .unset, .unset, .unset]) X1422 C at_274 rfl rfl rfl ?_
            refine g_lload X1422 C at_276 rfl rfl ?_
            refine g_lload X1422 C at_278 rfl rfl ?_
            refine g_ldcJ X1422 C (hw _ (List.mem_of_getElem? (i := 160) rfl)) at_280 rfl ?_
            refine g_lxor X1422 C at_283 rfl ?_
            refine g_land X1422 C at_284 rfl ?_
            obtain ⟨j1433, h_j1433⟩ : ∃ z, z = (j1429 &&& ((0 : Int64) ^^^ (-1 : Int64))) := ⟨_, rfl⟩
            refine g_lstore (L' := #[.val (.int p1), .val (.int p2), .val (.int p3), .val (.long p4), .second, .val (.long p5), .second, .val (.int p6), .val (.int i1397), .val (.int i1398), .val (.int i1399), .val (.long j1400), .second, .val (.long j1401), .second, .val (.ref b1406), .val (.ref an), .val (.int i1427), .val (.long j1429), .second, .val (.long j1431), .second, .val (.long (0 : Int64)), .second, .val (.long (0 : Int64)), .second, .val (.long j1433), .second, .unset, .unset, .unset, .unset, .unset, .unset, .unset, .unset, .unset, .unset]) X1422 C at_285 h_j1433 rfl rfl ?_
            refine g_lload X1422 C at_287 rfl rfl ?_
            refine g_lload X1422 C at_289 rfl rfl ?_
            refine g_ldcJ X1422 C (hw _ (List.mem_of_getElem? (i := 160) rfl)) at_291 rfl ?_
            refine g_lxor X1422 C at_294 rfl ?_
            refine g_land X1422 C at_295 rfl ?_
            obtain ⟨j1434, h_j1434⟩ : ∃ z, z = (j1431 &&& ((0 : Int64) ^^^ (-1 : Int64))) := ⟨_, rfl⟩
            refine g_lstore (L' := #[.val (.int p1), .val (.int p2), .val (.int p3), .val (.long p4), .second, .val (.long p5), .second, .val (.int p6), .val (.int i1397), .val (.int i1398), .val (.int i1399), .val (.long j1400), .second, .val (.long j1401), .second, .val (.ref b1406), .val (.ref an), .val (.int i1427), .val (.long j1429), .second, .val (.long j1431), .second, .val (.long (0 : Int64)), .second, .val (.long (0 : Int64)), .second, .val (.long j1433), .second, .val (.long j1434), .second, .unset, .unset, .unset, .unset, .unset, .unset, .unset, .unset]) X1422 C at_296 h_j1434 rfl rfl ?_
            have hnw : ((n + 63) / 64 : Nat) = (n + 63) / 64 := rfl
            have hfr0 : gf' 0 = j1433 := by
              rcases HF with ⟨q1, q2⟩ | ⟨q1, q2⟩
              · exact absurd q1 (Or.elim hov (fun q => absurd q.1 (by omega)) (fun q => q.2))
              · rw [q2 0 (by omega), own_fr0 n _ i1397 hn hn1 hn128 rfl lw j1429 hlw hv0, h_j1433]
            have hfr1 : 64 < n → gf' 1 = j1434 := by
              intro h64
              rcases HF with ⟨q1, q2⟩ | ⟨q1, q2⟩
              · exact absurd q1 (Or.elim hov (fun q => absurd q.1 (by omega)) (fun q => q.2))
              · rw [q2 1 (by omega), own_fr1 n _ i1397 hn hn128 rfl h64 lw j1431 hlw (hv1 h64), h_j1434]
            refine g_iload X1422 C at_298 rfl rfl ?_
            refine g_iconst (v := 1) X1422 C at_300 (by decide) rfl ?_
            refine g_iand X1422 C at_301 rfl ?_
            have J310_1435 : ∀ (i1435 : Int32) (_ : ((p6 &&& (1 : Int32)).toInt = 0 ∧ i1435 = (0 : Int32) ∧ i1435.toInt = 0) ∨ ((p6 &&& (1 : Int32)).toInt ≠ 0 ∧ i1435 = (1 : Int32) ∧ i1435.toInt = 1)), Go p e below RS T1421 (mkF m 310 #[.val (.int p1), .val (.int p2), .val (.int p3), .val (.long p4), .second, .val (.long p5), .second, .val (.int p6), .val (.int i1397), .val (.int i1398), .val (.int i1399), .val (.long j1400), .second, .val (.long j1401), .second, .val (.ref b1406), .val (.ref an), .val (.int i1427), .val (.long j1429), .second, .val (.long j1431), .second, .val (.long (0 : Int64)), .second, .val (.long (0 : Int64)), .second, .val (.long j1433), .second, .val (.long j1434), .second, .unset, .unset, .unset, .unset, .unset, .unset, .unset, .unset] [(.int i1435)]) := by
              intro i1435 hJ310
              refine g_istore (L' := #[.val (.int p1), .val (.int p2), .val (.int p3), .val (.long p4), .second, .val (.long p5), .second, .val (.int p6), .val (.int i1397), .val (.int i1398), .val (.int i1399), .val (.long j1400), .second, .val (.long j1401), .second, .val (.ref b1406), .val (.ref an), .val (.int i1427), .val (.long j1429), .second, .val (.long j1431), .second, .val (.long (0 : Int64)), .second, .val (.long (0 : Int64)), .second, .val (.long j1433), .second, .val (.long j1434), .second, .val (.int i1435), .unset, .unset, .unset, .unset, .unset, .unset, .unset]) X1422 C at_310 rfl rfl rfl ?_
              refine g_iload X1422 C at_312 rfl rfl ?_
              refine g_iconst (v := 2) X1422 C at_314 (by decide) rfl ?_
              refine g_iand X1422 C at_315 rfl ?_
              have J324_1437 : ∀ (i1437 : Int32) (_ : ((p6 &&& (2 : Int32)).toInt = 0 ∧ i1437 = (0 : Int32) ∧ i1437.toInt = 0) ∨ ((p6 &&& (2 : Int32)).toInt ≠ 0 ∧ i1437 = (1 : Int32) ∧ i1437.toInt = 1)), Go p e below RS T1421 (mkF m 324 #[.val (.int p1), .val (.int p2), .val (.int p3), .val (.long p4), .second, .val (.long p5), .second, .val (.int p6), .val (.int i1397), .val (.int i1398), .val (.int i1399), .val (.long j1400), .second, .val (.long j1401), .second, .val (.ref b1406), .val (.ref an), .val (.int i1427), .val (.long j1429), .second, .val (.long j1431), .second, .val (.long (0 : Int64)), .second, .val (.long (0 : Int64)), .second, .val (.long j1433), .second, .val (.long j1434), .second, .val (.int i1435), .unset, .unset, .unset, .unset, .unset, .unset, .unset] [(.int i1437)]) := by
                intro i1437 hJ324
                refine g_istore (L' := #[.val (.int p1), .val (.int p2), .val (.int p3), .val (.long p4), .second, .val (.long p5), .second, .val (.int p6), .val (.int i1397), .val (.int i1398), .val (.int i1399), .val (.long j1400), .second, .val (.long j1401), .second, .val (.ref b1406), .val (.ref an), .val (.int i1427), .val (.long j1429), .second, .val (.long j1431), .second, .val (.long (0 : Int64)), .second, .val (.long (0 : Int64)), .second, .val (.long j1433), .second, .val (.long j1434), .second, .val (.int i1435), .val (.int i1437), .unset, .unset, .unset, .unset, .unset, .unset]) X1422 C at_324 rfl rfl rfl ?_
                refine g_iload X1422 C at_326 rfl rfl ?_
                have J339_1439 : ∀ (j1439 : Int64) (_ : (i1435.toInt = 0 ∧ j1439 = p4) ∨ (i1435.toInt ≠ 0 ∧ j1439 = (p4 &&& j1433))), Go p e below RS T1421 (mkF m 339 #[.val (.int p1), .val (.int p2), .val (.int p3), .val (.long p4), .second, .val (.long p5), .second, .val (.int p6), .val (.int i1397), .val (.int i1398), .val (.int i1399), .val (.long j1400), .second, .val (.long j1401), .second, .val (.ref b1406), .val (.ref an), .val (.int i1427), .val (.long j1429), .second, .val (.long j1431), .second, .val (.long (0 : Int64)), .second, .val (.long (0 : Int64)), .second, .val (.long j1433), .second, .val (.long j1434), .second, .val (.int i1435), .val (.int i1437), .unset, .unset, .unset, .unset, .unset, .unset] [(.long j1439)]) := by
                  intro j1439 hJ339
                  refine g_lstore (L' := #[.val (.int p1), .val (.int p2), .val (.int p3), .val (.long p4), .second, .val (.long p5), .second, .val (.int p6), .val (.int i1397), .val (.int i1398), .val (.int i1399), .val (.long j1400), .second, .val (.long j1401), .second, .val (.ref b1406), .val (.ref an), .val (.int i1427), .val (.long j1429), .second, .val (.long j1431), .second, .val (.long (0 : Int64)), .second, .val (.long (0 : Int64)), .second, .val (.long j1433), .second, .val (.long j1434), .second, .val (.int i1435), .val (.int i1437), .val (.long j1439), .second, .unset, .unset, .unset, .unset]) X1422 C at_339 rfl rfl rfl ?_
                  refine g_iload X1422 C at_341 rfl rfl ?_
                  have J356_1441 : ∀ (j1441 : Int64) (_ : (i1435.toInt = 0 ∧ j1441 = p5) ∨ (i1435.toInt ≠ 0 ∧ j1441 = (p5 &&& j1434))), Go p e below RS T1421 (mkF m 356 #[.val (.int p1), .val (.int p2), .val (.int p3), .val (.long p4), .second, .val (.long p5), .second, .val (.int p6), .val (.int i1397), .val (.int i1398), .val (.int i1399), .val (.long j1400), .second, .val (.long j1401), .second, .val (.ref b1406), .val (.ref an), .val (.int i1427), .val (.long j1429), .second, .val (.long j1431), .second, .val (.long (0 : Int64)), .second, .val (.long (0 : Int64)), .second, .val (.long j1433), .second, .val (.long j1434), .second, .val (.int i1435), .val (.int i1437), .val (.long j1439), .second, .unset, .unset, .unset, .unset] [(.long j1441)]) := by
                    intro j1441 hJ356
                    refine g_lstore (L' := #[.val (.int p1), .val (.int p2), .val (.int p3), .val (.long p4), .second, .val (.long p5), .second, .val (.int p6), .val (.int i1397), .val (.int i1398), .val (.int i1399), .val (.long j1400), .second, .val (.long j1401), .second, .val (.ref b1406), .val (.ref an), .val (.int i1427), .val (.long j1429), .second, .val (.long j1431), .second, .val (.long (0 : Int64)), .second, .val (.long (0 : Int64)), .second, .val (.long j1433), .second, .val (.long j1434), .second, .val (.int i1435), .val (.int i1437), .val (.long j1439), .second, .val (.long j1441), .second, .unset, .unset]) X1422 C at_356 rfl rfl rfl ?_
                    refine g_iload X1422 C at_358 rfl rfl ?_
                    refine g_if_eq (a := i1437.toInt) X1422 C at_360 rfl (by decide) (pT := 385) (by decide) (pF := 363) rfl (fun hc360 => ?_) (fun hc360 => ?_)
                    ·
                      refine g_iconst (v := 2) X1422 C at_385 (by decide) rfl ?_
                      refine g_newarr (n := 2) (cap := 2) X1422 C (hw _ (List.mem_of_getElem? (i := 9) rfl)) (by decide) (by decide) (by decide) (by decide) (by decide) at_386 rfl (fun T1443 h1445 b1447 hb1448 X1444 A_b1447 K1446 => ?_)
                      have A_b1447 : Ar Z h1445 b1447 .long 2 (fun _ => .long 0) := A_b1447
                      have ne_b1406_b1447 : NE b1406 b1447 := hb1448.ne O_t.lt
                      have ne_fd_b1447 : NE fd b1447 := hb1448.ne A_fd.lt
                      have ga_b1447 : Lo n0 b1447 := Sz.lo hb1448 hz1426
                      have O_t := O_t.keep K1446 nin0
                      have A_fd := A_fd.keep K1446 nin0
                      have hz1449 : Lo n0 h1445.size := Lo.keep hz1426 K1446
                      refine g_dup X1444 C at_388 rfl rfl ?_
                      refine g_iconst (v := 0) X1444 C at_389 (by decide) rfl ?_
                      refine g_lload X1444 C at_390 rfl rfl ?_
                      refine g_lastore (i := 0) X1444 C A_b1447 (by decide) (by decide) ga_b1447 at_392 rfl (fun T1450 h1452 X1451 A_b1447 K1453 => ?_)
                      have O_t := O_t.keep K1453 (ninN ne_b1406_b1447 nin0)
                      have A_fd := A_fd.keep K1453 (ninN ne_fd_b1447 nin0)
                      have hz1454 : Lo n0 h1452.size := Lo.keep hz1449 K1453
                      refine g_dup X1451 C at_393 rfl rfl ?_
                      refine g_iconst (v := 1) X1451 C at_394 (by decide) rfl ?_
                      refine g_lload X1451 C at_395 rfl rfl ?_
                      refine g_lastore (i := 1) X1451 C A_b1447 (by decide) (by decide) ga_b1447 at_397 rfl (fun T1455 h1457 X1456 A_b1447 K1458 => ?_)
                      have O_t := O_t.keep K1458 (ninN ne_b1406_b1447 nin0)
                      have A_fd := A_fd.keep K1458 (ninN ne_fd_b1447 nin0)
                      have hz1459 : Lo n0 h1457.size := Lo.keep hz1454 K1458
                      refine g_astore (L' := #[.val (.int p1), .val (.int p2), .val (.int p3), .val (.long p4), .second, .val (.long p5), .second, .val (.int p6), .val (.int i1397), .val (.int i1398), .val (.int i1399), .val (.long j1400), .second, .val (.long j1401), .second, .val (.ref b1406), .val (.ref an), .val (.int i1427), .val (.long j1429), .second, .val (.long j1431), .second, .val (.long (0 : Int64)), .second, .val (.long (0 : Int64)), .second, .val (.long j1433), .second, .val (.long j1434), .second, .val (.int i1435), .val (.int i1437), .val (.long j1439), .second, .val (.long j1441), .second, .val (.ref b1447), .unset]) X1456 C at_398 rfl rfl rfl ?_
                      refine g_lload X1456 C at_400 rfl rfl ?_
                      refine g_lload X1456 C at_402 rfl rfl ?_
                      refine g_ldcJ X1456 C (hw _ (List.mem_of_getElem? (i := 160) rfl)) at_404 rfl ?_
                      refine g_lxor X1456 C at_407 rfl ?_
                      refine g_land X1456 C at_408 rfl ?_
                      refine g_lconst (v := 0) X1456 C at_409 (by decide) rfl ?_
                      refine g_lcmp X1456 C at_410 rfl ?_
                      have J440_1460 : ∀ (i1460 : Int32) (_ : ((j1439 &&& (j1433 ^^^ (-1 : Int64))).toInt ≠ 0 ∧ i1460 = (0 : Int32) ∧ i1460.toInt = 0) ∨ ((j1439 &&& (j1433 ^^^ (-1 : Int64))).toInt = 0 ∧ i1397.toInt ≤ 64 ∧ i1460 = (1 : Int32) ∧ i1460.toInt = 1) ∨ ((j1439 &&& (j1433 ^^^ (-1 : Int64))).toInt = 0 ∧ 64 < i1397.toInt ∧ (j1441 &&& (j1434 ^^^ (-1 : Int64))).toInt ≠ 0 ∧ i1460 = (0 : Int32) ∧ i1460.toInt = 0) ∨ ((j1439 &&& (j1433 ^^^ (-1 : Int64))).toInt = 0 ∧ 64 < i1397.toInt ∧ (j1441 &&& (j1434 ^^^ (-1 : Int64))).toInt = 0 ∧ i1460 = (1 : Int32) ∧ i1460.toInt = 1)), Go p e below RS T1455 (mkF m 440 #[.val (.int p1), .val (.int p2), .val (.int p3), .val (.long p4), .second, .val (.long p5), .second, .val (.int p6), .val (.int i1397), .val (.int i1398), .val (.int i1399), .val (.long j1400), .second, .val (.long j1401), .second, .val (.ref b1406), .val (.ref an), .val (.int i1427), .val (.long j1429), .second, .val (.long j1431), .second, .val (.long (0 : Int64)), .second, .val (.long (0 : Int64)), .second, .val (.long j1433), .second, .val (.long j1434), .second, .val (.int i1435), .val (.int i1437), .val (.long j1439), .second, .val (.long j1441), .second, .val (.ref b1447), .unset] [(.int i1460)]) := by
                        intro i1460 hJ440
                        have hex : (i1460.toInt = 1 ↔ ((j1439 &&& (j1433 ^^^ (-1))).toInt = 0 ∧ (n ≤ 64 ∨ (j1441 &&& (j1434 ^^^ (-1))).toInt = 0))) ∧ (i1460.toInt = 0 ∨ i1460.toInt = 1) := by
                          omega
                        refine g_istore (L' := #[.val (.int p1), .val (.int p2), .val (.int p3), .val (.long p4), .second, .val (.long p5), .second, .val (.int p6), .val (.int i1397), .val (.int i1398), .val (.int i1399), .val (.long j1400), .second, .val (.long j1401), .second, .val (.ref b1406), .val (.ref an), .val (.int i1427), .val (.long j1429), .second, .val (.long j1431), .second, .val (.long (0 : Int64)), .second, .val (.long (0 : Int64)), .second, .val (.long j1433), .second, .val (.long j1434), .second, .val (.int i1435), .val (.int i1437), .val (.long j1439), .second, .val (.long j1441), .second, .val (.ref b1447), .val (.int i1460)]) X1456 C at_440 rfl rfl rfl ?_
                        refine g_aload X1456 C at_442 rfl rfl rfl ?_
                        refine g_aload X1456 C at_444 rfl rfl rfl ?_
                        refine g_virtual (argsL := [(.ref b1447)]) (rest := []) (W := 0) (a := b1406) X1456 C (rmHF l Z a0 hw b1406 b1447 tm sr ub fd c5 c6 c7 c8 i1397 wv lw bl' (2 : Int32) ((n + 63) / 64) (fun k => if k = 1 then j1441 else (fun k => if k = 0 then j1439 else (fun _ => 0) k) k) gf' h1457 n0 hz1459 hwn O_t A_b1447 A_fd []) O_t.1 (hw _ (List.mem_of_getElem? (i := 165) rfl)) (hw _ (List.mem_of_getElem? (i := 166) rfl)) (hw _ (List.mem_of_getElem? (i := 168) rfl)) (hw _ (List.mem_of_getElem? (i := 167) rfl)) (hw _ (List.mem_of_getElem? (i := 2) rfl)) (hw _ (List.mem_of_getElem? (i := 169) rfl)) (by decide) pd_2 rfl rfl rfl rfl rfl (by decide) (by decide) (by decide) (by decide) at_446 rfl (fun r1465 T1462 h1464 hQ1466 X1463 => ?_)
                        obtain ⟨rh, rfl, hh, hr⟩ := hQ1466; rw [hh] at X1463
                        have hrr := own_fin n _ hn1 hn128 rfl j1439 j1441 j1433 j1434 gf' _ rfl rfl hfr0 hfr1 rh i1460 hr hex
                        show Go p e below RS T1462 (mkF m 449 #[.val (.int p1), .val (.int p2), .val (.int p3), .val (.long p4), .second, .val (.long p5), .second, .val (.int p6), .val (.int i1397), .val (.int i1398), .val (.int i1399), .val (.long j1400), .second, .val (.long j1401), .second, .val (.ref b1406), .val (.ref an), .val (.int i1427), .val (.long j1429), .second, .val (.long j1431), .second, .val (.long (0 : Int64)), .second, .val (.long (0 : Int64)), .second, .val (.long j1433), .second, .val (.long j1434), .second, .val (.int i1435), .val (.int i1437), .val (.long j1439), .second, .val (.long j1441), .second, .val (.ref b1447), .val (.int i1460)] [(.int rh)])
                        refine g_iload X1463 C at_449 rfl rfl ?_
                        refine g_icmp_ne (a := rh.toInt) (b := i1460.toInt) X1463 C at_451 rfl rfl (by decide) (pT := 458) (by decide) (pF := 454) rfl (fun hc451 => absurd hc451 (by omega)) (fun hc451 => ?_)
                        refine g_iconst (v := 1) X1463 C at_454 (by decide) rfl ?_
                        refine g_goto (pc' := 459) X1463 C at_455 (by decide) (by decide) ?_
                        rw [hRS]
                        refine g_retZ X1463 C at_459 ?_ (by decide) (by decide)
                        exact rfl
                      refine g_lif_ne (a := (j1439 &&& (j1433 ^^^ (-1 : Int64))).toInt) (b := 0) X1456 C at_411 rfl (by decide) (by decide) (pT := 439) (by decide) (pF := 414) rfl (fun hc411 => ?_) (fun hc411 => ?_)
                      ·
                        refine g_iconst (v := 0) X1456 C at_439 (by decide) rfl ?_
                        exact J440_1460 (0 : Int32) (Or.inl (⟨hc411, rfl, by decide⟩))
                      ·
                        refine g_iload X1456 C at_414 rfl rfl ?_
                        refine g_bipush (v := 64) X1456 C at_416 (by decide) rfl ?_
                        refine g_icmp_le (a := i1397.toInt) (b := 64) X1456 C at_418 rfl (by decide) (by decide) (pT := 435) (by decide) (pF := 421) rfl (fun hc418 => ?_) (fun hc418 => ?_)
                        ·
                          refine g_iconst (v := 1) X1456 C at_435 (by decide) rfl ?_
                          refine g_goto (pc' := 440) X1456 C at_436 (by decide) (by decide) ?_
                          exact J440_1460 (1 : Int32) (Or.inr (Or.inl (⟨hc411, hc418, rfl, by decide⟩)))
                        ·
                          refine g_lload X1456 C at_421 rfl rfl ?_
                          refine g_lload X1456 C at_423 rfl rfl ?_
                          refine g_ldcJ X1456 C (hw _ (List.mem_of_getElem? (i := 160) rfl)) at_425 rfl ?_
                          refine g_lxor X1456 C at_428 rfl ?_
                          refine g_land X1456 C at_429 rfl ?_
                          refine g_lconst (v := 0) X1456 C at_430 (by decide) rfl ?_
                          refine g_lcmp X1456 C at_431 rfl ?_
                          refine g_lif_ne (a := (j1441 &&& (j1434 ^^^ (-1 : Int64))).toInt) (b := 0) X1456 C at_432 rfl (by decide) (by decide) (pT := 439) (by decide) (pF := 435) rfl (fun hc432 => ?_) (fun hc432 => ?_)
                          ·
                            refine g_iconst (v := 0) X1456 C at_439 (by decide) rfl ?_
                            exact J440_1460 (0 : Int32) (Or.inr (Or.inr (Or.inl (⟨hc411, hc418, hc432, rfl, by decide⟩))))
                          ·
                            refine g_iconst (v := 1) X1456 C at_435 (by decide) rfl ?_
                            refine g_goto (pc' := 440) X1456 C at_436 (by decide) (by decide) ?_
                            exact J440_1460 (1 : Int32) (Or.inr (Or.inr (Or.inr (⟨hc411, hc418, hc432, rfl, by decide⟩))))
                    ·
                      refine g_lload X1422 C at_363 rfl rfl ?_
                      refine g_iload X1422 C at_365 rfl rfl ?_
                      refine g_iconst (v := 0) X1422 C at_367 (by decide) rfl ?_
                      refine g_static (argsL := [(.int i1398), (.int (0 : Int32))]) (rest := [(.long j1439)]) (W := 2) X1422 C (rmBit l Z a0 hw i1398 (0 : Int32) h1423 n0 hz1426 []) (hw _ (List.mem_of_getElem? (i := 161) rfl)) (hw _ (List.mem_of_getElem? (i := 162) rfl)) (hw _ (List.mem_of_getElem? (i := 163) rfl)) (hw _ (List.mem_of_getElem? (i := 164) rfl)) (by decide) pd_16 rfl rfl rfl rfl rfl (by decide) (by decide) (by decide) (by decide) at_368 rfl (fun r1470 T1467 h1469 hQ1471 X1468 => ?_)
                      obtain ⟨rfl, hh⟩ := hQ1471; rw [hh] at X1468
                      show Go p e below RS T1467 (mkF m 371 #[.val (.int p1), .val (.int p2), .val (.int p3), .val (.long p4), .second, .val (.long p5), .second, .val (.int p6), .val (.int i1397), .val (.int i1398), .val (.int i1399), .val (.long j1400), .second, .val (.long j1401), .second, .val (.ref b1406), .val (.ref an), .val (.int i1427), .val (.long j1429), .second, .val (.long j1431), .second, .val (.long (0 : Int64)), .second, .val (.long (0 : Int64)), .second, .val (.long j1433), .second, .val (.long j1434), .second, .val (.int i1435), .val (.int i1437), .val (.long j1439), .second, .val (.long j1441), .second, .unset, .unset] [(.long (own_bit i1398 (0 : Int32))), (.long j1439)])
                      refine g_lor X1468 C at_371 rfl ?_
                      obtain ⟨j1472, h_j1472⟩ : ∃ z, z = (j1439 ||| (own_bit i1398 (0 : Int32))) := ⟨_, rfl⟩
                      refine g_lstore (L' := #[.val (.int p1), .val (.int p2), .val (.int p3), .val (.long p4), .second, .val (.long p5), .second, .val (.int p6), .val (.int i1397), .val (.int i1398), .val (.int i1399), .val (.long j1400), .second, .val (.long j1401), .second, .val (.ref b1406), .val (.ref an), .val (.int i1427), .val (.long j1429), .second, .val (.long j1431), .second, .val (.long (0 : Int64)), .second, .val (.long (0 : Int64)), .second, .val (.long j1433), .second, .val (.long j1434), .second, .val (.int i1435), .val (.int i1437), .val (.long j1472), .second, .val (.long j1441), .second, .unset, .unset]) X1468 C at_372 h_j1472 rfl rfl ?_
                      refine g_lload X1468 C at_374 rfl rfl ?_
                      refine g_iload X1468 C at_376 rfl rfl ?_
                      refine g_iconst (v := 1) X1468 C at_378 (by decide) rfl ?_
                      refine g_static (argsL := [(.int i1398), (.int (1 : Int32))]) (rest := [(.long j1441)]) (W := 2) X1468 C (rmBit l Z a0 hw i1398 (1 : Int32) h1423 n0 hz1426 []) (hw _ (List.mem_of_getElem? (i := 161) rfl)) (hw _ (List.mem_of_getElem? (i := 162) rfl)) (hw _ (List.mem_of_getElem? (i := 163) rfl)) (hw _ (List.mem_of_getElem? (i := 164) rfl)) (by decide) pd_16 rfl rfl rfl rfl rfl (by decide) (by decide) (by decide) (by decide) at_379 rfl (fun r1476 T1473 h1475 hQ1477 X1474 => ?_)
                      obtain ⟨rfl, hh⟩ := hQ1477; rw [hh] at X1474
                      show Go p e below RS T1473 (mkF m 382 #[.val (.int p1), .val (.int p2), .val (.int p3), .val (.long p4), .second, .val (.long p5), .second, .val (.int p6), .val (.int i1397), .val (.int i1398), .val (.int i1399), .val (.long j1400), .second, .val (.long j1401), .second, .val (.ref b1406), .val (.ref an), .val (.int i1427), .val (.long j1429), .second, .val (.long j1431), .second, .val (.long (0 : Int64)), .second, .val (.long (0 : Int64)), .second, .val (.long j1433), .second, .val (.long j1434), .second, .val (.int i1435), .val (.int i1437), .val (.long j1472), .second, .val (.long j1441), .second, .unset, .unset] [(.long (own_bit i1398 (1 : Int32))), (.long j1441)])
                      refine g_lor X1474 C at_382 rfl ?_
                      obtain ⟨j1478, h_j1478⟩ : ∃ z, z = (j1441 ||| (own_bit i1398 (1 : Int32))) := ⟨_, rfl⟩
                      refine g_lstore (L' := #[.val (.int p1), .val (.int p2), .val (.int p3), .val (.long p4), .second, .val (.long p5), .second, .val (.int p6), .val (.int i1397), .val (.int i1398), .val (.int i1399), .val (.long j1400), .second, .val (.long j1401), .second, .val (.ref b1406), .val (.ref an), .val (.int i1427), .val (.long j1429), .second, .val (.long j1431), .second, .val (.long (0 : Int64)), .second, .val (.long (0 : Int64)), .second, .val (.long j1433), .second, .val (.long j1434), .second, .val (.int i1435), .val (.int i1437), .val (.long j1472), .second, .val (.long j1478), .second, .unset, .unset]) X1474 C at_383 h_j1478 rfl rfl ?_
                      refine g_iconst (v := 2) X1474 C at_385 (by decide) rfl ?_
                      refine g_newarr (n := 2) (cap := 2) X1474 C (hw _ (List.mem_of_getElem? (i := 9) rfl)) (by decide) (by decide) (by decide) (by decide) (by decide) at_386 rfl (fun T1479 h1481 b1483 hb1484 X1480 A_b1483 K1482 => ?_)
                      have A_b1483 : Ar Z h1481 b1483 .long 2 (fun _ => .long 0) := A_b1483
                      have ne_b1406_b1483 : NE b1406 b1483 := hb1484.ne O_t.lt
                      have ne_fd_b1483 : NE fd b1483 := hb1484.ne A_fd.lt
                      have ga_b1483 : Lo n0 b1483 := Sz.lo hb1484 hz1426
                      have O_t := O_t.keep K1482 nin0
                      have A_fd := A_fd.keep K1482 nin0
                      have hz1485 : Lo n0 h1481.size := Lo.keep hz1426 K1482
                      refine g_dup X1480 C at_388 rfl rfl ?_
                      refine g_iconst (v := 0) X1480 C at_389 (by decide) rfl ?_
                      refine g_lload X1480 C at_390 rfl rfl ?_
                      refine g_lastore (i := 0) X1480 C A_b1483 (by decide) (by decide) ga_b1483 at_392 rfl (fun T1486 h1488 X1487 A_b1483 K1489 => ?_)
                      have O_t := O_t.keep K1489 (ninN ne_b1406_b1483 nin0)
                      have A_fd := A_fd.keep K1489 (ninN ne_fd_b1483 nin0)
                      have hz1490 : Lo n0 h1488.size := Lo.keep hz1485 K1489
                      refine g_dup X1487 C at_393 rfl rfl ?_
                      refine g_iconst (v := 1) X1487 C at_394 (by decide) rfl ?_
                      refine g_lload X1487 C at_395 rfl rfl ?_
                      refine g_lastore (i := 1) X1487 C A_b1483 (by decide) (by decide) ga_b1483 at_397 rfl (fun T1491 h1493 X1492 A_b1483 K1494 => ?_)
                      have O_t := O_t.keep K1494 (ninN ne_b1406_b1483 nin0)
                      have A_fd := A_fd.keep K1494 (ninN ne_fd_b1483 nin0)
                      have hz1495 : Lo n0 h1493.size := Lo.keep hz1490 K1494
                      refine g_astore (L' := #[.val (.int p1), .val (.int p2), .val (.int p3), .val (.long p4), .second, .val (.long p5), .second, .val (.int p6), .val (.int i1397), .val (.int i1398), .val (.int i1399), .val (.long j1400), .second, .val (.long j1401), .second, .val (.ref b1406), .val (.ref an), .val (.int i1427), .val (.long j1429), .second, .val (.long j1431), .second, .val (.long (0 : Int64)), .second, .val (.long (0 : Int64)), .second, .val (.long j1433), .second, .val (.long j1434), .second, .val (.int i1435), .val (.int i1437), .val (.long j1472), .second, .val (.long j1478), .second, .val (.ref b1483), .unset]) X1492 C at_398 rfl rfl rfl ?_
                      refine g_lload X1492 C at_400 rfl rfl ?_
                      refine g_lload X1492 C at_402 rfl rfl ?_
                      refine g_ldcJ X1492 C (hw _ (List.mem_of_getElem? (i := 160) rfl)) at_404 rfl ?_
                      refine g_lxor X1492 C at_407 rfl ?_
                      refine g_land X1492 C at_408 rfl ?_
                      refine g_lconst (v := 0) X1492 C at_409 (by decide) rfl ?_
                      refine g_lcmp X1492 C at_410 rfl ?_
                      have J440_1496 : ∀ (i1496 : Int32) (_ : ((j1472 &&& (j1433 ^^^ (-1 : Int64))).toInt ≠ 0 ∧ i1496 = (0 : Int32) ∧ i1496.toInt = 0) ∨ ((j1472 &&& (j1433 ^^^ (-1 : Int64))).toInt = 0 ∧ i1397.toInt ≤ 64 ∧ i1496 = (1 : Int32) ∧ i1496.toInt = 1) ∨ ((j1472 &&& (j1433 ^^^ (-1 : Int64))).toInt = 0 ∧ 64 < i1397.toInt ∧ (j1478 &&& (j1434 ^^^ (-1 : Int64))).toInt ≠ 0 ∧ i1496 = (0 : Int32) ∧ i1496.toInt = 0) ∨ ((j1472 &&& (j1433 ^^^ (-1 : Int64))).toInt = 0 ∧ 64 < i1397.toInt ∧ (j1478 &&& (j1434 ^^^ (-1 : Int64))).toInt = 0 ∧ i1496 = (1 : Int32) ∧ i1496.toInt = 1)), Go p e below RS T1491 (mkF m 440 #[.val (.int p1), .val (.int p2), .val (.int p3), .val (.long p4), .second, .val (.long p5), .second, .val (.int p6), .val (.int i1397), .val (.int i1398), .val (.int i1399), .val (.long j1400), .second, .val (.long j1401), .second, .val (.ref b1406), .val (.ref an), .val (.int i1427), .val (.long j1429), .second, .val (.long j1431), .second, .val (.long (0 : Int64)), .second, .val (.long (0 : Int64)), .second, .val (.long j1433), .second, .val (.long j1434), .second, .val (.int i1435), .val (.int i1437), .val (.long j1472), .second, .val (.long j1478), .second, .val (.ref b1483), .unset] [(.int i1496)]) := by
                        intro i1496 hJ440
                        have hex : (i1496.toInt = 1 ↔ ((j1472 &&& (j1433 ^^^ (-1))).toInt = 0 ∧ (n ≤ 64 ∨ (j1478 &&& (j1434 ^^^ (-1))).toInt = 0))) ∧ (i1496.toInt = 0 ∨ i1496.toInt = 1) := by
                          omega
                        refine g_istore (L' := #[.val (.int p1), .val (.int p2), .val (.int p3), .val (.long p4), .second, .val (.long p5), .second, .val (.int p6), .val (.int i1397), .val (.int i1398), .val (.int i1399), .val (.long j1400), .second, .val (.long j1401), .second, .val (.ref b1406), .val (.ref an), .val (.int i1427), .val (.long j1429), .second, .val (.long j1431), .second, .val (.long (0 : Int64)), .second, .val (.long (0 : Int64)), .second, .val (.long j1433), .second, .val (.long j1434), .second, .val (.int i1435), .val (.int i1437), .val (.long j1472), .second, .val (.long j1478), .second, .val (.ref b1483), .val (.int i1496)]) X1492 C at_440 rfl rfl rfl ?_
                        refine g_aload X1492 C at_442 rfl rfl rfl ?_
                        refine g_aload X1492 C at_444 rfl rfl rfl ?_
                        refine g_virtual (argsL := [(.ref b1483)]) (rest := []) (W := 0) (a := b1406) X1492 C (rmHF l Z a0 hw b1406 b1483 tm sr ub fd c5 c6 c7 c8 i1397 wv lw bl' (2 : Int32) ((n + 63) / 64) (fun k => if k = 1 then j1478 else (fun k => if k = 0 then j1472 else (fun _ => 0) k) k) gf' h1493 n0 hz1495 hwn O_t A_b1483 A_fd []) O_t.1 (hw _ (List.mem_of_getElem? (i := 165) rfl)) (hw _ (List.mem_of_getElem? (i := 166) rfl)) (hw _ (List.mem_of_getElem? (i := 168) rfl)) (hw _ (List.mem_of_getElem? (i := 167) rfl)) (hw _ (List.mem_of_getElem? (i := 2) rfl)) (hw _ (List.mem_of_getElem? (i := 169) rfl)) (by decide) pd_2 rfl rfl rfl rfl rfl (by decide) (by decide) (by decide) (by decide) at_446 rfl (fun r1501 T1498 h1500 hQ1502 X1499 => ?_)
                        obtain ⟨rh, rfl, hh, hr⟩ := hQ1502; rw [hh] at X1499
                        have hrr := own_fin n _ hn1 hn128 rfl j1472 j1478 j1433 j1434 gf' _ rfl rfl hfr0 hfr1 rh i1496 hr hex
                        show Go p e below RS T1498 (mkF m 449 #[.val (.int p1), .val (.int p2), .val (.int p3), .val (.long p4), .second, .val (.long p5), .second, .val (.int p6), .val (.int i1397), .val (.int i1398), .val (.int i1399), .val (.long j1400), .second, .val (.long j1401), .second, .val (.ref b1406), .val (.ref an), .val (.int i1427), .val (.long j1429), .second, .val (.long j1431), .second, .val (.long (0 : Int64)), .second, .val (.long (0 : Int64)), .second, .val (.long j1433), .second, .val (.long j1434), .second, .val (.int i1435), .val (.int i1437), .val (.long j1472), .second, .val (.long j1478), .second, .val (.ref b1483), .val (.int i1496)] [(.int rh)])
                        refine g_iload X1499 C at_449 rfl rfl ?_
                        refine g_icmp_ne (a := rh.toInt) (b := i1496.toInt) X1499 C at_451 rfl rfl (by decide) (pT := 458) (by decide) (pF := 454) rfl (fun hc451 => absurd hc451 (by omega)) (fun hc451 => ?_)
                        refine g_iconst (v := 1) X1499 C at_454 (by decide) rfl ?_
                        refine g_goto (pc' := 459) X1499 C at_455 (by decide) (by decide) ?_
                        rw [hRS]
                        refine g_retZ X1499 C at_459 ?_ (by decide) (by decide)
                        exact rfl
                      refine g_lif_ne (a := (j1472 &&& (j1433 ^^^ (-1 : Int64))).toInt) (b := 0) X1492 C at_411 rfl (by decide) (by decide) (pT := 439) (by decide) (pF := 414) rfl (fun hc411 => ?_) (fun hc411 => ?_)
                      ·
                        refine g_iconst (v := 0) X1492 C at_439 (by decide) rfl ?_
                        exact J440_1496 (0 : Int32) (Or.inl (⟨hc411, rfl, by decide⟩))
                      ·
                        refine g_iload X1492 C at_414 rfl rfl ?_
                        refine g_bipush (v := 64) X1492 C at_416 (by decide) rfl ?_
                        refine g_icmp_le (a := i1397.toInt) (b := 64) X1492 C at_418 rfl (by decide) (by decide) (pT := 435) (by decide) (pF := 421) rfl (fun hc418 => ?_) (fun hc418 => ?_)
                        ·
                          refine g_iconst (v := 1) X1492 C at_435 (by decide) rfl ?_
                          refine g_goto (pc' := 440) X1492 C at_436 (by decide) (by decide) ?_
                          exact J440_1496 (1 : Int32) (Or.inr (Or.inl (⟨hc411, hc418, rfl, by decide⟩)))
                        ·
                          refine g_lload X1492 C at_421 rfl rfl ?_
                          refine g_lload X1492 C at_423 rfl rfl ?_
                          refine g_ldcJ X1492 C (hw _ (List.mem_of_getElem? (i := 160) rfl)) at_425 rfl ?_
                          refine g_lxor X1492 C at_428 rfl ?_
                          refine g_land X1492 C at_429 rfl ?_
                          refine g_lconst (v := 0) X1492 C at_430 (by decide) rfl ?_
                          refine g_lcmp X1492 C at_431 rfl ?_
                          refine g_lif_ne (a := (j1478 &&& (j1434 ^^^ (-1 : Int64))).toInt) (b := 0) X1492 C at_432 rfl (by decide) (by decide) (pT := 439) (by decide) (pF := 435) rfl (fun hc432 => ?_) (fun hc432 => ?_)
                          ·
                            refine g_iconst (v := 0) X1492 C at_439 (by decide) rfl ?_
                            exact J440_1496 (0 : Int32) (Or.inr (Or.inr (Or.inl (⟨hc411, hc418, hc432, rfl, by decide⟩))))
                          ·
                            refine g_iconst (v := 1) X1492 C at_435 (by decide) rfl ?_
                            refine g_goto (pc' := 440) X1492 C at_436 (by decide) (by decide) ?_
                            exact J440_1496 (1 : Int32) (Or.inr (Or.inr (Or.inr (⟨hc411, hc418, hc432, rfl, by decide⟩))))
                  refine g_if_eq (a := i1435.toInt) X1422 C at_343 rfl (by decide) (pT := 354) (by decide) (pF := 346) rfl (fun hc343 => ?_) (fun hc343 => ?_)
                  ·
                    refine g_lload X1422 C at_354 rfl rfl ?_
                    exact J356_1441 p5 (Or.inl (⟨hc343, rfl⟩))
                  ·
                    refine g_lload X1422 C at_346 rfl rfl ?_
                    refine g_lload X1422 C at_348 rfl rfl ?_
                    refine g_land X1422 C at_350 rfl ?_
                    refine g_goto (pc' := 356) X1422 C at_351 (by decide) (by decide) ?_
                    exact J356_1441 (p5 &&& j1434) (Or.inr (⟨hc343, rfl⟩))
                refine g_if_eq (a := i1435.toInt) X1422 C at_328 rfl (by decide) (pT := 338) (by decide) (pF := 331) rfl (fun hc328 => ?_) (fun hc328 => ?_)
                ·
                  refine g_lloadN X1422 C at_338 rfl rfl ?_
                  exact J339_1439 p4 (Or.inl (⟨hc328, rfl⟩))
                ·
                  refine g_lloadN X1422 C at_331 rfl rfl ?_
                  refine g_lload X1422 C at_332 rfl rfl ?_
                  refine g_land X1422 C at_334 rfl ?_
                  refine g_goto (pc' := 339) X1422 C at_335 (by decide) (by decide) ?_
                  exact J339_1439 (p4 &&& j1433) (Or.inr (⟨hc328, rfl⟩))
              refine g_if_eq (a := (p6 &&& (2 : Int32)).toInt) X1422 C at_316 rfl (by decide) (pT := 323) (by decide) (pF := 319) rfl (fun hc316 => ?_) (fun hc316 => ?_)
              ·
                refine g_iconst (v := 0) X1422 C at_323 (by decide) rfl ?_
                exact J324_1437 (0 : Int32) (Or.inl (⟨hc316, rfl, by decide⟩))
              ·
                refine g_iconst (v := 1) X1422 C at_319 (by decide) rfl ?_
                refine g_goto (pc' := 324) X1422 C at_320 (by decide) (by decide) ?_
                exact J324_1437 (1 : Int32) (Or.inr (⟨hc316, rfl, by decide⟩))
            refine g_if_eq (a := (p6 &&& (1 : Int32)).toInt) X1422 C at_302 rfl (by decide) (pT := 309) (by decide) (pF := 305) rfl (fun hc302 => ?_) (fun hc302 => ?_)
            ·
              refine g_iconst (v := 0) X1422 C at_309 (by decide) rfl ?_
              exact J310_1435 (0 : Int32) (Or.inl (⟨hc302, rfl, by decide⟩))
            ·
              refine g_iconst (v := 1) X1422 C at_305 (by decide) rfl ?_
              refine g_goto (pc' := 310) X1422 C at_306 (by decide) (by decide) ?_
              exact J310_1435 (1 : Int32) (Or.inr (⟨hc302, rfl, by decide⟩))
          ·
            refine g_iload X1422 C at_233 rfl rfl ?_
            refine g_iconst (v := 0) X1422 C at_235 (by decide) rfl ?_
            refine g_static (argsL := [(.int i1398), (.int (0 : Int32))]) (rest := []) (W := 0) X1422 C (rmBit l Z a0 hw i1398 (0 : Int32) h1423 n0 hz1426 []) (hw _ (List.mem_of_getElem? (i := 161) rfl)) (hw _ (List.mem_of_getElem? (i := 162) rfl)) (hw _ (List.mem_of_getElem? (i := 163) rfl)) (hw _ (List.mem_of_getElem? (i := 164) rfl)) (by decide) pd_16 rfl rfl rfl rfl rfl (by decide) (by decide) (by decide) (by decide) at_236 rfl (fun r1506 T1503 h1505 hQ1507 X1504 => ?_)
            obtain ⟨rfl, hh⟩ := hQ1507; rw [hh] at X1504
            show Go p e below RS T1503 (mkF m 239 #[.val (.int p1), .val (.int p2), .val (.int p3), .val (.long p4), .second, .val (.long p5), .second, .val (.int p6), .val (.int i1397), .val (.int i1398), .val (.int i1399), .val (.long j1400), .second, .val (.long j1401), .second, .val (.ref b1406), .val (.ref an), .val (.int i1427), .val (.long j1429), .second, .val (.long j1431), .second, .unset, .unset, .unset, .unset, .unset, .unset, .unset, .unset, .unset, .unset, .unset, .unset, .unset, .unset, .unset, .unset] [(.long (own_bit i1398 (0 : Int32)))])
            refine g_iload X1504 C at_239 rfl rfl ?_
            refine g_iconst (v := 0) X1504 C at_241 (by decide) rfl ?_
            refine g_static (argsL := [(.int i1399), (.int (0 : Int32))]) (rest := [(.long (own_bit i1398 (0 : Int32)))]) (W := 2) X1504 C (rmBit l Z a0 hw i1399 (0 : Int32) h1423 n0 hz1426 []) (hw _ (List.mem_of_getElem? (i := 161) rfl)) (hw _ (List.mem_of_getElem? (i := 162) rfl)) (hw _ (List.mem_of_getElem? (i := 163) rfl)) (hw _ (List.mem_of_getElem? (i := 164) rfl)) (by decide) pd_16 rfl rfl rfl rfl rfl (by decide) (by decide) (by decide) (by decide) at_242 rfl (fun r1511 T1508 h1510 hQ1512 X1509 => ?_)
            obtain ⟨rfl, hh⟩ := hQ1512; rw [hh] at X1509
            show Go p e below RS T1508 (mkF m 245 #[.val (.int p1), .val (.int p2), .val (.int p3), .val (.long p4), .second, .val (.long p5), .second, .val (.int p6), .val (.int i1397), .val (.int i1398), .val (.int i1399), .val (.long j1400), .second, .val (.long j1401), .second, .val (.ref b1406), .val (.ref an), .val (.int i1427), .val (.long j1429), .second, .val (.long j1431), .second, .unset, .unset, .unset, .unset, .unset, .unset, .unset, .unset, .unset, .unset, .unset, .unset, .unset, .unset, .unset, .unset] [(.long (own_bit i1399 (0 : Int32))), (.long (own_bit i1398 (0 : Int32)))])
            refine g_lor X1509 C at_245 rfl ?_
            refine g_goto (pc' := 250) X1509 C at_246 (by decide) (by decide) ?_
            obtain ⟨j1513, h_j1513⟩ : ∃ z, z = ((own_bit i1398 (0 : Int32)) ||| (own_bit i1399 (0 : Int32))) := ⟨_, rfl⟩
            refine g_lstore (L' := #[.val (.int p1), .val (.int p2), .val (.int p3), .val (.long p4), .second, .val (.long p5), .second, .val (.int p6), .val (.int i1397), .val (.int i1398), .val (.int i1399), .val (.long j1400), .second, .val (.long j1401), .second, .val (.ref b1406), .val (.ref an), .val (.int i1427), .val (.long j1429), .second, .val (.long j1431), .second, .val (.long j1513), .second, .unset, .unset, .unset, .unset, .unset, .unset, .unset, .unset, .unset, .unset, .unset, .unset, .unset, .unset]) X1509 C at_250 h_j1513 rfl rfl ?_
            refine g_iload X1509 C at_252 rfl rfl ?_
            refine g_if_eq (a := i1427.toInt) X1509 C at_254 rfl (by decide) (pT := 273) (by decide) (pF := 257) rfl (fun hc254 => absurd hc254 (by omega)) (fun hc254 => ?_)
            refine g_iload X1509 C at_257 rfl rfl ?_
            refine g_iconst (v := 1) X1509 C at_259 (by decide) rfl ?_
            refine g_static (argsL := [(.int i1398), (.int (1 : Int32))]) (rest := []) (W := 0) X1509 C (rmBit l Z a0 hw i1398 (1 : Int32) h1423 n0 hz1426 []) (hw _ (List.mem_of_getElem? (i := 161) rfl)) (hw _ (List.mem_of_getElem? (i := 162) rfl)) (hw _ (List.mem_of_getElem? (i := 163) rfl)) (hw _ (List.mem_of_getElem? (i := 164) rfl)) (by decide) pd_16 rfl rfl rfl rfl rfl (by decide) (by decide) (by decide) (by decide) at_260 rfl (fun r1517 T1514 h1516 hQ1518 X1515 => ?_)
            obtain ⟨rfl, hh⟩ := hQ1518; rw [hh] at X1515
            show Go p e below RS T1514 (mkF m 263 #[.val (.int p1), .val (.int p2), .val (.int p3), .val (.long p4), .second, .val (.long p5), .second, .val (.int p6), .val (.int i1397), .val (.int i1398), .val (.int i1399), .val (.long j1400), .second, .val (.long j1401), .second, .val (.ref b1406), .val (.ref an), .val (.int i1427), .val (.long j1429), .second, .val (.long j1431), .second, .val (.long j1513), .second, .unset, .unset, .unset, .unset, .unset, .unset, .unset, .unset, .unset, .unset, .unset, .unset, .unset, .unset] [(.long (own_bit i1398 (1 : Int32)))])
            refine g_iload X1515 C at_263 rfl rfl ?_
            refine g_iconst (v := 1) X1515 C at_265 (by decide) rfl ?_
            refine g_static (argsL := [(.int i1399), (.int (1 : Int32))]) (rest := [(.long (own_bit i1398 (1 : Int32)))]) (W := 2) X1515 C (rmBit l Z a0 hw i1399 (1 : Int32) h1423 n0 hz1426 []) (hw _ (List.mem_of_getElem? (i := 161) rfl)) (hw _ (List.mem_of_getElem? (i := 162) rfl)) (hw _ (List.mem_of_getElem? (i := 163) rfl)) (hw _ (List.mem_of_getElem? (i := 164) rfl)) (by decide) pd_16 rfl rfl rfl rfl rfl (by decide) (by decide) (by decide) (by decide) at_266 rfl (fun r1522 T1519 h1521 hQ1523 X1520 => ?_)
            obtain ⟨rfl, hh⟩ := hQ1523; rw [hh] at X1520
            show Go p e below RS T1519 (mkF m 269 #[.val (.int p1), .val (.int p2), .val (.int p3), .val (.long p4), .second, .val (.long p5), .second, .val (.int p6), .val (.int i1397), .val (.int i1398), .val (.int i1399), .val (.long j1400), .second, .val (.long j1401), .second, .val (.ref b1406), .val (.ref an), .val (.int i1427), .val (.long j1429), .second, .val (.long j1431), .second, .val (.long j1513), .second, .unset, .unset, .unset, .unset, .unset, .unset, .unset, .unset, .unset, .unset, .unset, .unset, .unset, .unset] [(.long (own_bit i1399 (1 : Int32))), (.long (own_bit i1398 (1 : Int32)))])
            refine g_lor X1520 C at_269 rfl ?_
            refine g_goto (pc' := 274) X1520 C at_270 (by decide) (by decide) ?_
            obtain ⟨j1524, h_j1524⟩ : ∃ z, z = ((own_bit i1398 (1 : Int32)) ||| (own_bit i1399 (1 : Int32))) := ⟨_, rfl⟩
            refine g_lstore (L' := #[.val (.int p1), .val (.int p2), .val (.int p3), .val (.long p4), .second, .val (.long p5), .second, .val (.int p6), .val (.int i1397), .val (.int i1398), .val (.int i1399), .val (.long j1400), .second, .val (.long j1401), .second, .val (.ref b1406), .val (.ref an), .val (.int i1427), .val (.long j1429), .second, .val (.long j1431), .second, .val (.long j1513), .second, .val (.long j1524), .second, .unset, .unset, .unset, .unset, .unset, .unset, .unset, .unset, .unset, .unset, .unset, .unset]) X1520 C at_274 h_j1524 rfl rfl ?_
            refine g_lload X1520 C at_276 rfl rfl ?_
            refine g_lload X1520 C at_278 rfl rfl ?_
            refine g_ldcJ X1520 C (hw _ (List.mem_of_getElem? (i := 160) rfl)) at_280 rfl ?_
            refine g_lxor X1520 C at_283 rfl ?_
            refine g_land X1520 C at_284 rfl ?_
            obtain ⟨j1525, h_j1525⟩ : ∃ z, z = (j1429 &&& (j1513 ^^^ (-1 : Int64))) := ⟨_, rfl⟩
            refine g_lstore (L' := #[.val (.int p1), .val (.int p2), .val (.int p3), .val (.long p4), .second, .val (.long p5), .second, .val (.int p6), .val (.int i1397), .val (.int i1398), .val (.int i1399), .val (.long j1400), .second, .val (.long j1401), .second, .val (.ref b1406), .val (.ref an), .val (.int i1427), .val (.long j1429), .second, .val (.long j1431), .second, .val (.long j1513), .second, .val (.long j1524), .second, .val (.long j1525), .second, .unset, .unset, .unset, .unset, .unset, .unset, .unset, .unset, .unset, .unset]) X1520 C at_285 h_j1525 rfl rfl ?_
            refine g_lload X1520 C at_287 rfl rfl ?_
            refine g_lload X1520 C at_289 rfl rfl ?_
            refine g_ldcJ X1520 C (hw _ (List.mem_of_getElem? (i := 160) rfl)) at_291 rfl ?_
            refine g_lxor X1520 C at_294 rfl ?_
            refine g_land X1520 C at_295 rfl ?_
            obtain ⟨j1526, h_j1526⟩ : ∃ z, z = (j1431 &&& (j1524 ^^^ (-1 : Int64))) := ⟨_, rfl⟩
            refine g_lstore (L' := #[.val (.int p1), .val (.int p2), .val (.int p3), .val (.long p4), .second, .val (.long p5), .second, .val (.int p6), .val (.int i1397), .val (.int i1398), .val (.int i1399), .val (.long j1400), .second, .val (.long j1401), .second, .val (.ref b1406), .val (.ref an), .val (.int i1427), .val (.long j1429), .second, .val (.long j1431), .second, .val (.long j1513), .second, .val (.long j1524), .second, .val (.long j1525), .second, .val (.long j1526), .second, .unset, .unset, .unset, .unset, .unset, .unset, .unset, .unset]) X1520 C at_296 h_j1526 rfl rfl ?_
            have hnw : ((n + 63) / 64 : Nat) = (n + 63) / 64 := rfl
            have hfr0 : gf' 0 = j1525 := by
              rcases HF with ⟨q1, q2⟩ | ⟨q1, q2⟩
              · rw [q2 0 (by omega), own_fr0 n _ i1397 hn hn1 hn128 rfl lw j1429 hlw hv0]; show j1429 &&& (own_m nd 0 k ^^^ (-1)) = _; rw [hM0, h_j1525, h_j1513]
              · exact absurd (Or.elim hov (fun q => q.2) (fun q => absurd q.1 (by omega))) q1
            have hfr1 : 64 < n → gf' 1 = j1526 := by
              intro h64
              rcases HF with ⟨q1, q2⟩ | ⟨q1, q2⟩
              · rw [q2 1 (by omega), own_fr1 n _ i1397 hn hn128 rfl h64 lw j1431 hlw (hv1 h64)]; show j1431 &&& (own_m nd 1 k ^^^ (-1)) = _; rw [hM1, h_j1526, h_j1524]
              · exact absurd (Or.elim hov (fun q => q.2) (fun q => absurd q.1 (by omega))) q1
            refine g_iload X1520 C at_298 rfl rfl ?_
            refine g_iconst (v := 1) X1520 C at_300 (by decide) rfl ?_
            refine g_iand X1520 C at_301 rfl ?_
            have J310_1527 : ∀ (i1527 : Int32) (_ : ((p6 &&& (1 : Int32)).toInt = 0 ∧ i1527 = (0 : Int32) ∧ i1527.toInt = 0) ∨ ((p6 &&& (1 : Int32)).toInt ≠ 0 ∧ i1527 = (1 : Int32) ∧ i1527.toInt = 1)), Go p e below RS T1519 (mkF m 310 #[.val (.int p1), .val (.int p2), .val (.int p3), .val (.long p4), .second, .val (.long p5), .second, .val (.int p6), .val (.int i1397), .val (.int i1398), .val (.int i1399), .val (.long j1400), .second, .val (.long j1401), .second, .val (.ref b1406), .val (.ref an), .val (.int i1427), .val (.long j1429), .second, .val (.long j1431), .second, .val (.long j1513), .second, .val (.long j1524), .second, .val (.long j1525), .second, .val (.long j1526), .second, .unset, .unset, .unset, .unset, .unset, .unset, .unset, .unset] [(.int i1527)]) := by
              intro i1527 hJ310
              refine g_istore (L' := #[.val (.int p1), .val (.int p2), .val (.int p3), .val (.long p4), .second, .val (.long p5), .second, .val (.int p6), .val (.int i1397), .val (.int i1398), .val (.int i1399), .val (.long j1400), .second, .val (.long j1401), .second, .val (.ref b1406), .val (.ref an), .val (.int i1427), .val (.long j1429), .second, .val (.long j1431), .second, .val (.long j1513), .second, .val (.long j1524), .second, .val (.long j1525), .second, .val (.long j1526), .second, .val (.int i1527), .unset, .unset, .unset, .unset, .unset, .unset, .unset]) X1520 C at_310 rfl rfl rfl ?_
              refine g_iload X1520 C at_312 rfl rfl ?_
              refine g_iconst (v := 2) X1520 C at_314 (by decide) rfl ?_
              refine g_iand X1520 C at_315 rfl ?_
              have J324_1529 : ∀ (i1529 : Int32) (_ : ((p6 &&& (2 : Int32)).toInt = 0 ∧ i1529 = (0 : Int32) ∧ i1529.toInt = 0) ∨ ((p6 &&& (2 : Int32)).toInt ≠ 0 ∧ i1529 = (1 : Int32) ∧ i1529.toInt = 1)), Go p e below RS T1519 (mkF m 324 #[.val (.int p1), .val (.int p2), .val (.int p3), .val (.long p4), .second, .val (.long p5), .second, .val (.int p6), .val (.int i1397), .val (.int i1398), .val (.int i1399), .val (.long j1400), .second, .val (.long j1401), .second, .val (.ref b1406), .val (.ref an), .val (.int i1427), .val (.long j1429), .second, .val (.long j1431), .second, .val (.long j1513), .second, .val (.long j1524), .second, .val (.long j1525), .second, .val (.long j1526), .second, .val (.int i1527), .unset, .unset, .unset, .unset, .unset, .unset, .unset] [(.int i1529)]) := by
                intro i1529 hJ324
                refine g_istore (L' := #[.val (.int p1), .val (.int p2), .val (.int p3), .val (.long p4), .second, .val (.long p5), .second, .val (.int p6), .val (.int i1397), .val (.int i1398), .val (.int i1399), .val (.long j1400), .second, .val (.long j1401), .second, .val (.ref b1406), .val (.ref an), .val (.int i1427), .val (.long j1429), .second, .val (.long j1431), .second, .val (.long j1513), .second, .val (.long j1524), .second, .val (.long j1525), .second, .val (.long j1526), .second, .val (.int i1527), .val (.int i1529), .unset, .unset, .unset, .unset, .unset, .unset]) X1520 C at_324 rfl rfl rfl ?_
                refine g_iload X1520 C at_326 rfl rfl ?_
                have J339_1531 : ∀ (j1531 : Int64) (_ : (i1527.toInt = 0 ∧ j1531 = p4) ∨ (i1527.toInt ≠ 0 ∧ j1531 = (p4 &&& j1525))), Go p e below RS T1519 (mkF m 339 #[.val (.int p1), .val (.int p2), .val (.int p3), .val (.long p4), .second, .val (.long p5), .second, .val (.int p6), .val (.int i1397), .val (.int i1398), .val (.int i1399), .val (.long j1400), .second, .val (.long j1401), .second, .val (.ref b1406), .val (.ref an), .val (.int i1427), .val (.long j1429), .second, .val (.long j1431), .second, .val (.long j1513), .second, .val (.long j1524), .second, .val (.long j1525), .second, .val (.long j1526), .second, .val (.int i1527), .val (.int i1529), .unset, .unset, .unset, .unset, .unset, .unset] [(.long j1531)]) := by
                  intro j1531 hJ339
                  refine g_lstore (L' := #[.val (.int p1), .val (.int p2), .val (.int p3), .val (.long p4), .second, .val (.long p5), .second, .val (.int p6), .val (.int i1397), .val (.int i1398), .val (.int i1399), .val (.long j1400), .second, .val (.long j1401), .second, .val (.ref b1406), .val (.ref an), .val (.int i1427), .val (.long j1429), .second, .val (.long j1431), .second, .val (.long j1513), .second, .val (.long j1524), .second, .val (.long j1525), .second, .val (.long j1526), .second, .val (.int i1527), .val (.int i1529), .val (.long j1531), .second, .unset, .unset, .unset, .unset]) X1520 C at_339 rfl rfl rfl ?_
                  refine g_iload X1520 C at_341 rfl rfl ?_
                  have J356_1533 : ∀ (j1533 : Int64) (_ : (i1527.toInt = 0 ∧ j1533 = p5) ∨ (i1527.toInt ≠ 0 ∧ j1533 = (p5 &&& j1526))), Go p e below RS T1519 (mkF m 356 #[.val (.int p1), .val (.int p2), .val (.int p3), .val (.long p4), .second, .val (.long p5), .second, .val (.int p6), .val (.int i1397), .val (.int i1398), .val (.int i1399), .val (.long j1400), .second, .val (.long j1401), .second, .val (.ref b1406), .val (.ref an), .val (.int i1427), .val (.long j1429), .second, .val (.long j1431), .second, .val (.long j1513), .second, .val (.long j1524), .second, .val (.long j1525), .second, .val (.long j1526), .second, .val (.int i1527), .val (.int i1529), .val (.long j1531), .second, .unset, .unset, .unset, .unset] [(.long j1533)]) := by
                    intro j1533 hJ356
                    refine g_lstore (L' := #[.val (.int p1), .val (.int p2), .val (.int p3), .val (.long p4), .second, .val (.long p5), .second, .val (.int p6), .val (.int i1397), .val (.int i1398), .val (.int i1399), .val (.long j1400), .second, .val (.long j1401), .second, .val (.ref b1406), .val (.ref an), .val (.int i1427), .val (.long j1429), .second, .val (.long j1431), .second, .val (.long j1513), .second, .val (.long j1524), .second, .val (.long j1525), .second, .val (.long j1526), .second, .val (.int i1527), .val (.int i1529), .val (.long j1531), .second, .val (.long j1533), .second, .unset, .unset]) X1520 C at_356 rfl rfl rfl ?_
                    refine g_iload X1520 C at_358 rfl rfl ?_
                    refine g_if_eq (a := i1529.toInt) X1520 C at_360 rfl (by decide) (pT := 385) (by decide) (pF := 363) rfl (fun hc360 => ?_) (fun hc360 => ?_)
                    ·
                      refine g_iconst (v := 2) X1520 C at_385 (by decide) rfl ?_
                      refine g_newarr (n := 2) (cap := 2) X1520 C (hw _ (List.mem_of_getElem? (i := 9) rfl)) (by decide) (by decide) (by decide) (by decide) (by decide) at_386 rfl (fun T1535 h1537 b1539 hb1540 X1536 A_b1539 K1538 => ?_)
                      have A_b1539 : Ar Z h1537 b1539 .long 2 (fun _ => .long 0) := A_b1539
                      have ne_b1406_b1539 : NE b1406 b1539 := hb1540.ne O_t.lt
                      have ne_fd_b1539 : NE fd b1539 := hb1540.ne A_fd.lt
                      have ga_b1539 : Lo n0 b1539 := Sz.lo hb1540 hz1426
                      have O_t := O_t.keep K1538 nin0
                      have A_fd := A_fd.keep K1538 nin0
                      have hz1541 : Lo n0 h1537.size := Lo.keep hz1426 K1538
                      refine g_dup X1536 C at_388 rfl rfl ?_
                      refine g_iconst (v := 0) X1536 C at_389 (by decide) rfl ?_
                      refine g_lload X1536 C at_390 rfl rfl ?_
                      refine g_lastore (i := 0) X1536 C A_b1539 (by decide) (by decide) ga_b1539 at_392 rfl (fun T1542 h1544 X1543 A_b1539 K1545 => ?_)
                      have O_t := O_t.keep K1545 (ninN ne_b1406_b1539 nin0)
                      have A_fd := A_fd.keep K1545 (ninN ne_fd_b1539 nin0)
                      have hz1546 : Lo n0 h1544.size := Lo.keep hz1541 K1545
                      refine g_dup X1543 C at_393 rfl rfl ?_
                      refine g_iconst (v := 1) X1543 C at_394 (by decide) rfl ?_
                      refine g_lload X1543 C at_395 rfl rfl ?_
                      refine g_lastore (i := 1) X1543 C A_b1539 (by decide) (by decide) ga_b1539 at_397 rfl (fun T1547 h1549 X1548 A_b1539 K1550 => ?_)
                      have O_t := O_t.keep K1550 (ninN ne_b1406_b1539 nin0)
                      have A_fd := A_fd.keep K1550 (ninN ne_fd_b1539 nin0)
                      have hz1551 : Lo n0 h1549.size := Lo.keep hz1546 K1550
                      refine g_astore (L' := #[.val (.int p1), .val (.int p2), .val (.int p3), .val (.long p4), .second, .val (.long p5), .second, .val (.int p6), .val (.int i1397), .val (.int i1398), .val (.int i1399), .val (.long j1400), .second, .val (.long j1401), .second, .val (.ref b1406), .val (.ref an), .val (.int i1427), .val (.long j1429), .second, .val (.long j1431), .second, .val (.long j1513), .second, .val (.long j1524), .second, .val (.long j1525), .second, .val (.long j1526), .second, .val (.int i1527), .val (.int i1529), .val (.long j1531), .second, .val (.long j1533), .second, .val (.ref b1539), .unset]) X1548 C at_398 rfl rfl rfl ?_
                      refine g_lload X1548 C at_400 rfl rfl ?_
                      refine g_lload X1548 C at_402 rfl rfl ?_
                      refine g_ldcJ X1548 C (hw _ (List.mem_of_getElem? (i := 160) rfl)) at_404 rfl ?_
                      refine g_lxor X1548 C at_407 rfl ?_
                      refine g_land X1548 C at_408 rfl ?_
                      refine g_lconst (v := 0) X1548 C at_409 (by decide) rfl ?_
                      refine g_lcmp X1548 C at_410 rfl ?_
                      have J440_1552 : ∀ (i1552 : Int32) (_ : ((j1531 &&& (j1525 ^^^ (-1 : Int64))).toInt ≠ 0 ∧ i1552 = (0 : Int32) ∧ i1552.toInt = 0) ∨ ((j1531 &&& (j1525 ^^^ (-1 : Int64))).toInt = 0 ∧ i1397.toInt ≤ 64 ∧ i1552 = (1 : Int32) ∧ i1552.toInt = 1) ∨ ((j1531 &&& (j1525 ^^^ (-1 : Int64))).toInt = 0 ∧ 64 < i1397.toInt ∧ (j1533 &&& (j1526 ^^^ (-1 : Int64))).toInt ≠ 0 ∧ i1552 = (0 : Int32) ∧ i1552.toInt = 0) ∨ ((j1531 &&& (j1525 ^^^ (-1 : Int64))).toInt = 0 ∧ 64 < i1397.toInt ∧ (j1533 &&& (j1526 ^^^ (-1 : Int64))).toInt = 0 ∧ i1552 = (1 : Int32) ∧ i1552.toInt = 1)), Go p e below RS T1547 (mkF m 440 #[.val (.int p1), .val (.int p2), .val (.int p3), .val (.long p4), .second, .val (.long p5), .second, .val (.int p6), .val (.int i1397), .val (.int i1398), .val (.int i1399), .val (.long j1400), .second, .val (.long j1401), .second, .val (.ref b1406), .val (.ref an), .val (.int i1427), .val (.long j1429), .second, .val (.long j1431), .second, .val (.long j1513), .second, .val (.long j1524), .second, .val (.long j1525), .second, .val (.long j1526), .second, .val (.int i1527), .val (.int i1529), .val (.long j1531), .second, .val (.long j1533), .second, .val (.ref b1539), .unset] [(.int i1552)]) := by
                        intro i1552 hJ440
                        have hex : (i1552.toInt = 1 ↔ ((j1531 &&& (j1525 ^^^ (-1))).toInt = 0 ∧ (n ≤ 64 ∨ (j1533 &&& (j1526 ^^^ (-1))).toInt = 0))) ∧ (i1552.toInt = 0 ∨ i1552.toInt = 1) := by
                          omega
                        refine g_istore (L' := #[.val (.int p1), .val (.int p2), .val (.int p3), .val (.long p4), .second, .val (.long p5), .second, .val (.int p6), .val (.int i1397), .val (.int i1398), .val (.int i1399), .val (.long j1400), .second, .val (.long j1401), .second, .val (.ref b1406), .val (.ref an), .val (.int i1427), .val (.long j1429), .second, .val (.long j1431), .second, .val (.long j1513), .second, .val (.long j1524), .second, .val (.long j1525), .second, .val (.long j1526), .second, .val (.int i1527), .val (.int i1529), .val (.long j1531), .second, .val (.long j1533), .second, .val (.ref b1539), .val (.int i1552)]) X1548 C at_440 rfl rfl rfl ?_
                        refine g_aload X1548 C at_442 rfl rfl rfl ?_
                        refine g_aload X1548 C at_444 rfl rfl rfl ?_
                        refine g_virtual (argsL := [(.ref b1539)]) (rest := []) (W := 0) (a := b1406) X1548 C (rmHF l Z a0 hw b1406 b1539 tm sr ub fd c5 c6 c7 c8 i1397 wv lw bl' (2 : Int32) ((n + 63) / 64) (fun k => if k = 1 then j1533 else (fun k => if k = 0 then j1531 else (fun _ => 0) k) k) gf' h1549 n0 hz1551 hwn O_t A_b1539 A_fd []) O_t.1 (hw _ (List.mem_of_getElem? (i := 165) rfl)) (hw _ (List.mem_of_getElem? (i := 166) rfl)) (hw _ (List.mem_of_getElem? (i := 168) rfl)) (hw _ (List.mem_of_getElem? (i := 167) rfl)) (hw _ (List.mem_of_getElem? (i := 2) rfl)) (hw _ (List.mem_of_getElem? (i := 169) rfl)) (by decide) pd_2 rfl rfl rfl rfl rfl (by decide) (by decide) (by decide) (by decide) at_446 rfl (fun r1557 T1554 h1556 hQ1558 X1555 => ?_)
                        obtain ⟨rh, rfl, hh, hr⟩ := hQ1558; rw [hh] at X1555
                        have hrr := own_fin n _ hn1 hn128 rfl j1531 j1533 j1525 j1526 gf' _ rfl rfl hfr0 hfr1 rh i1552 hr hex
                        show Go p e below RS T1554 (mkF m 449 #[.val (.int p1), .val (.int p2), .val (.int p3), .val (.long p4), .second, .val (.long p5), .second, .val (.int p6), .val (.int i1397), .val (.int i1398), .val (.int i1399), .val (.long j1400), .second, .val (.long j1401), .second, .val (.ref b1406), .val (.ref an), .val (.int i1427), .val (.long j1429), .second, .val (.long j1431), .second, .val (.long j1513), .second, .val (.long j1524), .second, .val (.long j1525), .second, .val (.long j1526), .second, .val (.int i1527), .val (.int i1529), .val (.long j1531), .second, .val (.long j1533), .second, .val (.ref b1539), .val (.int i1552)] [(.int rh)])
                        refine g_iload X1555 C at_449 rfl rfl ?_
                        refine g_icmp_ne (a := rh.toInt) (b := i1552.toInt) X1555 C at_451 rfl rfl (by decide) (pT := 458) (by decide) (pF := 454) rfl (fun hc451 => absurd hc451 (by omega)) (fun hc451 => ?_)
                        refine g_iconst (v := 1) X1555 C at_454 (by decide) rfl ?_
                        refine g_goto (pc' := 459) X1555 C at_455 (by decide) (by decide) ?_
                        rw [hRS]
                        refine g_retZ X1555 C at_459 ?_ (by decide) (by decide)
                        exact rfl
                      refine g_lif_ne (a := (j1531 &&& (j1525 ^^^ (-1 : Int64))).toInt) (b := 0) X1548 C at_411 rfl (by decide) (by decide) (pT := 439) (by decide) (pF := 414) rfl (fun hc411 => ?_) (fun hc411 => ?_)
                      ·
                        refine g_iconst (v := 0) X1548 C at_439 (by decide) rfl ?_
                        exact J440_1552 (0 : Int32) (Or.inl (⟨hc411, rfl, by decide⟩))
                      ·
                        refine g_iload X1548 C at_414 rfl rfl ?_
                        refine g_bipush (v := 64) X1548 C at_416 (by decide) rfl ?_
                        refine g_icmp_le (a := i1397.toInt) (b := 64) X1548 C at_418 rfl (by decide) (by decide) (pT := 435) (by decide) (pF := 421) rfl (fun hc418 => ?_) (fun hc418 => ?_)
                        ·
                          refine g_iconst (v := 1) X1548 C at_435 (by decide) rfl ?_
                          refine g_goto (pc' := 440) X1548 C at_436 (by decide) (by decide) ?_
                          exact J440_1552 (1 : Int32) (Or.inr (Or.inl (⟨hc411, hc418, rfl, by decide⟩)))
                        ·
                          refine g_lload X1548 C at_421 rfl rfl ?_
                          refine g_lload X1548 C at_423 rfl rfl ?_
                          refine g_ldcJ X1548 C (hw _ (List.mem_of_getElem? (i := 160) rfl)) at_425 rfl ?_
                          refine g_lxor X1548 C at_428 rfl ?_
                          refine g_land X1548 C at_429 rfl ?_
                          refine g_lconst (v := 0) X1548 C at_430 (by decide) rfl ?_
                          refine g_lcmp X1548 C at_431 rfl ?_
                          refine g_lif_ne (a := (j1533 &&& (j1526 ^^^ (-1 : Int64))).toInt) (b := 0) X1548 C at_432 rfl (by decide) (by decide) (pT := 439) (by decide) (pF := 435) rfl (fun hc432 => ?_) (fun hc432 => ?_)
                          ·
                            refine g_iconst (v := 0) X1548 C at_439 (by decide) rfl ?_
                            exact J440_1552 (0 : Int32) (Or.inr (Or.inr (Or.inl (⟨hc411, hc418, hc432, rfl, by decide⟩))))
                          ·
                            refine g_iconst (v := 1) X1548 C at_435 (by decide) rfl ?_
                            refine g_goto (pc' := 440) X1548 C at_436 (by decide) (by decide) ?_
                            exact J440_1552 (1 : Int32) (Or.inr (Or.inr (Or.inr (⟨hc411, hc418, hc432, rfl, by decide⟩))))
                    ·
                      refine g_lload X1520 C at_363 rfl rfl ?_
                      refine g_iload X1520 C at_365 rfl rfl ?_
                      refine g_iconst (v := 0) X1520 C at_367 (by decide) rfl ?_
                      refine g_static (argsL := [(.int i1398), (.int (0 : Int32))]) (rest := [(.long j1531)]) (W := 2) X1520 C (rmBit l Z a0 hw i1398 (0 : Int32) h1423 n0 hz1426 []) (hw _ (List.mem_of_getElem? (i := 161) rfl)) (hw _ (List.mem_of_getElem? (i := 162) rfl)) (hw _ (List.mem_of_getElem? (i := 163) rfl)) (hw _ (List.mem_of_getElem? (i := 164) rfl)) (by decide) pd_16 rfl rfl rfl rfl rfl (by decide) (by decide) (by decide) (by decide) at_368 rfl (fun r1562 T1559 h1561 hQ1563 X1560 => ?_)
                      obtain ⟨rfl, hh⟩ := hQ1563; rw [hh] at X1560
                      show Go p e below RS T1559 (mkF m 371 #[.val (.int p1), .val (.int p2), .val (.int p3), .val (.long p4), .second, .val (.long p5), .second, .val (.int p6), .val (.int i1397), .val (.int i1398), .val (.int i1399), .val (.long j1400), .second, .val (.long j1401), .second, .val (.ref b1406), .val (.ref an), .val (.int i1427), .val (.long j1429), .second, .val (.long j1431), .second, .val (.long j1513), .second, .val (.long j1524), .second, .val (.long j1525), .second, .val (.long j1526), .second, .val (.int i1527), .val (.int i1529), .val (.long j1531), .second, .val (.long j1533), .second, .unset, .unset] [(.long (own_bit i1398 (0 : Int32))), (.long j1531)])
                      refine g_lor X1560 C at_371 rfl ?_
                      obtain ⟨j1564, h_j1564⟩ : ∃ z, z = (j1531 ||| (own_bit i1398 (0 : Int32))) := ⟨_, rfl⟩
                      refine g_lstore (L' := #[.val (.int p1), .val (.int p2), .val (.int p3), .val (.long p4), .second, .val (.long p5), .second, .val (.int p6), .val (.int i1397), .val (.int i1398), .val (.int i1399), .val (.long j1400), .second, .val (.long j1401), .second, .val (.ref b1406), .val (.ref an), .val (.int i1427), .val (.long j1429), .second, .val (.long j1431), .second, .val (.long j1513), .second, .val (.long j1524), .second, .val (.long j1525), .second, .val (.long j1526), .second, .val (.int i1527), .val (.int i1529), .val (.long j1564), .second, .val (.long j1533), .second, .unset, .unset]) X1560 C at_372 h_j1564 rfl rfl ?_
                      refine g_lload X1560 C at_374 rfl rfl ?_
                      refine g_iload X1560 C at_376 rfl rfl ?_
                      refine g_iconst (v := 1) X1560 C at_378 (by decide) rfl ?_
                      refine g_static (argsL := [(.int i1398), (.int (1 : Int32))]) (rest := [(.long j1533)]) (W := 2) X1560 C (rmBit l Z a0 hw i1398 (1 : Int32) h1423 n0 hz1426 []) (hw _ (List.mem_of_getElem? (i := 161) rfl)) (hw _ (List.mem_of_getElem? (i := 162) rfl)) (hw _ (List.mem_of_getElem? (i := 163) rfl)) (hw _ (List.mem_of_getElem? (i := 164) rfl)) (by decide) pd_16 rfl rfl rfl rfl rfl (by decide) (by decide) (by decide) (by decide) at_379 rfl (fun r1568 T1565 h1567 hQ1569 X1566 => ?_)
                      obtain ⟨rfl, hh⟩ := hQ1569; rw [hh] at X1566
                      show Go p e below RS T1565 (mkF m 382 #[.val (.int p1), .val (.int p2), .val (.int p3), .val (.long p4), .second, .val (.long p5), .second, .val (.int p6), .val (.int i1397), .val (.int i1398), .val (.int i1399), .val (.long j1400), .second, .val (.long j1401), .second, .val (.ref b1406), .val (.ref an), .val (.int i1427), .val (.long j1429), .second, .val (.long j1431), .second, .val (.long j1513), .second, .val (.long j1524), .second, .val (.long j1525), .second, .val (.long j1526), .second, .val (.int i1527), .val (.int i1529), .val (.long j1564), .second, .val (.long j1533), .second, .unset, .unset] [(.long (own_bit i1398 (1 : Int32))), (.long j1533)])
                      refine g_lor X1566 C at_382 rfl ?_
                      obtain ⟨j1570, h_j1570⟩ : ∃ z, z = (j1533 ||| (own_bit i1398 (1 : Int32))) := ⟨_, rfl⟩
                      refine g_lstore (L' := #[.val (.int p1), .val (.int p2), .val (.int p3), .val (.long p4), .second, .val (.long p5), .second, .val (.int p6), .val (.int i1397), .val (.int i1398), .val (.int i1399), .val (.long j1400), .second, .val (.long j1401), .second, .val (.ref b1406), .val (.ref an), .val (.int i1427), .val (.long j1429), .second, .val (.long j1431), .second, .val (.long j1513), .second, .val (.long j1524), .second, .val (.long j1525), .second, .val (.long j1526), .second, .val (.int i1527), .val (.int i1529), .val (.long j1564), .second, .val (.long j1570), .second, .unset, .unset]) X1566 C at_383 h_j1570 rfl rfl ?_
                      refine g_iconst (v := 2) X1566 C at_385 (by decide) rfl ?_
                      refine g_newarr (n := 2) (cap := 2) X1566 C (hw _ (List.mem_of_getElem? (i := 9) rfl)) (by decide) (by decide) (by decide) (by decide) (by decide) at_386 rfl (fun T1571 h1573 b1575 hb1576 X1572 A_b1575 K1574 => ?_)
                      have A_b1575 : Ar Z h1573 b1575 .long 2 (fun _ => .long 0) := A_b1575
                      have ne_b1406_b1575 : NE b1406 b1575 := hb1576.ne O_t.lt
                      have ne_fd_b1575 : NE fd b1575 := hb1576.ne A_fd.lt
                      have ga_b1575 : Lo n0 b1575 := Sz.lo hb1576 hz1426
                      have O_t := O_t.keep K1574 nin0
                      have A_fd := A_fd.keep K1574 nin0
                      have hz1577 : Lo n0 h1573.size := Lo.keep hz1426 K1574
                      refine g_dup X1572 C at_388 rfl rfl ?_
                      refine g_iconst (v := 0) X1572 C at_389 (by decide) rfl ?_
                      refine g_lload X1572 C at_390 rfl rfl ?_
                      refine g_lastore (i := 0) X1572 C A_b1575 (by decide) (by decide) ga_b1575 at_392 rfl (fun T1578 h1580 X1579 A_b1575 K1581 => ?_)
                      have O_t := O_t.keep K1581 (ninN ne_b1406_b1575 nin0)
                      have A_fd := A_fd.keep K1581 (ninN ne_fd_b1575 nin0)
                      have hz1582 : Lo n0 h1580.size := Lo.keep hz1577 K1581
                      refine g_dup X1579 C at_393 rfl rfl ?_
                      refine g_iconst (v := 1) X1579 C at_394 (by decide) rfl ?_
                      refine g_lload X1579 C at_395 rfl rfl ?_
                      refine g_lastore (i := 1) X1579 C A_b1575 (by decide) (by decide) ga_b1575 at_397 rfl (fun T1583 h1585 X1584 A_b1575 K1586 => ?_)
                      have O_t := O_t.keep K1586 (ninN ne_b1406_b1575 nin0)
                      have A_fd := A_fd.keep K1586 (ninN ne_fd_b1575 nin0)
                      have hz1587 : Lo n0 h1585.size := Lo.keep hz1582 K1586
                      refine g_astore (L' := #[.val (.int p1), .val (.int p2), .val (.int p3), .val (.long p4), .second, .val (.long p5), .second, .val (.int p6), .val (.int i1397), .val (.int i1398), .val (.int i1399), .val (.long j1400), .second, .val (.long j1401), .second, .val (.ref b1406), .val (.ref an), .val (.int i1427), .val (.long j1429), .second, .val (.long j1431), .second, .val (.long j1513), .second, .val (.long j1524), .second, .val (.long j1525), .second, .val (.long j1526), .second, .val (.int i1527), .val (.int i1529), .val (.long j1564), .second, .val (.long j1570), .second, .val (.ref b1575), .unset]) X1584 C at_398 rfl rfl rfl ?_
                      refine g_lload X1584 C at_400 rfl rfl ?_
                      refine g_lload X1584 C at_402 rfl rfl ?_
                      refine g_ldcJ X1584 C (hw _ (List.mem_of_getElem? (i := 160) rfl)) at_404 rfl ?_
                      refine g_lxor X1584 C at_407 rfl ?_
                      refine g_land X1584 C at_408 rfl ?_
                      refine g_lconst (v := 0) X1584 C at_409 (by decide) rfl ?_
                      refine g_lcmp X1584 C at_410 rfl ?_
                      have J440_1588 : ∀ (i1588 : Int32) (_ : ((j1564 &&& (j1525 ^^^ (-1 : Int64))).toInt ≠ 0 ∧ i1588 = (0 : Int32) ∧ i1588.toInt = 0) ∨ ((j1564 &&& (j1525 ^^^ (-1 : Int64))).toInt = 0 ∧ i1397.toInt ≤ 64 ∧ i1588 = (1 : Int32) ∧ i1588.toInt = 1) ∨ ((j1564 &&& (j1525 ^^^ (-1 : Int64))).toInt = 0 ∧ 64 < i1397.toInt ∧ (j1570 &&& (j1526 ^^^ (-1 : Int64))).toInt ≠ 0 ∧ i1588 = (0 : Int32) ∧ i1588.toInt = 0) ∨ ((j1564 &&& (j1525 ^^^ (-1 : Int64))).toInt = 0 ∧ 64 < i1397.toInt ∧ (j1570 &&& (j1526 ^^^ (-1 : Int64))).toInt = 0 ∧ i1588 = (1 : Int32) ∧ i1588.toInt = 1)), Go p e below RS T1583 (mkF m 440 #[.val (.int p1), .val (.int p2), .val (.int p3), .val (.long p4), .second, .val (.long p5), .second, .val (.int p6), .val (.int i1397), .val (.int i1398), .val (.int i1399), .val (.long j1400), .second, .val (.long j1401), .second, .val (.ref b1406), .val (.ref an), .val (.int i1427), .val (.long j1429), .second, .val (.long j1431), .second, .val (.long j1513), .second, .val (.long j1524), .second, .val (.long j1525), .second, .val (.long j1526), .second, .val (.int i1527), .val (.int i1529), .val (.long j1564), .second, .val (.long j1570), .second, .val (.ref b1575), .unset] [(.int i1588)]) := by
                        intro i1588 hJ440
                        have hex : (i1588.toInt = 1 ↔ ((j1564 &&& (j1525 ^^^ (-1))).toInt = 0 ∧ (n ≤ 64 ∨ (j1570 &&& (j1526 ^^^ (-1))).toInt = 0))) ∧ (i1588.toInt = 0 ∨ i1588.toInt = 1) := by
                          omega
                        refine g_istore (L' := #[.val (.int p1), .val (.int p2), .val (.int p3), .val (.long p4), .second, .val (.long p5), .second, .val (.int p6), .val (.int i1397), .val (.int i1398), .val (.int i1399), .val (.long j1400), .second, .val (.long j1401), .second, .val (.ref b1406), .val (.ref an), .val (.int i1427), .val (.long j1429), .second, .val (.long j1431), .second, .val (.long j1513), .second, .val (.long j1524), .second, .val (.long j1525), .second, .val (.long j1526), .second, .val (.int i1527), .val (.int i1529), .val (.long j1564), .second, .val (.long j1570), .second, .val (.ref b1575), .val (.int i1588)]) X1584 C at_440 rfl rfl rfl ?_
                        refine g_aload X1584 C at_442 rfl rfl rfl ?_
                        refine g_aload X1584 C at_444 rfl rfl rfl ?_
                        refine g_virtual (argsL := [(.ref b1575)]) (rest := []) (W := 0) (a := b1406) X1584 C (rmHF l Z a0 hw b1406 b1575 tm sr ub fd c5 c6 c7 c8 i1397 wv lw bl' (2 : Int32) ((n + 63) / 64) (fun k => if k = 1 then j1570 else (fun k => if k = 0 then j1564 else (fun _ => 0) k) k) gf' h1585 n0 hz1587 hwn O_t A_b1575 A_fd []) O_t.1 (hw _ (List.mem_of_getElem? (i := 165) rfl)) (hw _ (List.mem_of_getElem? (i := 166) rfl)) (hw _ (List.mem_of_getElem? (i := 168) rfl)) (hw _ (List.mem_of_getElem? (i := 167) rfl)) (hw _ (List.mem_of_getElem? (i := 2) rfl)) (hw _ (List.mem_of_getElem? (i := 169) rfl)) (by decide) pd_2 rfl rfl rfl rfl rfl (by decide) (by decide) (by decide) (by decide) at_446 rfl (fun r1593 T1590 h1592 hQ1594 X1591 => ?_)
                        obtain ⟨rh, rfl, hh, hr⟩ := hQ1594; rw [hh] at X1591
                        have hrr := own_fin n _ hn1 hn128 rfl j1564 j1570 j1525 j1526 gf' _ rfl rfl hfr0 hfr1 rh i1588 hr hex
                        show Go p e below RS T1590 (mkF m 449 #[.val (.int p1), .val (.int p2), .val (.int p3), .val (.long p4), .second, .val (.long p5), .second, .val (.int p6), .val (.int i1397), .val (.int i1398), .val (.int i1399), .val (.long j1400), .second, .val (.long j1401), .second, .val (.ref b1406), .val (.ref an), .val (.int i1427), .val (.long j1429), .second, .val (.long j1431), .second, .val (.long j1513), .second, .val (.long j1524), .second, .val (.long j1525), .second, .val (.long j1526), .second, .val (.int i1527), .val (.int i1529), .val (.long j1564), .second, .val (.long j1570), .second, .val (.ref b1575), .val (.int i1588)] [(.int rh)])
                        refine g_iload X1591 C at_449 rfl rfl ?_
                        refine g_icmp_ne (a := rh.toInt) (b := i1588.toInt) X1591 C at_451 rfl rfl (by decide) (pT := 458) (by decide) (pF := 454) rfl (fun hc451 => absurd hc451 (by omega)) (fun hc451 => ?_)
                        refine g_iconst (v := 1) X1591 C at_454 (by decide) rfl ?_
                        refine g_goto (pc' := 459) X1591 C at_455 (by decide) (by decide) ?_
                        rw [hRS]
                        refine g_retZ X1591 C at_459 ?_ (by decide) (by decide)
                        exact rfl
                      refine g_lif_ne (a := (j1564 &&& (j1525 ^^^ (-1 : Int64))).toInt) (b := 0) X1584 C at_411 rfl (by decide) (by decide) (pT := 439) (by decide) (pF := 414) rfl (fun hc411 => ?_) (fun hc411 => ?_)
                      ·
                        refine g_iconst (v := 0) X1584 C at_439 (by decide) rfl ?_
                        exact J440_1588 (0 : Int32) (Or.inl (⟨hc411, rfl, by decide⟩))
                      ·
                        refine g_iload X1584 C at_414 rfl rfl ?_
                        refine g_bipush (v := 64) X1584 C at_416 (by decide) rfl ?_
                        refine g_icmp_le (a := i1397.toInt) (b := 64) X1584 C at_418 rfl (by decide) (by decide) (pT := 435) (by decide) (pF := 421) rfl (fun hc418 => ?_) (fun hc418 => ?_)
                        ·
                          refine g_iconst (v := 1) X1584 C at_435 (by decide) rfl ?_
                          refine g_goto (pc' := 440) X1584 C at_436 (by decide) (by decide) ?_
                          exact J440_1588 (1 : Int32) (Or.inr (Or.inl (⟨hc411, hc418, rfl, by decide⟩)))
                        ·
                          refine g_lload X1584 C at_421 rfl rfl ?_
                          refine g_lload X1584 C at_423 rfl rfl ?_
                          refine g_ldcJ X1584 C (hw _ (List.mem_of_getElem? (i := 160) rfl)) at_425 rfl ?_
                          refine g_lxor X1584 C at_428 rfl ?_
                          refine g_land X1584 C at_429 rfl ?_
                          refine g_lconst (v := 0) X1584 C at_430 (by decide) rfl ?_
                          refine g_lcmp X1584 C at_431 rfl ?_
                          refine g_lif_ne (a := (j1570 &&& (j1526 ^^^ (-1 : Int64))).toInt) (b := 0) X1584 C at_432 rfl (by decide) (by decide) (pT := 439) (by decide) (pF := 435) rfl (fun hc432 => ?_) (fun hc432 => ?_)
                          ·
                            refine g_iconst (v := 0) X1584 C at_439 (by decide) rfl ?_
                            exact J440_1588 (0 : Int32) (Or.inr (Or.inr (Or.inl (⟨hc411, hc418, hc432, rfl, by decide⟩))))
                          ·
                            refine g_iconst (v := 1) X1584 C at_435 (by decide) rfl ?_
                            refine g_goto (pc' := 440) X1584 C at_436 (by decide) (by decide) ?_
                            exact J440_1588 (1 : Int32) (Or.inr (Or.inr (Or.inr (⟨hc411, hc418, hc432, rfl, by decide⟩))))
                  refine g_if_eq (a := i1527.toInt) X1520 C at_343 rfl (by decide) (pT := 354) (by decide) (pF := 346) rfl (fun hc343 => ?_) (fun hc343 => ?_)
                  ·
                    refine g_lload X1520 C at_354 rfl rfl ?_
                    exact J356_1533 p5 (Or.inl (⟨hc343, rfl⟩))
                  ·
                    refine g_lload X1520 C at_346 rfl rfl ?_
                    refine g_lload X1520 C at_348 rfl rfl ?_
                    refine g_land X1520 C at_350 rfl ?_
                    refine g_goto (pc' := 356) X1520 C at_351 (by decide) (by decide) ?_
                    exact J356_1533 (p5 &&& j1526) (Or.inr (⟨hc343, rfl⟩))
                refine g_if_eq (a := i1527.toInt) X1520 C at_328 rfl (by decide) (pT := 338) (by decide) (pF := 331) rfl (fun hc328 => ?_) (fun hc328 => ?_)
                ·
                  refine g_lloadN X1520 C at_338 rfl rfl ?_
                  exact J339_1531 p4 (Or.inl (⟨hc328, rfl⟩))
                ·
                  refine g_lloadN X1520 C at_331 rfl rfl ?_
                  refine g_lload X1520 C at_332 rfl rfl ?_
                  refine g_land X1520 C at_334 rfl ?_
                  refine g_goto (pc' := 339) X1520 C at_335 (by decide) (by decide) ?_
                  exact J339_1531 (p4 &&& j1525) (Or.inr (⟨hc328, rfl⟩))
              refine g_if_eq (a := (p6 &&& (2 : Int32)).toInt) X1520 C at_316 rfl (by decide) (pT := 323) (by decide) (pF := 319) rfl (fun hc316 => ?_) (fun hc316 => ?_)
              ·
                refine g_iconst (v := 0) X1520 C at_323 (by decide) rfl ?_
                exact J324_1529 (0 : Int32) (Or.inl (⟨hc316, rfl, by decide⟩))
              ·
                refine g_iconst (v := 1) X1520 C at_319 (by decide) rfl ?_
                refine g_goto (pc' := 324) X1520 C at_320 (by decide) (by decide) ?_
                exact J324_1529 (1 : Int32) (Or.inr (⟨hc316, rfl, by decide⟩))
            refine g_if_eq (a := (p6 &&& (1 : Int32)).toInt) X1520 C at_302 rfl (by decide) (pT := 309) (by decide) (pF := 305) rfl (fun hc302 => ?_) (fun hc302 => ?_)
            ·
              refine g_iconst (v := 0) X1520 C at_309 (by decide) rfl ?_
              exact J310_1527 (0 : Int32) (Or.inl (⟨hc302, rfl, by decide⟩))
            ·
              refine g_iconst (v := 1) X1520 C at_305 (by decide) rfl ?_
              refine g_goto (pc' := 310) X1520 C at_306 (by decide) (by decide) ?_
              exact J310_1527 (1 : Int32) (Or.inr (⟨hc302, rfl, by decide⟩))
        refine g_icmp_lt (a := i1397.toInt) (b := 128) X1422 C at_197 rfl (by decide) (by decide) (pT := 206) (by decide) (pF := 200) rfl (fun hc197 => ?_) (fun hc197 => ?_)
        ·
          refine g_iload X1422 C at_206 rfl rfl ?_
          refine g_bipush (v := 64) X1422 C at_208 (by decide) rfl ?_
          refine g_icmp_le (a := i1397.toInt) (b := 64) X1422 C at_210 rfl (by decide) (by decide) (pT := 225) (by decide) (pF := 213) rfl (fun hc210 => ?_) (fun hc210 => ?_)
          ·
            refine g_lconst (v := 0) X1422 C at_225 (by decide) rfl ?_
            exact J226_1431 (0 : Int64) (Or.inl (⟨hc197, hc210, rfl, by decide⟩))
          ·
            refine g_lconst (v := 1) X1422 C at_213 (by decide) rfl ?_
            refine g_iload X1422 C at_214 rfl rfl ?_
            refine g_bipush (v := 64) X1422 C at_216 (by decide) rfl ?_
            refine g_isub X1422 C at_218 rfl ?_
            refine g_lshl X1422 C at_219 rfl ?_
            refine g_lconst (v := 1) X1422 C at_220 (by decide) rfl ?_
            refine g_lsub X1422 C at_221 rfl ?_
            refine g_goto (pc' := 226) X1422 C at_222 (by decide) (by decide) ?_
            exact J226_1431 (((1 : Int64) <<< ((i1397 - (64 : Int32)) &&& 0x3f).toInt64) - (1 : Int64)) (Or.inr (Or.inl (⟨hc197, hc210, rfl⟩)))
        ·
          refine g_ldcJ X1422 C (hw _ (List.mem_of_getElem? (i := 160) rfl)) at_200 rfl ?_
          refine g_goto (pc' := 226) X1422 C at_203 (by decide) (by decide) ?_
          exact J226_1431 (-1 : Int64) (Or.inr (Or.inr (⟨hc197, rfl, by decide⟩)))
      refine g_icmp_lt (a := i1397.toInt) (b := 64) X1422 C at_175 rfl (by decide) (by decide) (pT := 184) (by decide) (pF := 178) rfl (fun hc175 => ?_) (fun hc175 => ?_)
      ·
        refine g_lconst (v := 1) X1422 C at_184 (by decide) rfl ?_
        refine g_iload X1422 C at_185 rfl rfl ?_
        refine g_lshl X1422 C at_187 rfl ?_
        refine g_lconst (v := 1) X1422 C at_188 (by decide) rfl ?_
        refine g_lsub X1422 C at_189 rfl ?_
        exact J190_1429 (((1 : Int64) <<< (i1397 &&& 0x3f).toInt64) - (1 : Int64)) (Or.inl (⟨hc175, rfl⟩))
      ·
        refine g_ldcJ X1422 C (hw _ (List.mem_of_getElem? (i := 160) rfl)) at_178 rfl ?_
        refine g_goto (pc' := 190) X1422 C at_181 (by decide) (by decide) ?_
        exact J190_1429 (-1 : Int64) (Or.inr (⟨hc175, rfl, by decide⟩))
    refine g_lif_ne (a := j1401.toInt) (b := 0) X1422 C at_118 rfl (by decide) (by decide) (pT := 145) (by decide) (pF := 121) rfl (fun hc118 => ?_) (fun hc118 => ?_)
    ·
      refine g_lload X1422 C at_145 rfl rfl ?_
      refine g_ldcJ X1422 C (hw _ (List.mem_of_getElem? (i := 47) rfl)) at_147 rfl ?_
      refine g_lcmp X1422 C at_150 rfl ?_
      refine g_lif_ge (a := j1400.toInt) (b := 10) X1422 C at_151 rfl (by decide) (by decide) (pT := 168) (by decide) (pF := 154) rfl (fun hc151 => ?_) (fun hc151 => ?_)
      ·
        refine g_iconst (v := 0) X1422 C at_168 (by decide) rfl ?_
        exact J169_1427 (0 : Int32) (Or.inl (⟨hc118, hc151, rfl, by decide⟩))
      ·
        refine g_lload X1422 C at_154 rfl rfl ?_
        refine g_lload X1422 C at_156 rfl rfl ?_
        refine g_ladd X1422 C at_158 rfl ?_
        refine g_lconst (v := 0) X1422 C at_159 (by decide) rfl ?_
        refine g_lcmp X1422 C at_160 rfl ?_
        refine g_lif_le (a := (j1400 + j1401).toInt) (b := 0) X1422 C at_161 rfl (by decide) (by decide) (pT := 168) (by decide) (pF := 164) rfl (fun hc161 => ?_) (fun hc161 => ?_)
        ·
          refine g_iconst (v := 0) X1422 C at_168 (by decide) rfl ?_
          exact J169_1427 (0 : Int32) (Or.inr (Or.inl (⟨hc118, hc151, hc161, rfl, by decide⟩)))
        ·
          refine g_iconst (v := 1) X1422 C at_164 (by decide) rfl ?_
          refine g_goto (pc' := 169) X1422 C at_165 (by decide) (by decide) ?_
          exact J169_1427 (1 : Int32) (Or.inr (Or.inr (Or.inl (⟨hc118, hc151, hc161, rfl, by decide⟩))))
    ·
      refine g_lload X1422 C at_121 rfl rfl ?_
      refine g_lconst (v := 0) X1422 C at_123 (by decide) rfl ?_
      refine g_lcmp X1422 C at_124 rfl ?_
      refine g_lif_le (a := j1400.toInt) (b := 0) X1422 C at_125 rfl (by decide) (by decide) (pT := 141) (by decide) (pF := 128) rfl (fun hc125 => ?_) (fun hc125 => ?_)
      ·
        refine g_iconst (v := 0) X1422 C at_141 (by decide) rfl ?_
        refine g_goto (pc' := 169) X1422 C at_142 (by decide) (by decide) ?_
        exact J169_1427 (0 : Int32) (Or.inr (Or.inr (Or.inr (Or.inl (⟨hc118, hc125, rfl, by decide⟩)))))
      ·
        refine g_lload X1422 C at_128 rfl rfl ?_
        refine g_ldcJ X1422 C (hw _ (List.mem_of_getElem? (i := 47) rfl)) at_130 rfl ?_
        refine g_lcmp X1422 C at_133 rfl ?_
        refine g_lif_ge (a := j1400.toInt) (b := 10) X1422 C at_134 rfl (by decide) (by decide) (pT := 141) (by decide) (pF := 137) rfl (fun hc134 => ?_) (fun hc134 => ?_)
        ·
          refine g_iconst (v := 0) X1422 C at_141 (by decide) rfl ?_
          refine g_goto (pc' := 169) X1422 C at_142 (by decide) (by decide) ?_
          exact J169_1427 (0 : Int32) (Or.inr (Or.inr (Or.inr (Or.inr (Or.inl (⟨hc118, hc125, hc134, rfl, by decide⟩))))))
        ·
          refine g_iconst (v := 1) X1422 C at_137 (by decide) rfl ?_
          refine g_goto (pc' := 169) X1422 C at_138 (by decide) (by decide) ?_
          exact J169_1427 (1 : Int32) (Or.inr (Or.inr (Or.inr (Or.inr (Or.inr (⟨hc118, hc125, hc134, rfl, by decide⟩))))))
  refine g_iload X1410 C at_61 rfl rfl ?_
  refine g_iload X1410 C at_63 rfl rfl ?_
  refine g_icmp_eq (a := i1398.toInt) (b := i1399.toInt) X1410 C at_65 rfl rfl (by decide) (pT := 84) (by decide) (pF := 68) rfl (fun hc65 => ?_) (fun hc65 => ?_)
  ·
    refine g_iconst (v := 1) X1410 C at_84 (by decide) rfl ?_
    refine g_newarr (n := 1) (cap := 2) X1410 C (hw _ (List.mem_of_getElem? (i := 16) rfl)) (by decide) (by decide) (by decide) (by decide) (by decide) at_85 rfl (fun T1595 h1597 b1599 hb1600 X1596 A_b1599 K1598 => ?_)
    have A_b1599 : Ar Z h1597 b1599 .int 1 (fun _ => .int 0) := A_b1599
    have ne_b1406_b1599 : NE b1406 b1599 := hb1600.ne N_t.lt
    have ne_tm_b1599 : NE tm b1599 := hb1600.ne A_tm.lt
    have ne_sr_b1599 : NE sr b1599 := hb1600.ne A_sr.lt
    have ne_ub_b1599 : NE ub b1599 := hb1600.ne A_ub.lt
    have ne_fd_b1599 : NE fd b1599 := hb1600.ne A_fd.lt
    have ga_b1599 : Lo n0 b1599 := Sz.lo hb1600 hz1414
    have N_t := N_t.keep K1598 nin0
    have A_tm := A_tm.keep K1598 nin0
    have A_sr := A_sr.keep K1598 nin0
    have A_ub := A_ub.keep K1598 nin0
    have A_fd := A_fd.keep K1598 nin0
    have hz1601 : Lo n0 h1597.size := Lo.keep hz1414 K1598
    refine g_dup X1596 C at_87 rfl rfl ?_
    refine g_iconst (v := 0) X1596 C at_88 (by decide) rfl ?_
    refine g_iload X1596 C at_89 rfl rfl ?_
    refine g_iastore (i := 0) X1596 C A_b1599 (by decide) (by decide) ga_b1599 at_91 rfl (fun T1602 h1604 X1603 A_b1599 K1605 => ?_)
    have N_t := N_t.keep K1605 (ninN ne_b1406_b1599 nin0)
    have A_tm := A_tm.keep K1605 (ninN ne_tm_b1599 nin0)
    have A_sr := A_sr.keep K1605 (ninN ne_sr_b1599 nin0)
    have A_ub := A_ub.keep K1605 (ninN ne_ub_b1599 nin0)
    have A_fd := A_fd.keep K1605 (ninN ne_fd_b1599 nin0)
    have hz1606 : Lo n0 h1604.size := Lo.keep hz1601 K1605
    refine g_astore (L' := #[.val (.int p1), .val (.int p2), .val (.int p3), .val (.long p4), .second, .val (.long p5), .second, .val (.int p6), .val (.int i1397), .val (.int i1398), .val (.int i1399), .val (.long j1400), .second, .val (.long j1401), .second, .val (.ref b1406), .val (.ref b1599), .unset, .unset, .unset, .unset, .unset, .unset, .unset, .unset, .unset, .unset, .unset, .unset, .unset, .unset, .unset, .unset, .unset, .unset, .unset, .unset, .unset]) X1603 C at_92 rfl rfl rfl ?_
    exact TAIL T1602 h1604 1 (1 : Int32) (fun i => if i = 0 then i1398 else i1399) b1599 (Or.inl ⟨rfl, rfl⟩) (by omega) (own_m1 _ i1398 i1399 0 0 (by decide) (by omega) (by omega) rfl) (own_m1 _ i1398 i1399 1 1 (by decide) (by omega) (by omega) rfl) (own_all1 (by show 0 ≤ i1398.toInt ∧ i1398.toInt / 64 < ((n + 63) / 64 : Nat); omega)) X1603 hz1606 N_t A_tm A_sr A_ub A_fd (A_b1599.congr (fun j hj => by rw [show j = 0 by omega]; rfl)) ne_b1406_b1599 ne_tm_b1599 ne_sr_b1599 ne_ub_b1599 ne_fd_b1599
  ·
    refine g_iconst (v := 2) X1410 C at_68 (by decide) rfl ?_
    refine g_newarr (n := 2) (cap := 2) X1410 C (hw _ (List.mem_of_getElem? (i := 16) rfl)) (by decide) (by decide) (by decide) (by decide) (by decide) at_69 rfl (fun T1607 h1609 b1611 hb1612 X1608 A_b1611 K1610 => ?_)
    have A_b1611 : Ar Z h1609 b1611 .int 2 (fun _ => .int 0) := A_b1611
    have ne_b1406_b1611 : NE b1406 b1611 := hb1612.ne N_t.lt
    have ne_tm_b1611 : NE tm b1611 := hb1612.ne A_tm.lt
    have ne_sr_b1611 : NE sr b1611 := hb1612.ne A_sr.lt
    have ne_ub_b1611 : NE ub b1611 := hb1612.ne A_ub.lt
    have ne_fd_b1611 : NE fd b1611 := hb1612.ne A_fd.lt
    have ga_b1611 : Lo n0 b1611 := Sz.lo hb1612 hz1414
    have N_t := N_t.keep K1610 nin0
    have A_tm := A_tm.keep K1610 nin0
    have A_sr := A_sr.keep K1610 nin0
    have A_ub := A_ub.keep K1610 nin0
    have A_fd := A_fd.keep K1610 nin0
    have hz1613 : Lo n0 h1609.size := Lo.keep hz1414 K1610
    refine g_dup X1608 C at_71 rfl rfl ?_
    refine g_iconst (v := 0) X1608 C at_72 (by decide) rfl ?_
    refine g_iload X1608 C at_73 rfl rfl ?_
    refine g_iastore (i := 0) X1608 C A_b1611 (by decide) (by decide) ga_b1611 at_75 rfl (fun T1614 h1616 X1615 A_b1611 K1617 => ?_)
    have N_t := N_t.keep K1617 (ninN ne_b1406_b1611 nin0)
    have A_tm := A_tm.keep K1617 (ninN ne_tm_b1611 nin0)
    have A_sr := A_sr.keep K1617 (ninN ne_sr_b1611 nin0)
    have A_ub := A_ub.keep K1617 (ninN ne_ub_b1611 nin0)
    have A_fd := A_fd.keep K1617 (ninN ne_fd_b1611 nin0)
    have hz1618 : Lo n0 h1616.size := Lo.keep hz1613 K1617
    refine g_dup X1615 C at_76 rfl rfl ?_
    refine g_iconst (v := 1) X1615 C at_77 (by decide) rfl ?_
    refine g_iload X1615 C at_78 rfl rfl ?_
    refine g_iastore (i := 1) X1615 C A_b1611 (by decide) (by decide) ga_b1611 at_80 rfl (fun T1619 h1621 X1620 A_b1611 K1622 => ?_)
    have N_t := N_t.keep K1622 (ninN ne_b1406_b1611 nin0)
    have A_tm := A_tm.keep K1622 (ninN ne_tm_b1611 nin0)
    have A_sr := A_sr.keep K1622 (ninN ne_sr_b1611 nin0)
    have A_ub := A_ub.keep K1622 (ninN ne_ub_b1611 nin0)
    have A_fd := A_fd.keep K1622 (ninN ne_fd_b1611 nin0)
    have hz1623 : Lo n0 h1621.size := Lo.keep hz1618 K1622
    refine g_goto (pc' := 92) X1620 C at_81 (by decide) (by decide) ?_
    refine g_astore (L' := #[.val (.int p1), .val (.int p2), .val (.int p3), .val (.long p4), .second, .val (.long p5), .second, .val (.int p6), .val (.int i1397), .val (.int i1398), .val (.int i1399), .val (.long j1400), .second, .val (.long j1401), .second, .val (.ref b1406), .val (.ref b1611), .unset, .unset, .unset, .unset, .unset, .unset, .unset, .unset, .unset, .unset, .unset, .unset, .unset, .unset, .unset, .unset, .unset, .unset, .unset, .unset, .unset]) X1620 C at_92 rfl rfl rfl ?_
    have hdist : i1398.toInt ≠ i1399.toInt := by omega
    exact TAIL T1619 h1621 2 (2 : Int32) (fun i => if i = 0 then i1398 else i1399) b1611 (Or.inr ⟨rfl, rfl⟩) (by omega) (own_m2 _ i1398 i1399 0 0 (by decide) (by omega) (by omega) rfl rfl) (own_m2 _ i1398 i1399 1 1 (by decide) (by omega) (by omega) rfl rfl) (own_all2 (by show 0 ≤ i1398.toInt ∧ i1398.toInt / 64 < ((n + 63) / 64 : Nat); omega) (by show 0 ≤ i1399.toInt ∧ i1399.toInt / 64 < ((n + 63) / 64 : Nat); omega)) X1620 hz1623 N_t A_tm A_sr A_ub A_fd (A_b1611.congr (fun j hj => by rcases (show j = 0 ∨ j = 1 by omega) with rfl | rfl <;> rfl)) ne_b1406_b1611 ne_tm_b1611 ne_sr_b1611 ne_ub_b1611 ne_fd_b1611
set_option maxRecDepth 65536 in
set_option maxHeartbeats 40000000 in
theorem comes_1 {Post : Tables → Env → Array Value → State → Outcome → State → Prop} (hpost : ∀ tb e args s v u, (limb_1_1.after args s (.returned v) u = true ∧ limb_1_2.after args s (.returned v) u = true ∧ True) → FrameEnd s (.returned v) u (Jvm.fieldLocs frame_1_writes args s ++ Jvm.arrayLocs frame_1_arrays args s ++ Jvm.staticLocs frame_1_statics s) 48 576 → Post tb e args s (.returned v) u) :
    ArmFor flags0 classFile x code maxLocals ret World_1 tables_1 room_1 Calls_1 rest_1 Pre_1 Post := by
  intro l hfl _ _ p e ha hc hk s m args below hf hA hF happ hP
  obtain ⟨hcalls, hrest, hpre⟩ := hP
  obtain ⟨-, -, -, hnamed, -, -, -, hat⟩ := (Spec.applies_iff hf).mp happ
  obtain ⟨hg, hn⟩ := and_e (Cond.before_iff.mp (show (Jvm.Cond.and given_1 narrow_1).before args s = true from hpre))
  obtain ⟨h1, h2⟩ := and_e hg
  obtain ⟨w0, w1, w2, w3, w4, w5, rfl⟩ : ∃ w0 w1 w2 w3 w4 w5 : Value, args = #[w0, w1, w2, w3, w4, w5] := by
    have hs : args.size = 6 := by simpa [Cond.value, given_1] using h1
    obtain ⟨L⟩ := args
    match L, hs with
    | [w0, w1, w2, w3, w4, w5], _ => exact ⟨w0, w1, w2, w3, w4, w5, rfl⟩
  have hw := fun d (hd : d ∈ tables_1) => atoms_spec (ws := Jvm.Cond.code x code maxLocals ret :: tables_1) hat d (List.mem_cons_of_mem _ hd)
  obtain ⟨g0, r0⟩ := and_e h2
  obtain ⟨k0, e0⟩ := is_v g0
  obtain rfl : w0 = (.int k0) := Option.some.inj e0
  obtain ⟨g1, r1⟩ := and_e r0
  obtain ⟨k1, e1⟩ := is_v g1
  obtain rfl : w1 = (.int k1) := Option.some.inj e1
  obtain ⟨g2, r2⟩ := and_e r1
  obtain ⟨k2, e2⟩ := is_v g2
  obtain rfl : w2 = (.int k2) := Option.some.inj e2
  obtain ⟨g3, r3⟩ := and_e r2
  obtain ⟨k3, e3⟩ := isL_v g3
  obtain rfl : w3 = (.long k3) := Option.some.inj e3
  obtain ⟨g4, r4⟩ := and_e r3
  obtain ⟨k4, e4⟩ := isL_v g4
  obtain rfl : w4 = (.long k4) := Option.some.inj e4
  obtain ⟨k5, e5⟩ := is_v r4
  obtain rfl : w5 = (.int k5) := Option.some.inj e5
  obtain ⟨n, o, h1, h2, h3, _, L, rfl, ⟨rfl, N⟩, hq⟩ := rm0 l s _ hw k0 k1 k2 k3 k4 k5 s.heap s.heap.size (show Lo s.heap.size s.heap.size from Nat.le_refl _) tables_1 p e ha hc hk s m _ below hf ((Spec.applies_iff_loose hf).mp happ).1 ⟨rfl, State.Warmed39.refl s, rfl⟩ trivial
  refine ⟨n, _, h1, h2, h3, hpost _ _ _ _ _ _ ⟨Cond.after_iff.mpr rfl, Cond.after_iff.mpr (eq_i res_at (Term.int_eval (1)) rfl), trivial⟩ ⟨hq.1, hq.2.1, (hq.2.2.sift fun y hy => Or.inr (N y hy)).mono (by decide) (by decide)⟩⟩
theorem main_1_1 : Claimed_1_1 := comes_1 fun _ _ _ _ _ _ h hF => ⟨h.1, hF⟩
theorem main_1_2 : Claimed_1_2 := comes_1 fun _ _ _ _ _ _ h hF => ⟨h.2.1, hF⟩
end Jvm.Pilot.@@N@@
namespace Jvm.Pilot.@@N@@
open Jvm Jvm.ClassFile Sem Op Lib Jvm.Free Jvm.Stand Jvm.Pilot.@@N@@.Jvm.D
/-! MADE BY PROGRAM (witnessworld.py) out of the Statement's table words and the real class files: 23 classes; the members and pool entries that the words name. The judged class is class 1, her method 1. -/
namespace start1
open Jvm.ClassFile
def u (s : String) : CpInfo := .utf8 (stringToUtf16 s)
/-- a pool by its gaps: so many unusable entries, then the entry; so many at the end -/
def gap : Nat → List CpInfo → List CpInfo
  | 0, r => r
  | n + 1, r => .unusable :: gap n r
def poolList (es : List (Nat × CpInfo)) (last : Nat) : List CpInfo := es.foldr (fun e r => gap e.1 (e.2 :: r)) (gap last [])
def pool (es : List (Nat × CpInfo)) (last : Nat) : Array CpInfo := ⟨poolList es last⟩
def fileOf (pool : Array CpInfo) (this : Nat) (attrs : Array Attribute := #[]) (ms : Array MethodInfo := #[]) (fl : Nat := 33) (sup : Nat := 0) (ifs : Array Nat := #[]) (fds : Array FieldInfo := #[]) : ClassFile where
  minorVersion := 0
  majorVersion := 65
  constantPool := pool
  accessFlags := fl
  thisClass := this
  superClass := sup
  interfaces := ifs
  fields := fds
  methods := ms
  attributes := attrs
def plain (name : String) (sup : Option ClassId) : Class where
  name := name
  kind := .ordinary
  loader := none
  accessFlags := 33
  super := sup
  interfaces := #[]
  cf := none
  fields := #[]
  methods := #[]
  instanceTypes := #[]
  staticTypes := #[]
  resolved := #[]
  callSites := []
  init := .initialized
  statics := none
  mirror := none

def pool0 : Array CpInfo := pool [(5, u "<init>"), (0, u "()V"), (1, .class_ 10), (1, u "java/lang/Object"), (85, u "clone"), (0, u "()Ljava/lang/Object;")] 26

def k0c0 : Code := { maxStack := 0, maxLocals := 1, code := object_method_1_code, exceptionTable := #[], attributes := #[] }
def k0m0 : Method := { name := "<init>", desc := "()V", sig := { parameters := [], returnType := none }, accessFlags := 1, code := some k0c0 }
def k0m1 : Method := { name := "clone", desc := "()Ljava/lang/Object;", sig := { parameters := [], returnType := some (.object "java/lang/Object") }, accessFlags := 260, code := none }
/-- java/lang/Object -/
def k0 : Class := { plain "java/lang/Object" none with
  accessFlags := 33
  interfaces := #[]
  cf := some (fileOf pool0 8 #[] #[{ accessFlags := 1, nameIndex := 5, descriptorIndex := 6, attributes := #[] }, { accessFlags := 260, nameIndex := 96, descriptorIndex := 97, attributes := #[] }] 33 0 #[] #[])
  fields := #[]
  methods := #[k0m0, k0m1]
  instanceTypes := #[]
  staticTypes := #[]
  resolved := Array.replicate 124 none
  statics := none }

def pool1 : Array CpInfo := pool [(2, .class_ 4), (1, u "java/lang/Object"), (0, u "<init>"), (0, u "()V"), (0, .class_ 8), (0, u "org/foreslot/planning/ClusterTimeline"), (0, .methodref 7 10), (0, .nameAndType 5 11), (0, u "(I)V"), (0, .long 10), (1, .methodref 7 15), (0, .nameAndType 16 17), (0, u "book"), (0, u "(JJ[I)V"), (0, .methodref 7 19), (0, .nameAndType 20 21), (0, u "findFree"), (0, u "(JJ)V"), (0, .long 18446744073709551615), (1, .methodref 25 26), (0, .class_ 27), (0, .nameAndType 28 29), (0, u "org/foreslot/planning/ClusterTimelineHoldsFreePinLaw"), (0, u "bit"), (0, u "(II)J"), (0, .methodref 7 31), (0, .nameAndType 32 33), (0, u "holdsFree"), (0, u "([J)Z"), (2, u "law"), (0, u "(IIIJJI)Z")] 7

def k1m0 : Method := { name := "<init>", desc := "()V", sig := { parameters := [], returnType := none }, accessFlags := 1, code := none }
def k1c1 : Code := { maxStack := 6, maxLocals := 38, code := code, exceptionTable := #[], attributes := #[] }
def k1m1 : Method := { name := "law", desc := "(IIIJJI)Z", sig := { parameters := [.int, .int, .int, .long, .long, .int], returnType := some .boolean }, accessFlags := 9, code := some k1c1 }
def k1c2 : Code := { maxStack := 4, maxLocals := 2, code := method_3_code, exceptionTable := #[], attributes := #[] }
def k1m2 : Method := { name := "bit", desc := "(II)J", sig := { parameters := [.int, .int], returnType := some .long }, accessFlags := 10, code := some k1c2 }
/-- org/foreslot/planning/ClusterTimelineHoldsFreePinLaw -/
def k1 : Class := { plain "org/foreslot/planning/ClusterTimelineHoldsFreePinLaw" (some 0) with
  accessFlags := 49
  interfaces := #[]
  cf := some (fileOf pool1 25 #[] #[{ accessFlags := 1, nameIndex := 5, descriptorIndex := 6, attributes := #[] }, { accessFlags := 9, nameIndex := 36, descriptorIndex := 37, attributes := #[] }, { accessFlags := 10, nameIndex := 28, descriptorIndex := 29, attributes := #[] }] 49 2 #[] #[])
  fields := #[]
  methods := #[k1m0, k1m1, k1m2]
  instanceTypes := #[]
  staticTypes := #[]
  resolved := Array.replicate 45 none
  statics := none }

def pool2 : Array CpInfo := pool [(1, .methodref 2 3), (0, .class_ 4), (0, .nameAndType 5 6), (0, u "java/lang/Object"), (0, u "<init>"), (0, u "()V"), (0, .fieldref 8 9), (0, .class_ 10), (0, .nameAndType 11 12), (0, u "org/foreslot/planning/ClusterTimeline"), (0, u "times"), (0, u "[J"), (0, .class_ 14), (0, u "org/foreslot/planning/ClusterTimeline$Stretch"), (0, .fieldref 8 16), (0, .nameAndType 17 18), (0, u "stretches"), (0, u "[Lorg/foreslot/planning/ClusterTimeline$Stretch;"), (0, .fieldref 8 20), (0, .nameAndType 21 22), (0, u "unbooked"), (0, u "[I"), (0, .class_ 24), (0, u "java/lang/Long"), (0, .long 9223372036854775808), (1, .fieldref 8 28), (0, .nameAndType 29 30), (0, u "floor"), (0, u "J"), (0, .fieldref 8 32), (0, .nameAndType 33 30), (0, u "losses"), (0, .long 9223372036854775807), (1, .fieldref 8 37), (0, .nameAndType 38 30), (0, u "markedFrom"), (0, .fieldref 8 40), (0, .nameAndType 41 30), (0, u "markedUntil"), (0, .fieldref 8 43), (0, .nameAndType 44 45), (0, u "nodes"), (0, u "I"), (0, .fieldref 8 47), (0, .nameAndType 48 45), (0, u "words"), (0, .long 18446744073709551615), (1, .fieldref 8 52), (0, .nameAndType 53 30), (0, u "lastWord"), (0, .fieldref 8 55), (0, .nameAndType 56 12), (0, u "found"), (0, .fieldref 8 58), (0, .nameAndType 59 12), (0, u "pending"), (0, .fieldref 8 61), (0, .nameAndType 62 12), (0, u "clear"), (0, .fieldref 8 64), (0, .nameAndType 65 12), (0, u "markedNodes"), (0, .class_ 67), (0, u "org/foreslot/planning/ClusterTimeline$Starts"), (0, .fieldref 8 69), (0, .nameAndType 70 71), (0, u "startsFound"), (0, u "[Lorg/foreslot/planning/ClusterTimeline$Starts;"), (0, .methodref 8 73), (0, .nameAndType 74 75), (0, u "maskOf"), (0, u "([I)[J"), (0, .methodref 8 77), (0, .nameAndType 78 79), (0, u "change"), (0, u "(JJ[I[JZZ)V"), (1, .class_ 83), (1, u "java/lang/Math"), (1, u "(JJ)J"), (0, .methodref 81 87), (0, .nameAndType 88 85), (0, u "max"), (0, .methodref 8 90), (0, .nameAndType 91 92), (0, u "indexAt"), (0, u "(J)I"), (6, u "(I)V"), (4, .fieldref 13 105), (0, .nameAndType 106 12), (0, u "moments"), (3, .fieldref 13 111), (0, .nameAndType 112 12), (0, u "ends"), (0, .methodref 114 115), (0, .class_ 116), (0, .nameAndType 117 118), (0, u "java/util/Arrays"), (0, u "fill"), (0, u "([JJ)V"), (0, .methodref 8 120), (0, .nameAndType 121 99), (0, u "dropIfNeedless"), (8, .methodref 8 131), (0, .nameAndType 132 133), (0, u "fits"), (0, u "(IJJI)Z"), (25, u "findFree"), (0, u "(JJ)V"), (2, u "holdsFree"), (0, u "([J)Z"), (3, .methodref 8 169), (0, .nameAndType 170 171), (0, u "count"), (0, u "([J)I"), (0, .methodref 173 174), (0, .class_ 175), (0, .nameAndType 176 177), (0, u "java/lang/System"), (0, u "arraycopy"), (0, u "(Ljava/lang/Object;ILjava/lang/Object;II)V"), (0, .methodref 8 179), (0, .nameAndType 180 164), (0, u "any"), (4, .fieldref 13 186), (0, .nameAndType 187 12), (0, u "booked"), (0, .fieldref 8 189), (0, .nameAndType 190 45), (0, u "size"), (0, .fieldref 8 192), (0, .nameAndType 193 45), (0, u "blocked"), (0, .methodref 8 195), (0, .nameAndType 196 197), (0, u "unbookedAt"), (0, u "(I)I"), (0, .methodref 8 199), (0, .nameAndType 200 201), (0, u "fitsUntil"), (0, u "(IJI)Z"), (0, .methodref 8 203), (0, .nameAndType 204 201), (0, u "freeAt"), (7, .methodref 8 213), (0, .nameAndType 214 215), (0, u "takeAway"), (0, u "([J[J)V"), (0, .methodref 8 217), (0, .nameAndType 218 99), (0, u "notBookedOver"), (0, .methodref 8 220), (0, .nameAndType 221 222), (0, u "put"), (0, u "([J[JZ)V"), (0, .methodref 8 224), (0, .nameAndType 225 92), (0, u "insert"), (0, .fieldref 13 227), (0, .nameAndType 228 12), (0, u "changedMoments"), (0, .fieldref 13 230), (0, .nameAndType 231 12), (0, u "changed"), (0, .methodref 8 233), (0, .nameAndType 234 235), (0, u "isNeedless"), (0, u "(II)Z"), (28, .methodref 13 265), (0, .nameAndType 5 215), (0, .methodref 267 268), (0, .class_ 12), (0, .nameAndType 269 270), (0, u "clone"), (0, u "()Ljava/lang/Object;"), (3, .methodref 23 275), (0, .nameAndType 276 92), (0, u "bitCount"), (3, u "book"), (0, u "(JJ[I)V")] 26

def k2c0 : Code := { maxStack := 5, maxLocals := 2, code := prog_29_method_1_code, exceptionTable := #[], attributes := #[] }
def k2m0 : Method := { name := "<init>", desc := "(I)V", sig := { parameters := [.int], returnType := none }, accessFlags := 0, code := some k2c0 }
def k2c1 : Code := { maxStack := 9, maxLocals := 6, code := prog_29_method_2_code, exceptionTable := #[], attributes := #[] }
def k2m1 : Method := { name := "book", desc := "(JJ[I)V", sig := { parameters := [.long, .long, (.array .int)], returnType := none }, accessFlags := 0, code := some k2c1 }
def k2c2 : Code := { maxStack := 7, maxLocals := 7, code := prog_29_method_7_code, exceptionTable := #[], attributes := #[] }
def k2m2 : Method := { name := "maskOf", desc := "([I)[J", sig := { parameters := [(.array .int)], returnType := some (.array .long) }, accessFlags := 0, code := some k2c2 }
def k2c3 : Code := { maxStack := 6, maxLocals := 4, code := prog_29_method_14_code, exceptionTable := #[], attributes := #[] }
def k2m3 : Method := { name := "holdsFree", desc := "([J)Z", sig := { parameters := [(.array .long)], returnType := some .boolean }, accessFlags := 0, code := some k2c3 }
def k2c4 : Code := { maxStack := 7, maxLocals := 5, code := prog_29_method_15_code, exceptionTable := #[], attributes := #[] }
def k2m4 : Method := { name := "findFree", desc := "(JJ)V", sig := { parameters := [.long, .long], returnType := none }, accessFlags := 0, code := some k2c4 }
def k2c5 : Code := { maxStack := 6, maxLocals := 7, code := prog_29_method_20_code, exceptionTable := #[], attributes := #[] }
def k2m5 : Method := { name := "fits", desc := "(IJJI)Z", sig := { parameters := [.int, .long, .long, .int], returnType := some .boolean }, accessFlags := 2, code := some k2c5 }
def k2c6 : Code := { maxStack := 4, maxLocals := 8, code := prog_29_method_23_code, exceptionTable := #[], attributes := #[] }
def k2m6 : Method := { name := "fitsUntil", desc := "(IJI)Z", sig := { parameters := [.int, .long, .int], returnType := some .boolean }, accessFlags := 2, code := some k2c6 }
def k2c7 : Code := { maxStack := 6, maxLocals := 10, code := prog_29_method_24_code, exceptionTable := #[], attributes := #[] }
def k2m7 : Method := { name := "freeAt", desc := "(IJI)Z", sig := { parameters := [.int, .long, .int], returnType := some .boolean }, accessFlags := 2, code := some k2c7 }
def k2c8 : Code := { maxStack := 6, maxLocals := 4, code := prog_29_method_25_code, exceptionTable := #[], attributes := #[] }
def k2m8 : Method := { name := "notBookedOver", desc := "(I)V", sig := { parameters := [.int], returnType := none }, accessFlags := 2, code := some k2c8 }
def k2c9 : Code := { maxStack := 2, maxLocals := 2, code := prog_29_method_27_code, exceptionTable := #[], attributes := #[] }
def k2m9 : Method := { name := "unbookedAt", desc := "(I)I", sig := { parameters := [.int], returnType := some .int }, accessFlags := 2, code := some k2c9 }
def k2c10 : Code := { maxStack := 6, maxLocals := 13, code := prog_29_method_32_code, exceptionTable := #[], attributes := #[] }
def k2m10 : Method := { name := "change", desc := "(JJ[I[JZZ)V", sig := { parameters := [.long, .long, (.array .int), (.array .long), .boolean, .boolean], returnType := none }, accessFlags := 2, code := some k2c10 }
def k2c11 : Code := { maxStack := 8, maxLocals := 5, code := prog_29_method_34_code, exceptionTable := #[], attributes := #[] }
def k2m11 : Method := { name := "put", desc := "([J[JZ)V", sig := { parameters := [(.array .long), (.array .long), .boolean], returnType := none }, accessFlags := 2, code := some k2c11 }
def k2c12 : Code := { maxStack := 6, maxLocals := 5, code := prog_29_method_35_code, exceptionTable := #[], attributes := #[] }
def k2m12 : Method := { name := "insert", desc := "(J)I", sig := { parameters := [.long], returnType := some .int }, accessFlags := 2, code := some k2c12 }
def k2c13 : Code := { maxStack := 4, maxLocals := 2, code := prog_29_method_36_code, exceptionTable := #[], attributes := #[] }
def k2m13 : Method := { name := "dropIfNeedless", desc := "(I)V", sig := { parameters := [.int], returnType := none }, accessFlags := 2, code := some k2c13 }
def k2c14 : Code := { maxStack := 3, maxLocals := 4, code := prog_29_method_37_code, exceptionTable := #[], attributes := #[] }
def k2m14 : Method := { name := "isNeedless", desc := "(II)Z", sig := { parameters := [.int, .int], returnType := some .boolean }, accessFlags := 2, code := some k2c14 }
def k2c15 : Code := { maxStack := 4, maxLocals := 6, code := prog_29_method_39_code, exceptionTable := #[], attributes := #[] }
def k2m15 : Method := { name := "indexAt", desc := "(J)I", sig := { parameters := [.long], returnType := some .int }, accessFlags := 2, code := some k2c15 }
def k2c16 : Code := { maxStack := 4, maxLocals := 4, code := prog_29_method_44_code, exceptionTable := #[], attributes := #[] }
def k2m16 : Method := { name := "any", desc := "([J)Z", sig := { parameters := [(.array .long)], returnType := some .boolean }, accessFlags := 2, code := some k2c16 }
def k2c17 : Code := { maxStack := 3, maxLocals := 4, code := prog_29_method_45_code, exceptionTable := #[], attributes := #[] }
def k2m17 : Method := { name := "count", desc := "([J)I", sig := { parameters := [(.array .long)], returnType := some .int }, accessFlags := 2, code := some k2c17 }
def k2c18 : Code := { maxStack := 8, maxLocals := 4, code := prog_29_method_46_code, exceptionTable := #[], attributes := #[] }
def k2m18 : Method := { name := "takeAway", desc := "([J[J)V", sig := { parameters := [(.array .long), (.array .long)], returnType := none }, accessFlags := 2, code := some k2c18 }
/-- org/foreslot/planning/ClusterTimeline -/
def k2 : Class := { plain "org/foreslot/planning/ClusterTimeline" (some 0) with
  accessFlags := 48
  interfaces := #[]
  cf := some (fileOf pool2 8 #[.nestMembers #[66, 13]] #[{ accessFlags := 0, nameIndex := 5, descriptorIndex := 99, attributes := #[] }, { accessFlags := 0, nameIndex := 280, descriptorIndex := 281, attributes := #[] }, { accessFlags := 0, nameIndex := 74, descriptorIndex := 75, attributes := #[] }, { accessFlags := 0, nameIndex := 163, descriptorIndex := 164, attributes := #[] }, { accessFlags := 0, nameIndex := 159, descriptorIndex := 160, attributes := #[] }, { accessFlags := 2, nameIndex := 132, descriptorIndex := 133, attributes := #[] }, { accessFlags := 2, nameIndex := 200, descriptorIndex := 201, attributes := #[] }, { accessFlags := 2, nameIndex := 204, descriptorIndex := 201, attributes := #[] }, { accessFlags := 2, nameIndex := 218, descriptorIndex := 99, attributes := #[] }, { accessFlags := 2, nameIndex := 196, descriptorIndex := 197, attributes := #[] }, { accessFlags := 2, nameIndex := 78, descriptorIndex := 79, attributes := #[] }, { accessFlags := 2, nameIndex := 221, descriptorIndex := 222, attributes := #[] }, { accessFlags := 2, nameIndex := 225, descriptorIndex := 92, attributes := #[] }, { accessFlags := 2, nameIndex := 121, descriptorIndex := 99, attributes := #[] }, { accessFlags := 2, nameIndex := 234, descriptorIndex := 235, attributes := #[] }, { accessFlags := 2, nameIndex := 91, descriptorIndex := 92, attributes := #[] }, { accessFlags := 2, nameIndex := 180, descriptorIndex := 164, attributes := #[] }, { accessFlags := 2, nameIndex := 170, descriptorIndex := 171, attributes := #[] }, { accessFlags := 2, nameIndex := 214, descriptorIndex := 215, attributes := #[] }] 48 2 #[] #[{ accessFlags := 18, nameIndex := 44, descriptorIndex := 45, attributes := #[] }, { accessFlags := 18, nameIndex := 48, descriptorIndex := 45, attributes := #[] }, { accessFlags := 18, nameIndex := 53, descriptorIndex := 30, attributes := #[] }, { accessFlags := 2, nameIndex := 11, descriptorIndex := 12, attributes := #[] }, { accessFlags := 2, nameIndex := 17, descriptorIndex := 18, attributes := #[] }, { accessFlags := 2, nameIndex := 21, descriptorIndex := 22, attributes := #[] }, { accessFlags := 2, nameIndex := 190, descriptorIndex := 45, attributes := #[] }, { accessFlags := 2, nameIndex := 29, descriptorIndex := 30, attributes := #[] }, { accessFlags := 18, nameIndex := 56, descriptorIndex := 12, attributes := #[] }, { accessFlags := 2, nameIndex := 193, descriptorIndex := 45, attributes := #[] }, { accessFlags := 18, nameIndex := 62, descriptorIndex := 12, attributes := #[] }, { accessFlags := 18, nameIndex := 70, descriptorIndex := 71, attributes := #[] }, { accessFlags := 2, nameIndex := 33, descriptorIndex := 30, attributes := #[] }, { accessFlags := 18, nameIndex := 59, descriptorIndex := 12, attributes := #[] }, { accessFlags := 18, nameIndex := 65, descriptorIndex := 12, attributes := #[] }, { accessFlags := 2, nameIndex := 38, descriptorIndex := 30, attributes := #[] }, { accessFlags := 2, nameIndex := 41, descriptorIndex := 30, attributes := #[] }])
  fields := #[{ name := "nodes", type := .int, accessFlags := 18, slot := 0, constantValue := 0 }, { name := "words", type := .int, accessFlags := 18, slot := 1, constantValue := 0 }, { name := "lastWord", type := .long, accessFlags := 18, slot := 2, constantValue := 0 }, { name := "times", type := (.array .long), accessFlags := 2, slot := 3, constantValue := 0 }, { name := "stretches", type := (.array (.object "org/foreslot/planning/ClusterTimeline$Stretch")), accessFlags := 2, slot := 4, constantValue := 0 }, { name := "unbooked", type := (.array .int), accessFlags := 2, slot := 5, constantValue := 0 }, { name := "size", type := .int, accessFlags := 2, slot := 6, constantValue := 0 }, { name := "floor", type := .long, accessFlags := 2, slot := 7, constantValue := 0 }, { name := "found", type := (.array .long), accessFlags := 18, slot := 8, constantValue := 0 }, { name := "blocked", type := .int, accessFlags := 2, slot := 9, constantValue := 0 }, { name := "clear", type := (.array .long), accessFlags := 18, slot := 10, constantValue := 0 }, { name := "startsFound", type := (.array (.object "org/foreslot/planning/ClusterTimeline$Starts")), accessFlags := 18, slot := 11, constantValue := 0 }, { name := "losses", type := .long, accessFlags := 2, slot := 12, constantValue := 0 }, { name := "pending", type := (.array .long), accessFlags := 18, slot := 13, constantValue := 0 }, { name := "markedNodes", type := (.array .long), accessFlags := 18, slot := 14, constantValue := 0 }, { name := "markedFrom", type := .long, accessFlags := 2, slot := 15, constantValue := 0 }, { name := "markedUntil", type := .long, accessFlags := 2, slot := 16, constantValue := 0 }]
  methods := #[k2m0, k2m1, k2m2, k2m3, k2m4, k2m5, k2m6, k2m7, k2m8, k2m9, k2m10, k2m11, k2m12, k2m13, k2m14, k2m15, k2m16, k2m17, k2m18]
  instanceTypes := #[.int, .int, .long, (.array .long), (.array (.object "org/foreslot/planning/ClusterTimeline$Stretch")), (.array .int), .int, .long, (.array .long), .int, (.array .long), (.array (.object "org/foreslot/planning/ClusterTimeline$Starts")), .long, (.array .long), (.array .long), .long, .long]
  staticTypes := #[]
  resolved := Array.replicate 308 none
  statics := none }

def pool3 : Array CpInfo := pool [(1, .methodref 2 3), (0, .class_ 4), (0, .nameAndType 5 6), (0, u "java/lang/Object"), (0, u "<init>"), (0, u "()V"), (0, .fieldref 8 9), (0, .class_ 10), (0, .nameAndType 11 12), (0, u "org/foreslot/planning/ClusterTimeline$Stretch"), (0, u "booked"), (0, u "[J"), (0, .fieldref 8 14), (0, .nameAndType 15 12), (0, u "ends"), (0, .fieldref 8 17), (0, .nameAndType 18 12), (0, u "changed"), (0, u "moments"), (0, u "momentCounts"), (0, u "[I"), (0, u "changedMoments"), (0, u "([J[J)V"), (5, .class_ 30), (0, u "org/foreslot/planning/ClusterTimeline")] 2

def k3c0 : Code := { maxStack := 2, maxLocals := 3, code := prog_31_method_1_code, exceptionTable := #[], attributes := #[] }
def k3m0 : Method := { name := "<init>", desc := "([J[J)V", sig := { parameters := [(.array .long), (.array .long)], returnType := none }, accessFlags := 0, code := some k3c0 }
/-- org/foreslot/planning/ClusterTimeline$Stretch -/
def k3 : Class := { plain "org/foreslot/planning/ClusterTimeline$Stretch" (some 0) with
  accessFlags := 48
  interfaces := #[]
  cf := some (fileOf pool3 8 #[.nestHost 29] #[{ accessFlags := 0, nameIndex := 5, descriptorIndex := 23, attributes := #[] }] 48 2 #[] #[{ accessFlags := 16, nameIndex := 11, descriptorIndex := 12, attributes := #[] }, { accessFlags := 16, nameIndex := 15, descriptorIndex := 12, attributes := #[] }, { accessFlags := 0, nameIndex := 19, descriptorIndex := 12, attributes := #[] }, { accessFlags := 0, nameIndex := 20, descriptorIndex := 21, attributes := #[] }, { accessFlags := 0, nameIndex := 18, descriptorIndex := 12, attributes := #[] }, { accessFlags := 0, nameIndex := 22, descriptorIndex := 12, attributes := #[] }])
  fields := #[{ name := "booked", type := (.array .long), accessFlags := 16, slot := 0, constantValue := 0 }, { name := "ends", type := (.array .long), accessFlags := 16, slot := 1, constantValue := 0 }, { name := "moments", type := (.array .long), accessFlags := 0, slot := 2, constantValue := 0 }, { name := "momentCounts", type := (.array .int), accessFlags := 0, slot := 3, constantValue := 0 }, { name := "changed", type := (.array .long), accessFlags := 0, slot := 4, constantValue := 0 }, { name := "changedMoments", type := (.array .long), accessFlags := 0, slot := 5, constantValue := 0 }]
  methods := #[k3m0]
  instanceTypes := #[(.array .long), (.array .long), (.array .long), (.array .int), (.array .long), (.array .long)]
  staticTypes := #[]
  resolved := Array.replicate 33 none
  statics := none }

def pool4 : Array CpInfo := pool [(2, .class_ 4), (1, u "java/lang/Object"), (0, u "<init>"), (0, u "()V"), (0, .class_ 8), (0, u "org/foreslot/planning/ClusterTimeline$Starts"), (2, u "froms"), (0, u "[J"), (2, u "durations"), (2, u "starts"), (2, u "losses"), (0, u "KEPT"), (0, u "I"), (2, u "next"), (5, .class_ 33), (0, u "org/foreslot/planning/ClusterTimeline")] 2

def k4m0 : Method := { name := "<init>", desc := "()V", sig := { parameters := [], returnType := none }, accessFlags := 2, code := none }
/-- org/foreslot/planning/ClusterTimeline$Starts -/
def k4 : Class := { plain "org/foreslot/planning/ClusterTimeline$Starts" (some 0) with
  accessFlags := 48
  interfaces := #[]
  cf := some (fileOf pool4 7 #[.nestHost 32] #[{ accessFlags := 2, nameIndex := 5, descriptorIndex := 6, attributes := #[] }] 48 2 #[] #[{ accessFlags := 24, nameIndex := 22, descriptorIndex := 23, attributes := #[] }, { accessFlags := 16, nameIndex := 11, descriptorIndex := 12, attributes := #[] }, { accessFlags := 16, nameIndex := 15, descriptorIndex := 12, attributes := #[] }, { accessFlags := 16, nameIndex := 18, descriptorIndex := 12, attributes := #[] }, { accessFlags := 16, nameIndex := 21, descriptorIndex := 12, attributes := #[] }, { accessFlags := 0, nameIndex := 26, descriptorIndex := 23, attributes := #[] }])
  fields := #[{ name := "KEPT", type := .int, accessFlags := 24, slot := 0, constantValue := 0 }, { name := "froms", type := (.array .long), accessFlags := 16, slot := 0, constantValue := 0 }, { name := "durations", type := (.array .long), accessFlags := 16, slot := 1, constantValue := 0 }, { name := "starts", type := (.array .long), accessFlags := 16, slot := 2, constantValue := 0 }, { name := "losses", type := (.array .long), accessFlags := 16, slot := 3, constantValue := 0 }, { name := "next", type := .int, accessFlags := 0, slot := 4, constantValue := 0 }]
  methods := #[k4m0]
  instanceTypes := #[(.array .long), (.array .long), (.array .long), (.array .long), .int]
  staticTypes := #[.int]
  resolved := Array.replicate 36 none
  statics := none }

def pool5 : Array CpInfo := pool [(1, .class_ 2), (0, u "java/lang/Math"), (1, .class_ 6), (1, u "java/lang/Object"), (0, u "<init>"), (0, u "()V"), (89, .class_ 100), (1, u "java/lang/Math$RandomNumberGeneratorHolder"), (20, u "(JJ)J"), (50, u "negativeZeroFloatBits"), (0, u "J"), (2, u "negativeZeroDoubleBits"), (21, u "max"), (46, u "$assertionsDisabled"), (0, u "Z"), (91, u "twoToTheDoubleScaleDown"), (0, u "D"), (4, u "twoToTheDoubleScaleUp"), (9, u "E"), (3, u "PI"), (2, u "TAU"), (2, u "DEGREES_TO_RADIANS"), (0, u "RADIANS_TO_DEGREES")] 94

def k5m0 : Method := { name := "<init>", desc := "()V", sig := { parameters := [], returnType := none }, accessFlags := 2, code := none }
def k5c1 : Code := { maxStack := 4, maxLocals := 4, code := jdk_29_method_66_code, exceptionTable := #[], attributes := #[] }
def k5m1 : Method := { name := "max", desc := "(JJ)J", sig := { parameters := [.long, .long], returnType := some .long }, accessFlags := 9, code := some k5c1 }
/-- java/lang/Math -/
def k5 : Class := { plain "java/lang/Math" (some 0) with
  accessFlags := 49
  interfaces := #[]
  cf := some (fileOf pool5 1 #[.nestMembers #[98]] #[{ accessFlags := 2, nameIndex := 7, descriptorIndex := 8, attributes := #[] }, { accessFlags := 9, nameIndex := 198, descriptorIndex := 121, attributes := #[] }] 49 4 #[] #[{ accessFlags := 25, nameIndex := 354, descriptorIndex := 339, attributes := #[] }, { accessFlags := 25, nameIndex := 358, descriptorIndex := 339, attributes := #[] }, { accessFlags := 25, nameIndex := 361, descriptorIndex := 339, attributes := #[] }, { accessFlags := 26, nameIndex := 364, descriptorIndex := 339, attributes := #[] }, { accessFlags := 26, nameIndex := 365, descriptorIndex := 339, attributes := #[] }, { accessFlags := 26, nameIndex := 172, descriptorIndex := 173, attributes := #[] }, { accessFlags := 26, nameIndex := 176, descriptorIndex := 173, attributes := #[] }, { accessFlags := 8, nameIndex := 344, descriptorIndex := 339, attributes := #[] }, { accessFlags := 8, nameIndex := 338, descriptorIndex := 339, attributes := #[] }, { accessFlags := 4120, nameIndex := 245, descriptorIndex := 246, attributes := #[] }])
  fields := #[{ name := "E", type := .double, accessFlags := 25, slot := 0, constantValue := 0 }, { name := "PI", type := .double, accessFlags := 25, slot := 1, constantValue := 0 }, { name := "TAU", type := .double, accessFlags := 25, slot := 2, constantValue := 0 }, { name := "DEGREES_TO_RADIANS", type := .double, accessFlags := 26, slot := 3, constantValue := 0 }, { name := "RADIANS_TO_DEGREES", type := .double, accessFlags := 26, slot := 4, constantValue := 0 }, { name := "negativeZeroFloatBits", type := .long, accessFlags := 26, slot := 5, constantValue := 0 }, { name := "negativeZeroDoubleBits", type := .long, accessFlags := 26, slot := 6, constantValue := 0 }, { name := "twoToTheDoubleScaleUp", type := .double, accessFlags := 8, slot := 7, constantValue := 0 }, { name := "twoToTheDoubleScaleDown", type := .double, accessFlags := 8, slot := 8, constantValue := 0 }, { name := "$assertionsDisabled", type := .boolean, accessFlags := 4120, slot := 9, constantValue := 0 }]
  methods := #[k5m0, k5m1]
  instanceTypes := #[]
  staticTypes := #[.double, .double, .double, .double, .double, .long, .long, .double, .double, .boolean]
  resolved := Array.replicate 460 none
  statics := none }

def pool6 : Array CpInfo := pool [(2, .class_ 4), (1, u "java/lang/Object"), (0, u "<init>"), (0, u "()V"), (1, .class_ 10), (1, u "java/lang/System"), (0, u "allowSecurityManager"), (0, u "I"), (16, u "cons"), (0, u "Ljava/io/Console;"), (77, .class_ 110), (1, u "java/lang/System$CallersHolder"), (43, u "initialErrStream"), (0, u "Ljava/io/PrintStream;"), (19, u "security"), (0, u "Ljava/lang/SecurityManager;"), (31, .class_ 209), (0, u "java/lang/System$1"), (7, u "props"), (0, u "Ljava/util/Properties;"), (2, u "lineSeparator"), (0, u "Ljava/lang/String;"), (96, .class_ 321), (1, u "java/lang/System$LoggerFinder"), (5, .class_ 328), (0, u "java/lang/System$Logger"), (67, u "err"), (2, u "out"), (91, u "notSupportedJnuEncoding"), (15, u "in"), (17, u "initialIn"), (0, u "Ljava/io/InputStream;"), (35, u "bootLayer"), (0, u "Ljava/lang/ModuleLayer;"), (99, .class_ 664), (0, u "java/lang/System$2"), (9, u "NEVER"), (2, u "MAYBE"), (49, u "arraycopy"), (0, u "(Ljava/lang/Object;ILjava/lang/Object;II)V"), (72, .class_ 802), (0, u "java/lang/System$Logger$Level")] 31

def k6m0 : Method := { name := "<init>", desc := "()V", sig := { parameters := [], returnType := none }, accessFlags := 2, code := none }
def k6m1 : Method := { name := "arraycopy", desc := "(Ljava/lang/Object;ILjava/lang/Object;II)V", sig := { parameters := [(.object "java/lang/Object"), .int, (.object "java/lang/Object"), .int, .int], returnType := none }, accessFlags := 265, code := none }
/-- java/lang/System -/
def k6 : Class := { plain "java/lang/System" (some 0) with
  accessFlags := 49
  interfaces := #[]
  cf := some (fileOf pool6 8 #[.nestMembers #[319, 327, 801, 108, 663, 208]] #[{ accessFlags := 2, nameIndex := 5, descriptorIndex := 6, attributes := #[] }, { accessFlags := 265, nameIndex := 727, descriptorIndex := 728, attributes := #[] }] 49 2 #[] #[{ accessFlags := 25, nameIndex := 507, descriptorIndex := 526, attributes := #[] }, { accessFlags := 25, nameIndex := 399, descriptorIndex := 155, attributes := #[] }, { accessFlags := 25, nameIndex := 396, descriptorIndex := 155, attributes := #[] }, { accessFlags := 10, nameIndex := 525, descriptorIndex := 526, attributes := #[] }, { accessFlags := 26, nameIndex := 674, descriptorIndex := 12, attributes := #[] }, { accessFlags := 26, nameIndex := 677, descriptorIndex := 12, attributes := #[] }, { accessFlags := 10, nameIndex := 11, descriptorIndex := 12, attributes := #[] }, { accessFlags := 74, nameIndex := 175, descriptorIndex := 176, attributes := #[] }, { accessFlags := 10, nameIndex := 491, descriptorIndex := 222, attributes := #[] }, { accessFlags := 74, nameIndex := 29, descriptorIndex := 30, attributes := #[] }, { accessFlags := 74, nameIndex := 154, descriptorIndex := 155, attributes := #[] }, { accessFlags := 10, nameIndex := 217, descriptorIndex := 218, attributes := #[] }, { accessFlags := 10, nameIndex := 221, descriptorIndex := 222, attributes := #[] }, { accessFlags := 8, nameIndex := 562, descriptorIndex := 563, attributes := #[] }])
  fields := #[{ name := "in", type := (.object "java/io/InputStream"), accessFlags := 25, slot := 0, constantValue := 0 }, { name := "out", type := (.object "java/io/PrintStream"), accessFlags := 25, slot := 1, constantValue := 0 }, { name := "err", type := (.object "java/io/PrintStream"), accessFlags := 25, slot := 2, constantValue := 0 }, { name := "initialIn", type := (.object "java/io/InputStream"), accessFlags := 10, slot := 3, constantValue := 0 }, { name := "NEVER", type := .int, accessFlags := 26, slot := 4, constantValue := 0 }, { name := "MAYBE", type := .int, accessFlags := 26, slot := 5, constantValue := 0 }, { name := "allowSecurityManager", type := .int, accessFlags := 10, slot := 6, constantValue := 0 }, { name := "security", type := (.object "java/lang/SecurityManager"), accessFlags := 74, slot := 7, constantValue := 0 }, { name := "notSupportedJnuEncoding", type := (.object "java/lang/String"), accessFlags := 10, slot := 8, constantValue := 0 }, { name := "cons", type := (.object "java/io/Console"), accessFlags := 74, slot := 9, constantValue := 0 }, { name := "initialErrStream", type := (.object "java/io/PrintStream"), accessFlags := 74, slot := 10, constantValue := 0 }, { name := "props", type := (.object "java/util/Properties"), accessFlags := 10, slot := 11, constantValue := 0 }, { name := "lineSeparator", type := (.object "java/lang/String"), accessFlags := 10, slot := 12, constantValue := 0 }, { name := "bootLayer", type := (.object "java/lang/ModuleLayer"), accessFlags := 8, slot := 13, constantValue := 0 }]
  methods := #[k6m0, k6m1]
  instanceTypes := #[]
  staticTypes := #[(.object "java/io/InputStream"), (.object "java/io/PrintStream"), (.object "java/io/PrintStream"), (.object "java/io/InputStream"), .int, .int, .int, (.object "java/lang/SecurityManager"), (.object "java/lang/String"), (.object "java/io/Console"), (.object "java/io/PrintStream"), (.object "java/util/Properties"), (.object "java/lang/String"), (.object "java/lang/ModuleLayer")]
  resolved := Array.replicate 834 none
  statics := none }

def pool7 : Array CpInfo := pool [(1, .class_ 2), (0, u "java/lang/Cloneable"), (0, .class_ 4), (0, u "java/lang/Object")] 2

/-- java/lang/Cloneable -/
def k7 : Class := { plain "java/lang/Cloneable" (some 0) with
  accessFlags := 1537
  interfaces := #[]
  cf := some (fileOf pool7 1 #[] #[] 1537 3 #[] #[])
  fields := #[]
  methods := #[]
  instanceTypes := #[]
  staticTypes := #[]
  resolved := Array.replicate 7 none
  statics := none }

def pool8 : Array CpInfo := pool [(2, .class_ 4), (1, u "java/lang/Object"), (0, u "<init>"), (0, u "()V"), (7, .class_ 16), (1, u "java/util/Arrays"), (57, .class_ 76), (1, u "java/util/Arrays$NaturalOrder"), (36, .class_ 115), (1, u "java/util/Arrays$LegacyMergeSort"), (1, u "Z"), (257, .class_ 376), (0, u "java/util/Arrays$ArrayList"), (68, u "$assertionsDisabled"), (269, u "MIN_ARRAY_SORT_GRAN"), (0, u "I"), (2, u "INSERTIONSORT_THRESHOLD"), (120, u "fill"), (0, u "([JJ)V"), (133, .class_ 976), (0, u "java/util/Arrays$ArrayItr")] 52

def k8m0 : Method := { name := "<init>", desc := "()V", sig := { parameters := [], returnType := none }, accessFlags := 2, code := none }
def k8c1 : Code := { maxStack := 4, maxLocals := 5, code := jdk_65_method_101_code, exceptionTable := #[], attributes := #[] }
def k8m1 : Method := { name := "fill", desc := "([JJ)V", sig := { parameters := [(.array .long), .long], returnType := none }, accessFlags := 9, code := some k8c1 }
/-- java/util/Arrays -/
def k8 : Class := { plain "java/util/Arrays" (some 0) with
  accessFlags := 49
  interfaces := #[]
  cf := some (fileOf pool8 14 #[.nestMembers #[975, 375, 113, 74]] #[{ accessFlags := 2, nameIndex := 5, descriptorIndex := 6, attributes := #[] }, { accessFlags := 9, nameIndex := 840, descriptorIndex := 841, attributes := #[] }] 49 2 #[] #[{ accessFlags := 26, nameIndex := 715, descriptorIndex := 716, attributes := #[] }, { accessFlags := 26, nameIndex := 719, descriptorIndex := 716, attributes := #[] }, { accessFlags := 4120, nameIndex := 445, descriptorIndex := 117, attributes := #[] }])
  fields := #[{ name := "MIN_ARRAY_SORT_GRAN", type := .int, accessFlags := 26, slot := 0, constantValue := 0 }, { name := "INSERTIONSORT_THRESHOLD", type := .int, accessFlags := 26, slot := 1, constantValue := 0 }, { name := "$assertionsDisabled", type := .boolean, accessFlags := 4120, slot := 2, constantValue := 0 }]
  methods := #[k8m0, k8m1]
  instanceTypes := #[]
  staticTypes := #[.int, .int, .boolean]
  resolved := Array.replicate 1029 none
  statics := none }

def pool9 : Array CpInfo := pool [(1, .class_ 2), (0, u "java/io/Serializable"), (0, .class_ 4), (0, u "java/lang/Object")] 2

/-- java/io/Serializable -/
def k9 : Class := { plain "java/io/Serializable" (some 0) with
  accessFlags := 1537
  interfaces := #[]
  cf := some (fileOf pool9 1 #[] #[] 1537 3 #[] #[])
  fields := #[]
  methods := #[]
  instanceTypes := #[]
  staticTypes := #[]
  resolved := Array.replicate 7 none
  statics := none }

def pool10 : Array CpInfo := pool [(2, .class_ 4), (1, u "java/lang/Object"), (0, u "<init>"), (0, u "()V"), (1, .class_ 10), (1, u "java/lang/Number"), (2, .class_ 14), (0, u "java/io/Serializable"), (0, u "serialVersionUID"), (0, u "J")] 20

def k10m0 : Method := { name := "<init>", desc := "()V", sig := { parameters := [], returnType := none }, accessFlags := 1, code := none }
/-- java/lang/Number -/
def k10 : Class := { plain "java/lang/Number" (some 0) with
  accessFlags := 1057
  interfaces := #[9]
  cf := some (fileOf pool10 8 #[] #[{ accessFlags := 1, nameIndex := 5, descriptorIndex := 6, attributes := #[] }] 1057 2 #[13] #[{ accessFlags := 26, nameIndex := 15, descriptorIndex := 16, attributes := #[] }])
  fields := #[{ name := "serialVersionUID", type := .long, accessFlags := 26, slot := 0, constantValue := 0 }]
  methods := #[k10m0]
  instanceTypes := #[]
  staticTypes := #[.long]
  resolved := Array.replicate 37 none
  statics := none }

def pool11 : Array CpInfo := pool [(1, .class_ 2), (0, u "java/lang/Comparable"), (0, .class_ 4), (0, u "java/lang/Object")] 7

/-- java/lang/Comparable -/
def k11 : Class := { plain "java/lang/Comparable" (some 0) with
  accessFlags := 1537
  interfaces := #[]
  cf := some (fileOf pool11 1 #[] #[] 1537 3 #[] #[])
  fields := #[]
  methods := #[]
  instanceTypes := #[]
  staticTypes := #[]
  resolved := Array.replicate 12 none
  statics := none }

def pool12 : Array CpInfo := pool [(1, .class_ 2), (0, u "java/lang/constant/Constable"), (0, .class_ 4), (0, u "java/lang/Object")] 6

/-- java/lang/constant/Constable -/
def k12 : Class := { plain "java/lang/constant/Constable" (some 0) with
  accessFlags := 1537
  interfaces := #[]
  cf := some (fileOf pool12 1 #[] #[] 1537 3 #[] #[])
  fields := #[]
  methods := #[]
  instanceTypes := #[]
  staticTypes := #[]
  resolved := Array.replicate 11 none
  statics := none }

def pool13 : Array CpInfo := pool [(1, .class_ 2), (0, u "java/lang/constant/ConstantDesc"), (0, .class_ 4), (0, u "java/lang/Object")] 32

/-- java/lang/constant/ConstantDesc -/
def k13 : Class := { plain "java/lang/constant/ConstantDesc" (some 0) with
  accessFlags := 1537
  interfaces := #[]
  cf := some (fileOf pool13 1 #[] #[] 1537 3 #[] #[])
  fields := #[]
  methods := #[]
  instanceTypes := #[]
  staticTypes := #[]
  resolved := Array.replicate 37 none
  statics := none }

def pool14 : Array CpInfo := pool [(1, .class_ 2), (0, u "java/lang/Long"), (98, u "(J)I"), (133, .class_ 237), (1, u "java/lang/Long$LongCache"), (33, .class_ 272), (0, u "java/lang/Number"), (2, u "value"), (0, u "J"), (37, .long 6148914691236517205), (1, .long 3689348814741910323), (1, .long 1085102592571150095), (42, u "TYPE"), (0, u "Ljava/lang/Class;"), (0, .class_ 364), (0, u "java/lang/Comparable"), (0, .class_ 366), (0, u "java/lang/constant/Constable"), (0, .class_ 368), (0, u "java/lang/constant/ConstantDesc"), (0, u "MIN_VALUE"), (1, u "MAX_VALUE"), (4, u "SIZE"), (0, u "I"), (1, u "BYTES"), (1, u "serialVersionUID"), (94, u "bitCount")] 47

def k14c0 : Code := { maxStack := 6, maxLocals := 2, code := jdk_35_method_50_code, exceptionTable := #[], attributes := #[] }
def k14m0 : Method := { name := "bitCount", desc := "(J)I", sig := { parameters := [.long], returnType := some .int }, accessFlags := 9, code := some k14c0 }
/-- java/lang/Long -/
def k14 : Class := { plain "java/lang/Long" (some 10) with
  accessFlags := 49
  interfaces := #[11, 12, 13]
  cf := some (fileOf pool14 1 #[.nestMembers #[235]] #[{ accessFlags := 9, nameIndex := 476, descriptorIndex := 101, attributes := #[] }] 49 271 #[363, 365, 367] #[{ accessFlags := 25, nameIndex := 369, descriptorIndex := 276, attributes := #[] }, { accessFlags := 25, nameIndex := 371, descriptorIndex := 276, attributes := #[] }, { accessFlags := 25, nameIndex := 361, descriptorIndex := 362, attributes := #[] }, { accessFlags := 18, nameIndex := 275, descriptorIndex := 276, attributes := #[] }, { accessFlags := 25, nameIndex := 376, descriptorIndex := 377, attributes := #[] }, { accessFlags := 25, nameIndex := 379, descriptorIndex := 377, attributes := #[] }, { accessFlags := 26, nameIndex := 381, descriptorIndex := 276, attributes := #[] }])
  fields := #[{ name := "MIN_VALUE", type := .long, accessFlags := 25, slot := 0, constantValue := 0 }, { name := "MAX_VALUE", type := .long, accessFlags := 25, slot := 1, constantValue := 0 }, { name := "TYPE", type := (.object "java/lang/Class"), accessFlags := 25, slot := 2, constantValue := 0 }, { name := "value", type := .long, accessFlags := 18, slot := 0, constantValue := 0 }, { name := "SIZE", type := .int, accessFlags := 25, slot := 3, constantValue := 0 }, { name := "BYTES", type := .int, accessFlags := 25, slot := 4, constantValue := 0 }, { name := "serialVersionUID", type := .long, accessFlags := 26, slot := 5, constantValue := 0 }]
  methods := #[k14m0]
  instanceTypes := #[.long]
  staticTypes := #[.long, .long, (.object "java/lang/Class"), .int, .int, .long]
  resolved := Array.replicate 524 none
  statics := none }

/-- the primitive byte -/
def k15 : Class := { plain "byte" none with kind := .primitive 'B', accessFlags := 0x411 }
/-- [B -/
def k16 : Class := { plain "[B" (some 0) with kind := .array 15 .byte, interfaces := #[7, 9], accessFlags := 1041 }

/-- the primitive int -/
def k17 : Class := { plain "int" none with kind := .primitive 'I', accessFlags := 0x411 }
/-- [I -/
def k18 : Class := { plain "[I" (some 0) with kind := .array 17 .int, interfaces := #[7, 9], accessFlags := 1041 }

/-- the primitive long -/
def k19 : Class := { plain "long" none with kind := .primitive 'J', accessFlags := 0x411 }
/-- [J -/
def k20 : Class := { plain "[J" (some 0) with kind := .array 19 .long, interfaces := #[7, 9], accessFlags := 1041 }

/-- [Lorg/foreslot/planning/ClusterTimeline$Starts; -/
def k21 : Class := { plain "[Lorg/foreslot/planning/ClusterTimeline$Starts;" (some 0) with kind := .array 4 (.object "org/foreslot/planning/ClusterTimeline$Starts"), interfaces := #[7, 9], accessFlags := 1041 }

/-- [Lorg/foreslot/planning/ClusterTimeline$Stretch; -/
def k22 : Class := { plain "[Lorg/foreslot/planning/ClusterTimeline$Stretch;" (some 0) with kind := .array 3 (.object "org/foreslot/planning/ClusterTimeline$Stretch"), interfaces := #[7, 9], accessFlags := 1041 }

def heap : Heap := #[]
def classes : Array Class := #[k0, k1, k2, k3, k4, k5, k6, k7, k8, k9, k10, k11, k12, k13, k14, k15, k16, k17, k18, k19, k20, k21, k22]
def interned : List (Array UInt16 × Addr) := []
def slotsUsed : Nat := 0
def theMethod : MethodId := ⟨1, 1⟩
def args0 : Array Value := #[.int 5, .int 7, .int 9, .long 3, .long 4, .int 1]
def aboutOver (below : List Frame) : State where
  vm := { classes := classes, interned := interned.toArray }
  heap := heap
  slotsUsed := slotsUsed
  threads := #[{ frames := .invoking theMethod args0 :: below }]
def below0 : List Frame := [.native { method := ⟨0, 0⟩, args := #[] }]
def about1 : State := aboutOver below0
def p0 : Program := .bare "" "" ""
def e0 : Env := launch0.env 0 0 0
theorem w_frames : about1.frames = Frame.invoking theMethod args0 :: below0 := rfl
set_option maxRecDepth 65536 in
theorem w_args : argsFit about1.vm theMethod args0 = true := by decide +kernel
set_option maxRecDepth 65536 in
theorem w_heap : heapFits about1 = true := by decide +kernel
set_option maxRecDepth 65536 in
theorem w_runnable : about1.curStatus? = some .runnable := by decide +kernel
set_option maxRecDepth 65536 in
theorem w_alone : about1.alone = true := by decide +kernel
set_option maxRecDepth 65536 in
theorem w_named : about1.methodNamed? x = some theMethod := by decide +kernel
set_option maxRecDepth 65536 in
theorem w_hears : about1.hears theMethod below0 = true := by decide +kernel
set_option maxRecDepth 65536 in
theorem w_ripe : about1.ripe theMethod args0 below0 = true := by decide +kernel
theorem w_running : about1.status = .running := rfl
set_option maxRecDepth 65536 in
theorem w_room : about1.hasRoom e0.platform room_1 = true :=
  launch0.hasRoom_least _ room_1 (by decide +kernel) (by decide +kernel) (by decide +kernel) (by decide +kernel) (by decide +kernel) (by decide +kernel)
theorem allAtoms_all (ts : List Jvm.Cond) (a : Array Jvm.Value) (st : Jvm.State) : (allAtoms ts).before a st = ts.all (fun c => c.before a st) := by
  induction ts with
  | nil => rfl
  | cons c t ih =>
    show (Jvm.Cond.and c (allAtoms t)).before a st = _
    rw [Jvm.Cond.before_and, ih, List.all_cons]
def words1 : List Jvm.Cond := Jvm.Cond.code x code maxLocals ret :: tables_1
/-- a 'code' word, met by the world's own term for the bytes: nothing is compared byte by byte -/
theorem code_word {y : MethodName} {bytes : ByteArray} {mx : Nat} {rt : Option FieldType} {a : Array Value} {s : State} {m : MethodId} {meth : Method} {c : Code} (h1 : s.methodNamed? y = some m) (h2 : s.vm.method? m = some meth) (h3 : meth.code = some c) (h4 : c.code = bytes)
    (h5 : (c.maxLocals == mx && c.exceptionTable.isEmpty && decide (c.maxStack ≤ mostOperands) && decide (meth.sig.returnType = rt) && !meth.locks && decide (parseMethodDescriptor y.desc = some meth.sig)) = true) : (Jvm.Cond.code y bytes mx rt).before a s = true := by
  simp only [Bool.and_eq_true, beq_iff_eq, Bool.not_eq_true', decide_eq_true_eq] at h5
  obtain ⟨⟨⟨⟨⟨g1, g2⟩, g3⟩, g4⟩, g5⟩, g6⟩ := h5
  simp [Cond.before, Cond.holds, Cond.value, h1, h2, h3, h4, g1, g2, g3, g4, g5, g6]
def isCode : Jvm.Cond → Bool
  | .code _ _ _ _ => true
  | _ => false
theorem all_split {L : List Jvm.Cond} {P : Jvm.Cond → Bool} (h1 : L.all (fun c => isCode c || P c) = true) (h2 : ∀ c ∈ L.filter isCode, P c = true) : L.all P = true := by
  refine List.all_eq_true.mpr fun c hc => ?_
  have h := List.all_eq_true.mp h1 c hc
  rcases Bool.eq_false_or_eq_true (isCode c) with hi | hi
  · exact h2 c (List.mem_filter.mpr ⟨hc, hi⟩)
  · simpa [hi] using h
set_option maxRecDepth 65536 in
theorem w_c0 : (Jvm.Cond.code x code maxLocals ret).before args0 about1 = true := code_word (m := ⟨1, 1⟩) (meth := k1m1) (c := k1c1) (by decide +kernel) rfl rfl rfl (by decide +kernel)
set_option maxRecDepth 65536 in
theorem w_c1 : (Jvm.Cond.code ({ cls := "org/foreslot/planning/ClusterTimeline", name := "<init>", desc := "(I)V" } : Jvm.MethodName) prog_29_method_1_code (2 : Nat) (Option.none : Option Jvm.ClassFile.FieldType)).before args0 about1 = true := code_word (m := ⟨2, 0⟩) (meth := k2m0) (c := k2c0) (by decide +kernel) rfl rfl rfl (by decide +kernel)
set_option maxRecDepth 65536 in
theorem w_c2 : (Jvm.Cond.code ({ cls := "java/lang/Object", name := "<init>", desc := "()V" } : Jvm.MethodName) object_method_1_code (1 : Nat) (Option.none : Option Jvm.ClassFile.FieldType)).before args0 about1 = true := code_word (m := ⟨0, 0⟩) (meth := k0m0) (c := k0c0) (by decide +kernel) rfl rfl rfl (by decide +kernel)
set_option maxRecDepth 65536 in
theorem w_c3 : (Jvm.Cond.code ({ cls := "org/foreslot/planning/ClusterTimeline", name := "book", desc := "(JJ[I)V" } : Jvm.MethodName) prog_29_method_2_code (6 : Nat) (Option.none : Option Jvm.ClassFile.FieldType)).before args0 about1 = true := code_word (m := ⟨2, 1⟩) (meth := k2m1) (c := k2c1) (by decide +kernel) rfl rfl rfl (by decide +kernel)
set_option maxRecDepth 65536 in
theorem w_c4 : (Jvm.Cond.code ({ cls := "org/foreslot/planning/ClusterTimeline", name := "maskOf", desc := "([I)[J" } : Jvm.MethodName) prog_29_method_7_code (7 : Nat) (Option.some (Jvm.ClassFile.FieldType.array Jvm.ClassFile.FieldType.long))).before args0 about1 = true := code_word (m := ⟨2, 2⟩) (meth := k2m2) (c := k2c2) (by decide +kernel) rfl rfl rfl (by decide +kernel)
set_option maxRecDepth 65536 in
theorem w_c5 : (Jvm.Cond.code ({ cls := "org/foreslot/planning/ClusterTimeline", name := "change", desc := "(JJ[I[JZZ)V" } : Jvm.MethodName) prog_29_method_32_code (13 : Nat) (Option.none : Option Jvm.ClassFile.FieldType)).before args0 about1 = true := code_word (m := ⟨2, 10⟩) (meth := k2m10) (c := k2c10) (by decide +kernel) rfl rfl rfl (by decide +kernel)
set_option maxRecDepth 65536 in
theorem w_c6 : (Jvm.Cond.code ({ cls := "java/lang/Math", name := "max", desc := "(JJ)J" } : Jvm.MethodName) jdk_29_method_66_code (4 : Nat) (Option.some Jvm.ClassFile.FieldType.long)).before args0 about1 = true := code_word (m := ⟨5, 1⟩) (meth := k5m1) (c := k5c1) (by decide +kernel) rfl rfl rfl (by decide +kernel)
set_option maxRecDepth 65536 in
theorem w_c7 : (Jvm.Cond.code ({ cls := "org/foreslot/planning/ClusterTimeline", name := "insert", desc := "(J)I" } : Jvm.MethodName) prog_29_method_35_code (5 : Nat) (Option.some Jvm.ClassFile.FieldType.int)).before args0 about1 = true := code_word (m := ⟨2, 12⟩) (meth := k2m12) (c := k2c12) (by decide +kernel) rfl rfl rfl (by decide +kernel)
set_option maxRecDepth 65536 in
theorem w_c8 : (Jvm.Cond.code ({ cls := "org/foreslot/planning/ClusterTimeline", name := "indexAt", desc := "(J)I" } : Jvm.MethodName) prog_29_method_39_code (6 : Nat) (Option.some Jvm.ClassFile.FieldType.int)).before args0 about1 = true := code_word (m := ⟨2, 15⟩) (meth := k2m15) (c := k2c15) (by decide +kernel) rfl rfl rfl (by decide +kernel)
set_option maxRecDepth 65536 in
theorem w_c9 : (Jvm.Cond.code ({ cls := "org/foreslot/planning/ClusterTimeline$Stretch", name := "<init>", desc := "([J[J)V" } : Jvm.MethodName) prog_31_method_1_code (3 : Nat) (Option.none : Option Jvm.ClassFile.FieldType)).before args0 about1 = true := code_word (m := ⟨3, 0⟩) (meth := k3m0) (c := k3c0) (by decide +kernel) rfl rfl rfl (by decide +kernel)
set_option maxRecDepth 65536 in
theorem w_c10 : (Jvm.Cond.code ({ cls := "org/foreslot/planning/ClusterTimeline", name := "put", desc := "([J[JZ)V" } : Jvm.MethodName) prog_29_method_34_code (5 : Nat) (Option.none : Option Jvm.ClassFile.FieldType)).before args0 about1 = true := code_word (m := ⟨2, 11⟩) (meth := k2m11) (c := k2c11) (by decide +kernel) rfl rfl rfl (by decide +kernel)
set_option maxRecDepth 65536 in
theorem w_c11 : (Jvm.Cond.code ({ cls := "org/foreslot/planning/ClusterTimeline", name := "dropIfNeedless", desc := "(I)V" } : Jvm.MethodName) prog_29_method_36_code (2 : Nat) (Option.none : Option Jvm.ClassFile.FieldType)).before args0 about1 = true := code_word (m := ⟨2, 13⟩) (meth := k2m13) (c := k2c13) (by decide +kernel) rfl rfl rfl (by decide +kernel)
set_option maxRecDepth 65536 in
theorem w_c12 : (Jvm.Cond.code ({ cls := "org/foreslot/planning/ClusterTimeline", name := "isNeedless", desc := "(II)Z" } : Jvm.MethodName) prog_29_method_37_code (4 : Nat) (Option.some Jvm.ClassFile.FieldType.boolean)).before args0 about1 = true := code_word (m := ⟨2, 14⟩) (meth := k2m14) (c := k2c14) (by decide +kernel) rfl rfl rfl (by decide +kernel)
set_option maxRecDepth 65536 in
theorem w_c13 : (Jvm.Cond.code ({ cls := "org/foreslot/planning/ClusterTimeline", name := "any", desc := "([J)Z" } : Jvm.MethodName) prog_29_method_44_code (4 : Nat) (Option.some Jvm.ClassFile.FieldType.boolean)).before args0 about1 = true := code_word (m := ⟨2, 16⟩) (meth := k2m16) (c := k2c16) (by decide +kernel) rfl rfl rfl (by decide +kernel)
set_option maxRecDepth 65536 in
theorem w_c14 : (Jvm.Cond.code ({ cls := "org/foreslot/planning/ClusterTimeline", name := "findFree", desc := "(JJ)V" } : Jvm.MethodName) prog_29_method_15_code (5 : Nat) (Option.none : Option Jvm.ClassFile.FieldType)).before args0 about1 = true := code_word (m := ⟨2, 4⟩) (meth := k2m4) (c := k2c4) (by decide +kernel) rfl rfl rfl (by decide +kernel)
set_option maxRecDepth 65536 in
theorem w_c15 : (Jvm.Cond.code ({ cls := "org/foreslot/planning/ClusterTimeline", name := "fits", desc := "(IJJI)Z" } : Jvm.MethodName) prog_29_method_20_code (7 : Nat) (Option.some Jvm.ClassFile.FieldType.boolean)).before args0 about1 = true := code_word (m := ⟨2, 5⟩) (meth := k2m5) (c := k2c5) (by decide +kernel) rfl rfl rfl (by decide +kernel)
set_option maxRecDepth 65536 in
theorem w_c16 : (Jvm.Cond.code ({ cls := "org/foreslot/planning/ClusterTimeline", name := "freeAt", desc := "(IJI)Z" } : Jvm.MethodName) prog_29_method_24_code (10 : Nat) (Option.some Jvm.ClassFile.FieldType.boolean)).before args0 about1 = true := code_word (m := ⟨2, 7⟩) (meth := k2m7) (c := k2c7) (by decide +kernel) rfl rfl rfl (by decide +kernel)
set_option maxRecDepth 65536 in
theorem w_c17 : (Jvm.Cond.code ({ cls := "org/foreslot/planning/ClusterTimeline", name := "notBookedOver", desc := "(I)V" } : Jvm.MethodName) prog_29_method_25_code (4 : Nat) (Option.none : Option Jvm.ClassFile.FieldType)).before args0 about1 = true := code_word (m := ⟨2, 8⟩) (meth := k2m8) (c := k2c8) (by decide +kernel) rfl rfl rfl (by decide +kernel)
set_option maxRecDepth 65536 in
theorem w_c18 : (Jvm.Cond.code ({ cls := "java/util/Arrays", name := "fill", desc := "([JJ)V" } : Jvm.MethodName) jdk_65_method_101_code (5 : Nat) (Option.none : Option Jvm.ClassFile.FieldType)).before args0 about1 = true := code_word (m := ⟨8, 1⟩) (meth := k8m1) (c := k8c1) (by decide +kernel) rfl rfl rfl (by decide +kernel)
set_option maxRecDepth 65536 in
theorem w_c19 : (Jvm.Cond.code ({ cls := "org/foreslot/planning/ClusterTimeline", name := "count", desc := "([J)I" } : Jvm.MethodName) prog_29_method_45_code (4 : Nat) (Option.some Jvm.ClassFile.FieldType.int)).before args0 about1 = true := code_word (m := ⟨2, 17⟩) (meth := k2m17) (c := k2c17) (by decide +kernel) rfl rfl rfl (by decide +kernel)
set_option maxRecDepth 65536 in
theorem w_c20 : (Jvm.Cond.code ({ cls := "java/lang/Long", name := "bitCount", desc := "(J)I" } : Jvm.MethodName) jdk_35_method_50_code (2 : Nat) (Option.some Jvm.ClassFile.FieldType.int)).before args0 about1 = true := code_word (m := ⟨14, 0⟩) (meth := k14m0) (c := k14c0) (by decide +kernel) rfl rfl rfl (by decide +kernel)
set_option maxRecDepth 65536 in
theorem w_c21 : (Jvm.Cond.code ({ cls := "org/foreslot/planning/ClusterTimelineHoldsFreePinLaw", name := "bit", desc := "(II)J" } : Jvm.MethodName) method_3_code (2 : Nat) (Option.some Jvm.ClassFile.FieldType.long)).before args0 about1 = true := code_word (m := ⟨1, 2⟩) (meth := k1m2) (c := k1c2) (by decide +kernel) rfl rfl rfl (by decide +kernel)
set_option maxRecDepth 65536 in
theorem w_c22 : (Jvm.Cond.code ({ cls := "org/foreslot/planning/ClusterTimeline", name := "holdsFree", desc := "([J)Z" } : Jvm.MethodName) prog_29_method_14_code (4 : Nat) (Option.some Jvm.ClassFile.FieldType.boolean)).before args0 about1 = true := code_word (m := ⟨2, 3⟩) (meth := k2m3) (c := k2c3) (by decide +kernel) rfl rfl rfl (by decide +kernel)
set_option maxRecDepth 65536 in
theorem w_c23 : (Jvm.Cond.code ({ cls := "org/foreslot/planning/ClusterTimeline", name := "unbookedAt", desc := "(I)I" } : Jvm.MethodName) prog_29_method_27_code (2 : Nat) (Option.some Jvm.ClassFile.FieldType.int)).before args0 about1 = true := code_word (m := ⟨2, 9⟩) (meth := k2m9) (c := k2c9) (by decide +kernel) rfl rfl rfl (by decide +kernel)
set_option maxRecDepth 65536 in
theorem w_c24 : (Jvm.Cond.code ({ cls := "org/foreslot/planning/ClusterTimeline", name := "fitsUntil", desc := "(IJI)Z" } : Jvm.MethodName) prog_29_method_23_code (8 : Nat) (Option.some Jvm.ClassFile.FieldType.boolean)).before args0 about1 = true := code_word (m := ⟨2, 6⟩) (meth := k2m6) (c := k2c6) (by decide +kernel) rfl rfl rfl (by decide +kernel)
set_option maxRecDepth 65536 in
theorem w_c25 : (Jvm.Cond.code ({ cls := "org/foreslot/planning/ClusterTimeline", name := "takeAway", desc := "([J[J)V" } : Jvm.MethodName) prog_29_method_46_code (4 : Nat) (Option.none : Option Jvm.ClassFile.FieldType)).before args0 about1 = true := code_word (m := ⟨2, 18⟩) (meth := k2m18) (c := k2c18) (by decide +kernel) rfl rfl rfl (by decide +kernel)
def codes1 : List Jvm.Cond := [Jvm.Cond.code x code maxLocals ret, Jvm.Cond.code ({ cls := "org/foreslot/planning/ClusterTimeline", name := "<init>", desc := "(I)V" } : Jvm.MethodName) prog_29_method_1_code (2 : Nat) (Option.none : Option Jvm.ClassFile.FieldType), Jvm.Cond.code ({ cls := "java/lang/Object", name := "<init>", desc := "()V" } : Jvm.MethodName) object_method_1_code (1 : Nat) (Option.none : Option Jvm.ClassFile.FieldType), Jvm.Cond.code ({ cls := "org/foreslot/planning/ClusterTimeline", name := "book", desc := "(JJ[I)V" } : Jvm.MethodName) prog_29_method_2_code (6 : Nat) (Option.none : Option Jvm.ClassFile.FieldType), Jvm.Cond.code ({ cls := "org/foreslot/planning/ClusterTimeline", name := "maskOf", desc := "([I)[J" } : Jvm.MethodName) prog_29_method_7_code (7 : Nat) (Option.some (Jvm.ClassFile.FieldType.array Jvm.ClassFile.FieldType.long)), Jvm.Cond.code ({ cls := "org/foreslot/planning/ClusterTimeline", name := "change", desc := "(JJ[I[JZZ)V" } : Jvm.MethodName) prog_29_method_32_code (13 : Nat) (Option.none : Option Jvm.ClassFile.FieldType), Jvm.Cond.code ({ cls := "java/lang/Math", name := "max", desc := "(JJ)J" } : Jvm.MethodName) jdk_29_method_66_code (4 : Nat) (Option.some Jvm.ClassFile.FieldType.long), Jvm.Cond.code ({ cls := "org/foreslot/planning/ClusterTimeline", name := "insert", desc := "(J)I" } : Jvm.MethodName) prog_29_method_35_code (5 : Nat) (Option.some Jvm.ClassFile.FieldType.int), Jvm.Cond.code ({ cls := "org/foreslot/planning/ClusterTimeline", name := "indexAt", desc := "(J)I" } : Jvm.MethodName) prog_29_method_39_code (6 : Nat) (Option.some Jvm.ClassFile.FieldType.int), Jvm.Cond.code ({ cls := "org/foreslot/planning/ClusterTimeline$Stretch", name := "<init>", desc := "([J[J)V" } : Jvm.MethodName) prog_31_method_1_code (3 : Nat) (Option.none : Option Jvm.ClassFile.FieldType), Jvm.Cond.code ({ cls := "org/foreslot/planning/ClusterTimeline", name := "put", desc := "([J[JZ)V" } : Jvm.MethodName) prog_29_method_34_code (5 : Nat) (Option.none : Option Jvm.ClassFile.FieldType), Jvm.Cond.code ({ cls := "org/foreslot/planning/ClusterTimeline", name := "dropIfNeedless", desc := "(I)V" } : Jvm.MethodName) prog_29_method_36_code (2 : Nat) (Option.none : Option Jvm.ClassFile.FieldType), Jvm.Cond.code ({ cls := "org/foreslot/planning/ClusterTimeline", name := "isNeedless", desc := "(II)Z" } : Jvm.MethodName) prog_29_method_37_code (4 : Nat) (Option.some Jvm.ClassFile.FieldType.boolean), Jvm.Cond.code ({ cls := "org/foreslot/planning/ClusterTimeline", name := "any", desc := "([J)Z" } : Jvm.MethodName) prog_29_method_44_code (4 : Nat) (Option.some Jvm.ClassFile.FieldType.boolean), Jvm.Cond.code ({ cls := "org/foreslot/planning/ClusterTimeline", name := "findFree", desc := "(JJ)V" } : Jvm.MethodName) prog_29_method_15_code (5 : Nat) (Option.none : Option Jvm.ClassFile.FieldType), Jvm.Cond.code ({ cls := "org/foreslot/planning/ClusterTimeline", name := "fits", desc := "(IJJI)Z" } : Jvm.MethodName) prog_29_method_20_code (7 : Nat) (Option.some Jvm.ClassFile.FieldType.boolean), Jvm.Cond.code ({ cls := "org/foreslot/planning/ClusterTimeline", name := "freeAt", desc := "(IJI)Z" } : Jvm.MethodName) prog_29_method_24_code (10 : Nat) (Option.some Jvm.ClassFile.FieldType.boolean), Jvm.Cond.code ({ cls := "org/foreslot/planning/ClusterTimeline", name := "notBookedOver", desc := "(I)V" } : Jvm.MethodName) prog_29_method_25_code (4 : Nat) (Option.none : Option Jvm.ClassFile.FieldType), Jvm.Cond.code ({ cls := "java/util/Arrays", name := "fill", desc := "([JJ)V" } : Jvm.MethodName) jdk_65_method_101_code (5 : Nat) (Option.none : Option Jvm.ClassFile.FieldType), Jvm.Cond.code ({ cls := "org/foreslot/planning/ClusterTimeline", name := "count", desc := "([J)I" } : Jvm.MethodName) prog_29_method_45_code (4 : Nat) (Option.some Jvm.ClassFile.FieldType.int), Jvm.Cond.code ({ cls := "java/lang/Long", name := "bitCount", desc := "(J)I" } : Jvm.MethodName) jdk_35_method_50_code (2 : Nat) (Option.some Jvm.ClassFile.FieldType.int), Jvm.Cond.code ({ cls := "org/foreslot/planning/ClusterTimelineHoldsFreePinLaw", name := "bit", desc := "(II)J" } : Jvm.MethodName) method_3_code (2 : Nat) (Option.some Jvm.ClassFile.FieldType.long), Jvm.Cond.code ({ cls := "org/foreslot/planning/ClusterTimeline", name := "holdsFree", desc := "([J)Z" } : Jvm.MethodName) prog_29_method_14_code (4 : Nat) (Option.some Jvm.ClassFile.FieldType.boolean), Jvm.Cond.code ({ cls := "org/foreslot/planning/ClusterTimeline", name := "unbookedAt", desc := "(I)I" } : Jvm.MethodName) prog_29_method_27_code (2 : Nat) (Option.some Jvm.ClassFile.FieldType.int), Jvm.Cond.code ({ cls := "org/foreslot/planning/ClusterTimeline", name := "fitsUntil", desc := "(IJI)Z" } : Jvm.MethodName) prog_29_method_23_code (8 : Nat) (Option.some Jvm.ClassFile.FieldType.boolean), Jvm.Cond.code ({ cls := "org/foreslot/planning/ClusterTimeline", name := "takeAway", desc := "([J[J)V" } : Jvm.MethodName) prog_29_method_46_code (4 : Nat) (Option.none : Option Jvm.ClassFile.FieldType)]
set_option maxRecDepth 65536 in
theorem codes_eq : words1.filter isCode = codes1 := rfl
theorem w_codes : ∀ c ∈ words1.filter isCode, c.before args0 about1 = true := by
  rw [codes_eq]
  intro c hc
  simp only [codes1, List.mem_cons, List.not_mem_nil, or_false] at hc
  rcases hc with rfl | rfl | rfl | rfl | rfl | rfl | rfl | rfl | rfl | rfl | rfl | rfl | rfl | rfl | rfl | rfl | rfl | rfl | rfl | rfl | rfl | rfl | rfl | rfl | rfl | rfl
  · exact w_c0
  · exact w_c1
  · exact w_c2
  · exact w_c3
  · exact w_c4
  · exact w_c5
  · exact w_c6
  · exact w_c7
  · exact w_c8
  · exact w_c9
  · exact w_c10
  · exact w_c11
  · exact w_c12
  · exact w_c13
  · exact w_c14
  · exact w_c15
  · exact w_c16
  · exact w_c17
  · exact w_c18
  · exact w_c19
  · exact w_c20
  · exact w_c21
  · exact w_c22
  · exact w_c23
  · exact w_c24
  · exact w_c25
set_option maxRecDepth 65536 in
theorem w_t1 : (words1.take 24).all (fun c => isCode c || c.before args0 about1) = true := by decide +kernel
set_option maxRecDepth 65536 in
theorem w_t2 : ((words1.drop 24).take 24).all (fun c => isCode c || c.before args0 about1) = true := by decide +kernel
set_option maxRecDepth 65536 in
theorem w_t3 : (((words1.drop 24).drop 24).take 24).all (fun c => isCode c || c.before args0 about1) = true := by decide +kernel
set_option maxRecDepth 65536 in
theorem w_t4 : ((((words1.drop 24).drop 24).drop 24).take 24).all (fun c => isCode c || c.before args0 about1) = true := by decide +kernel
set_option maxRecDepth 65536 in
theorem w_t5 : (((((words1.drop 24).drop 24).drop 24).drop 24).take 24).all (fun c => isCode c || c.before args0 about1) = true := by decide +kernel
set_option maxRecDepth 65536 in
theorem w_t6 : ((((((words1.drop 24).drop 24).drop 24).drop 24).drop 24).take 24).all (fun c => isCode c || c.before args0 about1) = true := by decide +kernel
set_option maxRecDepth 65536 in
theorem w_t7 : (((((((words1.drop 24).drop 24).drop 24).drop 24).drop 24).drop 24).take 24).all (fun c => isCode c || c.before args0 about1) = true := by decide +kernel
set_option maxRecDepth 65536 in
theorem w_t8 : (((((((words1.drop 24).drop 24).drop 24).drop 24).drop 24).drop 24).drop 24).all (fun c => isCode c || c.before args0 about1) = true := by decide +kernel
theorem w_tables : (allAtoms (Jvm.Cond.code x code maxLocals ret :: tables_1)).before args0 about1 = true := by
  rw [allAtoms_all]
  show words1.all (fun c => c.before args0 about1) = true
  refine all_split ?_ w_codes
  rw [← List.take_append_drop 24 words1, List.all_append, w_t1, ← List.take_append_drop 24 (words1.drop 24), List.all_append, w_t2, ← List.take_append_drop 24 ((words1.drop 24).drop 24), List.all_append, w_t3, ← List.take_append_drop 24 (((words1.drop 24).drop 24).drop 24), List.all_append, w_t4, ← List.take_append_drop 24 ((((words1.drop 24).drop 24).drop 24).drop 24), List.all_append, w_t5, ← List.take_append_drop 24 (((((words1.drop 24).drop 24).drop 24).drop 24).drop 24), List.all_append, w_t6, ← List.take_append_drop 24 ((((((words1.drop 24).drop 24).drop 24).drop 24).drop 24).drop 24), List.all_append, w_t7, w_t8]
  rfl
set_option maxRecDepth 65536 in
theorem w_case : (Jvm.Cond.and given_1 narrow_1).before args0 about1 = true := by decide +kernel
theorem w_applies : (headSpec (Jvm.Cond.code x code maxLocals ret :: tables_1) room_1).applies x e0.platform about1 = true :=
  (Spec.applies_iff w_frames).mpr ⟨w_running, w_runnable, w_alone, w_named, w_hears, w_ripe, w_room, w_tables⟩
theorem atStart : AtStart classFile x code maxLocals ret World_1 tables_1 room_1 Calls_1 rest_1 Pre_1 launch0 p0 e0 about1 theMethod args0 below0 :=
  ⟨lists_1, trivial, launch0.admits_env _ _ _, launch0.least_env, fairChoices_fair.cas, fairChoices_fair.clock, w_frames, w_args, w_heap, w_applies, trivial, trivial, w_case⟩
end start1
theorem witness_1 : WitnessClaimed_1 := ⟨start1.p0, start1.e0, start1.about1, start1.theMethod, start1.args0, start1.below0, start1.atStart⟩
end Jvm.Pilot.@@N@@
