import JvmDerived
import JvmDerived.Pilot.@@N@@Statement
import JvmDerived.Pilot.@@N@@Code
set_option linter.unusedVariables false
set_option linter.unusedSimpArgs false
@@BLOCK:NumsL.lean.txt@@
namespace Jvm.Pilot.@@N@@
open Jvm Jvm.ClassFile Sem Op Lib Jvm.Free Jvm.Stand Jvm.LawKit Jvm.RoadKit Bundle Jvm.Pilot.@@N@@.Jvm.D
section Own
variable {p : Program} {l : Launch} {e : Env} {R : Room} {s : State} {m : MethodId} {args : Array Value} {below : List Frame} {meth : Method} {c : Code} {T : State} {cells slots n0 : Nat} {Z : State} {a0 : Array Value} {h h' h0 : Heap} {own nm : String} {bytes : ByteArray} {mx : Nat} {rt : Option FieldType} {Q : Option Value → Heap → Prop} {En : Outcome → State → List Loc → Prop} {pc : Nat} {Ls : Array Slot} {S : List Value} {a b : Addr}
/-- the run from here ends as Q says -/
def ownGo (p : Program) (e : Env) (m : MethodId) (below : List Frame) (n0 : Nat) (En : Outcome → State → List Loc → Prop) (Q : Option Value → Heap → Prop) (T : State) (pc : Nat) (Ls : Array Slot) (S : List Value) : Prop :=
  ∃ s₂ o, Steps p.tables e below (T.setTop (mkF m pc Ls S)) s₂ ∧ s₂.status = .running ∧ Ended s₂ below o ∧ ∃ v L, o = .returned v ∧ (Q v s₂.heap ∧ Fr n0 L) ∧ En o s₂ L
abbrev ownEnd (s : State) (R : Room) (o : Outcome) (t : State) (L : List Loc) : Prop := FrameEnd s o t L R.cells R.slots
/-- where the walk stands -/
def ownSt (p : Program) (l : Launch) (e : Env) (R : Room) (s : State) (m : MethodId) (args : Array Value) (below : List Frame) (meth : Method) (c : Code) (Z : State) (n0 : Nat) (own : String) (bytes : ByteArray) (mx : Nat) (rt : Option FieldType) (nm : String) (T : State) (h : Heap) (cells slots : Nat) : Prop :=
  (p.tables.exec = Jvm.exec ∧ Z.Warmed39 s.vm ∧ c.code = bytes ∧ c.maxLocals = mx ∧ s.vm.findClass own = some m.cls ∧ meth.name = nm ∧ meth.sig.returnType = rt ∧ meth.locks = false) ∧ ∃ locs, Stand p l e R s m args below meth c T locs cells slots ∧ T.heap = h ∧ Fr n0 locs
def ownMet (l : Launch) (ws : List Jvm.Cond) (y : MethodName) (bytes : ByteArray) (mx : Nat) (rt : Option FieldType) (rm : Room) (Z : State) (n0 : Nat) (as' : Array Value) (h0 : Heap) (Q : Option Value → Heap → Prop) : Prop :=
  MetFree l y (head1 (Jvm.Cond.code y bytes mx rt :: ws) rm) (fun a U => a = as' ∧ Z.Warmed39 U.vm ∧ U.heap = h0) (fun _ _ _ _ _ => True) (fun _ U o U' => ∃ v L, o = .returned v ∧ (Q v U'.heap ∧ Fr n0 L) ∧ FrameEnd U o U' L rm.cells rm.slots)
theorem ownGo.step {T' : State} {pc' : Nat} {Ls' : Array Slot} {S' : List Value} (st : ∀ t, Steps p.tables e below (T'.setTop (mkF m pc' Ls' S')) t → Steps p.tables e below (T.setTop (mkF m pc Ls S)) t) (go : ownGo p e m below n0 En Q T' pc' Ls' S') : ownGo p e m below n0 En Q T pc Ls S := by
  obtain ⟨s₂, o, h1, h2⟩ := go
  exact ⟨s₂, o, st _ h1, h2⟩
theorem own_body {ws : List Jvm.Cond} {y : MethodName} {rm : Room} {as' : Array Value} {L0 : Array Slot} (pn : plainFor y = true) (ef : ∀ m, entryFrame m as' mx = mkF m 0 L0 []) (hc : y.cls = own) (hn : y.name = nm)
    (body : ∀ p e s m below meth c s₁, ownSt p l e rm s m as' below meth c Z n0 own bytes mx rt nm s₁ h0 0 0 → ownGo p e m below n0 (ownEnd s rm) Q s₁ 0 L0 []) : ownMet l ws y bytes mx rt rm Z n0 as' h0 Q := by
  subst hc hn
  refine MetFree.of_bodySF pn hisR ?_
  intro p e s m args below meth c s₁ Bd hml0 hP hK
  obtain ⟨rfl, hZ, hh⟩ := hP
  have e0 : s₁.heap = h0 := by rw [← hh, Bd.state]; rfl
  obtain ⟨s₂, o, h1, h2, h3, v, L, h4, h5, h6⟩ := body p e s m below meth c s₁ ⟨⟨Bd.exec, hZ, Bd.bytes, hml0, findClass_of_methodNamed Bd.named, (name_of_methodNamed Bd.named Bd.method).1, Bd.returns, Bd.notSynchronized⟩, [], Stand.of_body Bd, e0, Fr.nil n0⟩
  exact ⟨s₂, o, castTop (ef m) h1, h2, h3, v, L, h4, h5, h6⟩
theorem ownMet.mono {ws : List Jvm.Cond} {y : MethodName} {rm : Room} {as' : Array Value} {Q' : Option Value → Heap → Prop} (M : ownMet l ws y bytes mx rt rm Z n0 as' h0 Q) (q : ∀ v h, Q v h → Q' v h) : ownMet l ws y bytes mx rt rm Z n0 as' h0 Q' := by
  intro p e ha hc hk s m args below hf happ hP hK
  obtain ⟨n, o, h1, h2, h3, v, L, h4, ⟨h5, h5'⟩, h6⟩ := M p e ha hc hk s m args below hf happ hP hK
  exact ⟨n, o, h1, h2, h3, v, L, h4, ⟨q _ _ h5, h5'⟩, h6⟩
theorem ownGo.mono {Q' : Option Value → Heap → Prop} (go : ownGo p e m below n0 En Q T pc Ls S) (q : ∀ v h, Q v h → Q' v h) : ownGo p e m below n0 En Q' T pc Ls S := by
  obtain ⟨s₂, o, h1, h2, h3, v, L, h4, ⟨h5, h5'⟩, h6⟩ := go
  exact ⟨s₂, o, h1, h2, h3, v, L, h4, ⟨q _ _ h5, h5'⟩, h6⟩
theorem own_iload (G : ownSt p l e R s m args below meth c Z n0 own bytes mx rt nm T h cells slots) {k : Nat} {v : Int32} (hd : decode bytes pc = .ok (.iload k, 2)) (hl : Ls[k]? = some (.val (.int v))) (go : ownGo p e m below n0 En Q T (pc + 2) Ls (.int v :: S)) : ownGo p e m below n0 En Q T pc Ls S := by
  obtain ⟨⟨hx, hZ, hby, hml, hown, hnm, hret, hlk⟩, locs, X, eT, hN⟩ := G
  exact ownGo.step (fun t k => XS.iload X.here hx rfl (hb hby hd) hl k) go
theorem own_iloadN (G : ownSt p l e R s m args below meth c Z n0 own bytes mx rt nm T h cells slots) {k : Fin 4} {v : Int32} (hd : decode bytes pc = .ok (.iload_n k, 1)) (hl : Ls[k.val]? = some (.val (.int v))) (go : ownGo p e m below n0 En Q T (pc + 1) Ls (.int v :: S)) : ownGo p e m below n0 En Q T pc Ls S := by
  obtain ⟨⟨hx, hZ, hby, hml, hown, hnm, hret, hlk⟩, locs, X, eT, hN⟩ := G
  exact ownGo.step (fun t k => XS.iloadN X.here hx rfl (hb hby hd) hl k) go
theorem own_istore (G : ownSt p l e R s m args below meth c Z n0 own bytes mx rt nm T h cells slots) {k : Nat} {v : Int32} {L' : Array Slot} (hd : decode bytes pc = .ok (.istore k, 2)) (hl : storeLocals Ls k (.int v) = some L') (go : ownGo p e m below n0 En Q T (pc + 2) L' S) : ownGo p e m below n0 En Q T pc Ls (.int v :: S) := by
  obtain ⟨⟨hx, hZ, hby, hml, hown, hnm, hret, hlk⟩, locs, X, eT, hN⟩ := G
  exact ownGo.step (fun t k => XS.istore X.here hx rfl (hb hby hd) rfl (l' := L') hl k) go
theorem own_istoreN (G : ownSt p l e R s m args below meth c Z n0 own bytes mx rt nm T h cells slots) {k : Fin 4} {v : Int32} {L' : Array Slot} (hd : decode bytes pc = .ok (.istore_n k, 1)) (hl : storeLocals Ls k.val (.int v) = some L') (go : ownGo p e m below n0 En Q T (pc + 1) L' S) : ownGo p e m below n0 En Q T pc Ls (.int v :: S) := by
  obtain ⟨⟨hx, hZ, hby, hml, hown, hnm, hret, hlk⟩, locs, X, eT, hN⟩ := G
  exact ownGo.step (fun t k => XS.istoreN X.here hx rfl (hb hby hd) rfl (l' := L') hl k) go
theorem own_lload (G : ownSt p l e R s m args below meth c Z n0 own bytes mx rt nm T h cells slots) {k : Nat} {v : Int64} (hd : decode bytes pc = .ok (.lload k, 2)) (hl : Ls[k]? = some (.val (.long v))) (go : ownGo p e m below n0 En Q T (pc + 2) Ls (.long v :: S)) : ownGo p e m below n0 En Q T pc Ls S := by
  obtain ⟨⟨hx, hZ, hby, hml, hown, hnm, hret, hlk⟩, locs, X, eT, hN⟩ := G
  exact ownGo.step (fun t k => XS.lload X.here hx rfl (hb hby hd) hl k) go
theorem own_lloadN (G : ownSt p l e R s m args below meth c Z n0 own bytes mx rt nm T h cells slots) {k : Fin 4} {v : Int64} (hd : decode bytes pc = .ok (.lload_n k, 1)) (hl : Ls[k.val]? = some (.val (.long v))) (go : ownGo p e m below n0 En Q T (pc + 1) Ls (.long v :: S)) : ownGo p e m below n0 En Q T pc Ls S := by
  obtain ⟨⟨hx, hZ, hby, hml, hown, hnm, hret, hlk⟩, locs, X, eT, hN⟩ := G
  exact ownGo.step (fun t k => XS.lloadN X.here hx rfl (hb hby hd) hl k) go
theorem own_lstore (G : ownSt p l e R s m args below meth c Z n0 own bytes mx rt nm T h cells slots) {k : Nat} {v : Int64} {L' : Array Slot} (hd : decode bytes pc = .ok (.lstore k, 2)) (hl : storeLocals Ls k (.long v) = some L') (go : ownGo p e m below n0 En Q T (pc + 2) L' S) : ownGo p e m below n0 En Q T pc Ls (.long v :: S) := by
  obtain ⟨⟨hx, hZ, hby, hml, hown, hnm, hret, hlk⟩, locs, X, eT, hN⟩ := G
  exact ownGo.step (fun t k => XS.lstore X.here hx rfl (hb hby hd) rfl (l' := L') hl k) go
theorem own_lstoreN (G : ownSt p l e R s m args below meth c Z n0 own bytes mx rt nm T h cells slots) {k : Fin 4} {v : Int64} {L' : Array Slot} (hd : decode bytes pc = .ok (.lstore_n k, 1)) (hl : storeLocals Ls k.val (.long v) = some L') (go : ownGo p e m below n0 En Q T (pc + 1) L' S) : ownGo p e m below n0 En Q T pc Ls (.long v :: S) := by
  obtain ⟨⟨hx, hZ, hby, hml, hown, hnm, hret, hlk⟩, locs, X, eT, hN⟩ := G
  exact ownGo.step (fun t k => XS.lstoreN X.here hx rfl (hb hby hd) rfl (l' := L') hl k) go
theorem own_aload (G : ownSt p l e R s m args below meth c Z n0 own bytes mx rt nm T h cells slots) {k : Nat} {v : Value} (hd : decode bytes pc = .ok (.aload k, 2)) (hl : Ls[k]? = some (.val v)) (hv : v.isRef = true) (go : ownGo p e m below n0 En Q T (pc + 2) Ls (v :: S)) : ownGo p e m below n0 En Q T pc Ls S := by
  obtain ⟨⟨hx, hZ, hby, hml, hown, hnm, hret, hlk⟩, locs, X, eT, hN⟩ := G
  exact ownGo.step (fun t k => XS.aload X.here hx rfl (hb hby hd) hl hv k) go
theorem own_aloadN (G : ownSt p l e R s m args below meth c Z n0 own bytes mx rt nm T h cells slots) {k : Fin 4} {v : Value} (hd : decode bytes pc = .ok (.aload_n k, 1)) (hl : Ls[k.val]? = some (.val v)) (hv : v.isRef = true) (go : ownGo p e m below n0 En Q T (pc + 1) Ls (v :: S)) : ownGo p e m below n0 En Q T pc Ls S := by
  obtain ⟨⟨hx, hZ, hby, hml, hown, hnm, hret, hlk⟩, locs, X, eT, hN⟩ := G
  exact ownGo.step (fun t k => XS.aloadN X.here hx rfl (hb hby hd) hl hv k) go
theorem own_astore (G : ownSt p l e R s m args below meth c Z n0 own bytes mx rt nm T h cells slots) {k : Nat} {v : Value} {L' : Array Slot} (hd : decode bytes pc = .ok (.astore k, 2)) (hv : v.isRef = true) (hl : storeLocals Ls k v = some L') (go : ownGo p e m below n0 En Q T (pc + 2) L' S) : ownGo p e m below n0 En Q T pc Ls (v :: S) := by
  obtain ⟨⟨hx, hZ, hby, hml, hown, hnm, hret, hlk⟩, locs, X, eT, hN⟩ := G
  exact ownGo.step (fun t k => XS.astore X.here hx rfl (hb hby hd) rfl hv (l' := L') hl k) go
theorem own_astoreN (G : ownSt p l e R s m args below meth c Z n0 own bytes mx rt nm T h cells slots) {k : Fin 4} {v : Value} {L' : Array Slot} (hd : decode bytes pc = .ok (.astore_n k, 1)) (hv : v.isRef = true) (hl : storeLocals Ls k.val v = some L') (go : ownGo p e m below n0 En Q T (pc + 1) L' S) : ownGo p e m below n0 En Q T pc Ls (v :: S) := by
  obtain ⟨⟨hx, hZ, hby, hml, hown, hnm, hret, hlk⟩, locs, X, eT, hN⟩ := G
  exact ownGo.step (fun t k => XS.astoreN X.here hx rfl (hb hby hd) rfl hv (l' := L') hl k) go
theorem own_iconst (G : ownSt p l e R s m args below meth c Z n0 own bytes mx rt nm T h cells slots) {i : Int} (hd : decode bytes pc = .ok (.iconst i, 1))  (go : ownGo p e m below n0 En Q T (pc + 1) Ls (.int (Int32.ofInt i) :: S)) : ownGo p e m below n0 En Q T pc Ls S := by
  obtain ⟨⟨hx, hZ, hby, hml, hown, hnm, hret, hlk⟩, locs, X, eT, hN⟩ := G
  exact ownGo.step (fun t k => XS.iconst X.here hx rfl (hb hby hd)  k) go
theorem own_bipush (G : ownSt p l e R s m args below meth c Z n0 own bytes mx rt nm T h cells slots) {i : Int} (hd : decode bytes pc = .ok (.bipush i, 2))  (go : ownGo p e m below n0 En Q T (pc + 2) Ls (.int (Int8.ofInt i).toInt32 :: S)) : ownGo p e m below n0 En Q T pc Ls S := by
  obtain ⟨⟨hx, hZ, hby, hml, hown, hnm, hret, hlk⟩, locs, X, eT, hN⟩ := G
  exact ownGo.step (fun t k => XS.bipush X.here hx rfl (hb hby hd)  k) go
theorem own_sipush (G : ownSt p l e R s m args below meth c Z n0 own bytes mx rt nm T h cells slots) {i : Int} (hd : decode bytes pc = .ok (.sipush i, 3))  (go : ownGo p e m below n0 En Q T (pc + 3) Ls (.int (Int16.ofInt i).toInt32 :: S)) : ownGo p e m below n0 En Q T pc Ls S := by
  obtain ⟨⟨hx, hZ, hby, hml, hown, hnm, hret, hlk⟩, locs, X, eT, hN⟩ := G
  exact ownGo.step (fun t k => XS.sipush X.here hx rfl (hb hby hd)  k) go
theorem own_lconst (G : ownSt p l e R s m args below meth c Z n0 own bytes mx rt nm T h cells slots) {k : Fin 2} (hd : decode bytes pc = .ok (.lconst k, 1))  (go : ownGo p e m below n0 En Q T (pc + 1) Ls (.long (Int64.ofNat k.val) :: S)) : ownGo p e m below n0 En Q T pc Ls S := by
  obtain ⟨⟨hx, hZ, hby, hml, hown, hnm, hret, hlk⟩, locs, X, eT, hN⟩ := G
  exact ownGo.step (fun t k => XS.lconst X.here hx rfl (hb hby hd)  k) go
theorem own_aconst_null (G : ownSt p l e R s m args below meth c Z n0 own bytes mx rt nm T h cells slots)  (hd : decode bytes pc = .ok (.aconst_null, 1))  (go : ownGo p e m below n0 En Q T (pc + 1) Ls (.null :: S)) : ownGo p e m below n0 En Q T pc Ls S := by
  obtain ⟨⟨hx, hZ, hby, hml, hown, hnm, hret, hlk⟩, locs, X, eT, hN⟩ := G
  exact ownGo.step (fun t k => XS.aconstNull X.here hx rfl (hb hby hd)  k) go
theorem own_iadd (G : ownSt p l e R s m args below meth c Z n0 own bytes mx rt nm T h cells slots) {x y : Int32} (hd : decode bytes pc = .ok (.iadd, 1))  (go : ownGo p e m below n0 En Q T (pc + 1) Ls (.int (x + y) :: S)) : ownGo p e m below n0 En Q T pc Ls (.int y :: .int x :: S) := by
  obtain ⟨⟨hx, hZ, hby, hml, hown, hnm, hret, hlk⟩, locs, X, eT, hN⟩ := G
  exact ownGo.step (fun t k => XS.iadd X.here hx rfl (hb hby hd) rfl k) go
theorem own_isub (G : ownSt p l e R s m args below meth c Z n0 own bytes mx rt nm T h cells slots) {x y : Int32} (hd : decode bytes pc = .ok (.isub, 1))  (go : ownGo p e m below n0 En Q T (pc + 1) Ls (.int (x - y) :: S)) : ownGo p e m below n0 En Q T pc Ls (.int y :: .int x :: S) := by
  obtain ⟨⟨hx, hZ, hby, hml, hown, hnm, hret, hlk⟩, locs, X, eT, hN⟩ := G
  exact ownGo.step (fun t k => XS.isub X.here hx rfl (hb hby hd) rfl k) go
theorem own_imul (G : ownSt p l e R s m args below meth c Z n0 own bytes mx rt nm T h cells slots) {x y : Int32} (hd : decode bytes pc = .ok (.imul, 1))  (go : ownGo p e m below n0 En Q T (pc + 1) Ls (.int (x * y) :: S)) : ownGo p e m below n0 En Q T pc Ls (.int y :: .int x :: S) := by
  obtain ⟨⟨hx, hZ, hby, hml, hown, hnm, hret, hlk⟩, locs, X, eT, hN⟩ := G
  exact ownGo.step (fun t k => XS.imul X.here hx rfl (hb hby hd) rfl k) go
theorem own_iand (G : ownSt p l e R s m args below meth c Z n0 own bytes mx rt nm T h cells slots) {x y : Int32} (hd : decode bytes pc = .ok (.iand, 1))  (go : ownGo p e m below n0 En Q T (pc + 1) Ls (.int (x &&& y) :: S)) : ownGo p e m below n0 En Q T pc Ls (.int y :: .int x :: S) := by
  obtain ⟨⟨hx, hZ, hby, hml, hown, hnm, hret, hlk⟩, locs, X, eT, hN⟩ := G
  exact ownGo.step (fun t k => XS.iand X.here hx rfl (hb hby hd) rfl k) go
theorem own_ior (G : ownSt p l e R s m args below meth c Z n0 own bytes mx rt nm T h cells slots) {x y : Int32} (hd : decode bytes pc = .ok (.ior, 1))  (go : ownGo p e m below n0 En Q T (pc + 1) Ls (.int (x ||| y) :: S)) : ownGo p e m below n0 En Q T pc Ls (.int y :: .int x :: S) := by
  obtain ⟨⟨hx, hZ, hby, hml, hown, hnm, hret, hlk⟩, locs, X, eT, hN⟩ := G
  exact ownGo.step (fun t k => XS.ior X.here hx rfl (hb hby hd) rfl k) go
theorem own_ixor (G : ownSt p l e R s m args below meth c Z n0 own bytes mx rt nm T h cells slots) {x y : Int32} (hd : decode bytes pc = .ok (.ixor, 1))  (go : ownGo p e m below n0 En Q T (pc + 1) Ls (.int (x ^^^ y) :: S)) : ownGo p e m below n0 En Q T pc Ls (.int y :: .int x :: S) := by
  obtain ⟨⟨hx, hZ, hby, hml, hown, hnm, hret, hlk⟩, locs, X, eT, hN⟩ := G
  exact ownGo.step (fun t k => XS.ixor X.here hx rfl (hb hby hd) rfl k) go
theorem own_ishl (G : ownSt p l e R s m args below meth c Z n0 own bytes mx rt nm T h cells slots) {x y : Int32} (hd : decode bytes pc = .ok (.ishl, 1))  (go : ownGo p e m below n0 En Q T (pc + 1) Ls (.int (x <<< (y &&& 31)) :: S)) : ownGo p e m below n0 En Q T pc Ls (.int y :: .int x :: S) := by
  obtain ⟨⟨hx, hZ, hby, hml, hown, hnm, hret, hlk⟩, locs, X, eT, hN⟩ := G
  exact ownGo.step (fun t k => XS.ishl X.here hx rfl (hb hby hd) rfl k) go
theorem own_ishr (G : ownSt p l e R s m args below meth c Z n0 own bytes mx rt nm T h cells slots) {x y : Int32} (hd : decode bytes pc = .ok (.ishr, 1))  (go : ownGo p e m below n0 En Q T (pc + 1) Ls (.int (x >>> (y &&& 31)) :: S)) : ownGo p e m below n0 En Q T pc Ls (.int y :: .int x :: S) := by
  obtain ⟨⟨hx, hZ, hby, hml, hown, hnm, hret, hlk⟩, locs, X, eT, hN⟩ := G
  exact ownGo.step (fun t k => XS.ishr X.here hx rfl (hb hby hd) rfl k) go
theorem own_iushr (G : ownSt p l e R s m args below meth c Z n0 own bytes mx rt nm T h cells slots) {x y : Int32} (hd : decode bytes pc = .ok (.iushr, 1))  (go : ownGo p e m below n0 En Q T (pc + 1) Ls (.int ((x.toUInt32 >>> (y &&& 31).toUInt32).toInt32) :: S)) : ownGo p e m below n0 En Q T pc Ls (.int y :: .int x :: S) := by
  obtain ⟨⟨hx, hZ, hby, hml, hown, hnm, hret, hlk⟩, locs, X, eT, hN⟩ := G
  exact ownGo.step (fun t k => XS.iushr X.here hx rfl (hb hby hd) rfl k) go
theorem own_ladd (G : ownSt p l e R s m args below meth c Z n0 own bytes mx rt nm T h cells slots) {x y : Int64} (hd : decode bytes pc = .ok (.ladd, 1))  (go : ownGo p e m below n0 En Q T (pc + 1) Ls (.long (x + y) :: S)) : ownGo p e m below n0 En Q T pc Ls (.long y :: .long x :: S) := by
  obtain ⟨⟨hx, hZ, hby, hml, hown, hnm, hret, hlk⟩, locs, X, eT, hN⟩ := G
  exact ownGo.step (fun t k => XS.ladd X.here hx rfl (hb hby hd) rfl k) go
theorem own_lsub (G : ownSt p l e R s m args below meth c Z n0 own bytes mx rt nm T h cells slots) {x y : Int64} (hd : decode bytes pc = .ok (.lsub, 1))  (go : ownGo p e m below n0 En Q T (pc + 1) Ls (.long (x - y) :: S)) : ownGo p e m below n0 En Q T pc Ls (.long y :: .long x :: S) := by
  obtain ⟨⟨hx, hZ, hby, hml, hown, hnm, hret, hlk⟩, locs, X, eT, hN⟩ := G
  exact ownGo.step (fun t k => XS.lsub X.here hx rfl (hb hby hd) rfl k) go
theorem own_lmul (G : ownSt p l e R s m args below meth c Z n0 own bytes mx rt nm T h cells slots) {x y : Int64} (hd : decode bytes pc = .ok (.lmul, 1))  (go : ownGo p e m below n0 En Q T (pc + 1) Ls (.long (x * y) :: S)) : ownGo p e m below n0 En Q T pc Ls (.long y :: .long x :: S) := by
  obtain ⟨⟨hx, hZ, hby, hml, hown, hnm, hret, hlk⟩, locs, X, eT, hN⟩ := G
  exact ownGo.step (fun t k => XS.lmul X.here hx rfl (hb hby hd) rfl k) go
theorem own_land (G : ownSt p l e R s m args below meth c Z n0 own bytes mx rt nm T h cells slots) {x y : Int64} (hd : decode bytes pc = .ok (.land, 1))  (go : ownGo p e m below n0 En Q T (pc + 1) Ls (.long (x &&& y) :: S)) : ownGo p e m below n0 En Q T pc Ls (.long y :: .long x :: S) := by
  obtain ⟨⟨hx, hZ, hby, hml, hown, hnm, hret, hlk⟩, locs, X, eT, hN⟩ := G
  exact ownGo.step (fun t k => XS.land X.here hx rfl (hb hby hd) rfl k) go
theorem own_lor (G : ownSt p l e R s m args below meth c Z n0 own bytes mx rt nm T h cells slots) {x y : Int64} (hd : decode bytes pc = .ok (.lor, 1))  (go : ownGo p e m below n0 En Q T (pc + 1) Ls (.long (x ||| y) :: S)) : ownGo p e m below n0 En Q T pc Ls (.long y :: .long x :: S) := by
  obtain ⟨⟨hx, hZ, hby, hml, hown, hnm, hret, hlk⟩, locs, X, eT, hN⟩ := G
  exact ownGo.step (fun t k => XS.lor X.here hx rfl (hb hby hd) rfl k) go
theorem own_lxor (G : ownSt p l e R s m args below meth c Z n0 own bytes mx rt nm T h cells slots) {x y : Int64} (hd : decode bytes pc = .ok (.lxor, 1))  (go : ownGo p e m below n0 En Q T (pc + 1) Ls (.long (x ^^^ y) :: S)) : ownGo p e m below n0 En Q T pc Ls (.long y :: .long x :: S) := by
  obtain ⟨⟨hx, hZ, hby, hml, hown, hnm, hret, hlk⟩, locs, X, eT, hN⟩ := G
  exact ownGo.step (fun t k => XS.lxor X.here hx rfl (hb hby hd) rfl k) go
theorem own_lshl (G : ownSt p l e R s m args below meth c Z n0 own bytes mx rt nm T h cells slots) {x : Int64} {y : Int32} (hd : decode bytes pc = .ok (.lshl, 1))  (go : ownGo p e m below n0 En Q T (pc + 1) Ls (.long (x <<< (y &&& 0x3f).toInt64) :: S)) : ownGo p e m below n0 En Q T pc Ls (.int y :: .long x :: S) := by
  obtain ⟨⟨hx, hZ, hby, hml, hown, hnm, hret, hlk⟩, locs, X, eT, hN⟩ := G
  exact ownGo.step (fun t k => XS.lshl X.here hx rfl (hb hby hd) rfl k) go
theorem own_lshr (G : ownSt p l e R s m args below meth c Z n0 own bytes mx rt nm T h cells slots) {x : Int64} {y : Int32} (hd : decode bytes pc = .ok (.lshr, 1))  (go : ownGo p e m below n0 En Q T (pc + 1) Ls (.long (x >>> (y &&& 0x3f).toInt64) :: S)) : ownGo p e m below n0 En Q T pc Ls (.int y :: .long x :: S) := by
  obtain ⟨⟨hx, hZ, hby, hml, hown, hnm, hret, hlk⟩, locs, X, eT, hN⟩ := G
  exact ownGo.step (fun t k => XS.lshr X.here hx rfl (hb hby hd) rfl k) go
theorem own_lushr (G : ownSt p l e R s m args below meth c Z n0 own bytes mx rt nm T h cells slots) {x : Int64} {y : Int32} (hd : decode bytes pc = .ok (.lushr, 1))  (go : ownGo p e m below n0 En Q T (pc + 1) Ls (.long ((x.toUInt64 >>> (y &&& 0x3f).toInt64.toUInt64).toInt64) :: S)) : ownGo p e m below n0 En Q T pc Ls (.int y :: .long x :: S) := by
  obtain ⟨⟨hx, hZ, hby, hml, hown, hnm, hret, hlk⟩, locs, X, eT, hN⟩ := G
  exact ownGo.step (fun t k => XS.lushr X.here hx rfl (hb hby hd) rfl k) go
theorem own_ineg (G : ownSt p l e R s m args below meth c Z n0 own bytes mx rt nm T h cells slots) {x : Int32} (hd : decode bytes pc = .ok (.ineg, 1))  (go : ownGo p e m below n0 En Q T (pc + 1) Ls (.int (-x) :: S)) : ownGo p e m below n0 En Q T pc Ls (.int x :: S) := by
  obtain ⟨⟨hx, hZ, hby, hml, hown, hnm, hret, hlk⟩, locs, X, eT, hN⟩ := G
  exact ownGo.step (fun t k => XS.ineg X.here hx rfl (hb hby hd) rfl k) go
theorem own_lneg (G : ownSt p l e R s m args below meth c Z n0 own bytes mx rt nm T h cells slots) {x : Int64} (hd : decode bytes pc = .ok (.lneg, 1))  (go : ownGo p e m below n0 En Q T (pc + 1) Ls (.long (-x) :: S)) : ownGo p e m below n0 En Q T pc Ls (.long x :: S) := by
  obtain ⟨⟨hx, hZ, hby, hml, hown, hnm, hret, hlk⟩, locs, X, eT, hN⟩ := G
  exact ownGo.step (fun t k => XS.lneg X.here hx rfl (hb hby hd) rfl k) go
theorem own_i2l (G : ownSt p l e R s m args below meth c Z n0 own bytes mx rt nm T h cells slots) {x : Int32} (hd : decode bytes pc = .ok (.i2l, 1))  (go : ownGo p e m below n0 En Q T (pc + 1) Ls (.long (x.toInt64) :: S)) : ownGo p e m below n0 En Q T pc Ls (.int x :: S) := by
  obtain ⟨⟨hx, hZ, hby, hml, hown, hnm, hret, hlk⟩, locs, X, eT, hN⟩ := G
  exact ownGo.step (fun t k => XS.i2l X.here hx rfl (hb hby hd) rfl k) go
theorem own_l2i (G : ownSt p l e R s m args below meth c Z n0 own bytes mx rt nm T h cells slots) {x : Int64} (hd : decode bytes pc = .ok (.l2i, 1))  (go : ownGo p e m below n0 En Q T (pc + 1) Ls (.int (x.toInt32) :: S)) : ownGo p e m below n0 En Q T pc Ls (.long x :: S) := by
  obtain ⟨⟨hx, hZ, hby, hml, hown, hnm, hret, hlk⟩, locs, X, eT, hN⟩ := G
  exact ownGo.step (fun t k => XS.l2i X.here hx rfl (hb hby hd) rfl k) go
theorem own_i2b (G : ownSt p l e R s m args below meth c Z n0 own bytes mx rt nm T h cells slots) {x : Int32} (hd : decode bytes pc = .ok (.i2b, 1))  (go : ownGo p e m below n0 En Q T (pc + 1) Ls (.int (x.toInt8.toInt32) :: S)) : ownGo p e m below n0 En Q T pc Ls (.int x :: S) := by
  obtain ⟨⟨hx, hZ, hby, hml, hown, hnm, hret, hlk⟩, locs, X, eT, hN⟩ := G
  exact ownGo.step (fun t k => XS.i2b X.here hx rfl (hb hby hd) rfl k) go
theorem own_i2s (G : ownSt p l e R s m args below meth c Z n0 own bytes mx rt nm T h cells slots) {x : Int32} (hd : decode bytes pc = .ok (.i2s, 1))  (go : ownGo p e m below n0 En Q T (pc + 1) Ls (.int (x.toInt16.toInt32) :: S)) : ownGo p e m below n0 En Q T pc Ls (.int x :: S) := by
  obtain ⟨⟨hx, hZ, hby, hml, hown, hnm, hret, hlk⟩, locs, X, eT, hN⟩ := G
  exact ownGo.step (fun t k => XS.i2s X.here hx rfl (hb hby hd) rfl k) go
theorem own_i2c (G : ownSt p l e R s m args below meth c Z n0 own bytes mx rt nm T h cells slots) {x : Int32} (hd : decode bytes pc = .ok (.i2c, 1))  (go : ownGo p e m below n0 En Q T (pc + 1) Ls (.int (x.toUInt32.toUInt16.toUInt32.toInt32) :: S)) : ownGo p e m below n0 En Q T pc Ls (.int x :: S) := by
  obtain ⟨⟨hx, hZ, hby, hml, hown, hnm, hret, hlk⟩, locs, X, eT, hN⟩ := G
  exact ownGo.step (fun t k => XS.i2c X.here hx rfl (hb hby hd) rfl k) go
theorem own_lcmp (G : ownSt p l e R s m args below meth c Z n0 own bytes mx rt nm T h cells slots) {x y : Int64} (hd : decode bytes pc = .ok (.lcmp, 1))  (go : ownGo p e m below n0 En Q T (pc + 1) Ls (.int (lcmpW x y) :: S)) : ownGo p e m below n0 En Q T pc Ls (.long y :: .long x :: S) := by
  obtain ⟨⟨hx, hZ, hby, hml, hown, hnm, hret, hlk⟩, locs, X, eT, hN⟩ := G
  exact ownGo.step (fun t k => XS.lcmp X.here hx rfl (hb hby hd) rfl k) go
theorem own_pop (G : ownSt p l e R s m args below meth c Z n0 own bytes mx rt nm T h cells slots) {v : Value} (hd : decode bytes pc = .ok (.pop, 1)) (hc : v.category = 1) (go : ownGo p e m below n0 En Q T (pc + 1) Ls S) : ownGo p e m below n0 En Q T pc Ls (v :: S) := by
  obtain ⟨⟨hx, hZ, hby, hml, hown, hnm, hret, hlk⟩, locs, X, eT, hN⟩ := G
  exact ownGo.step (fun t k => XS.pop X.here hx rfl (hb hby hd) rfl hc k) go
theorem own_dup (G : ownSt p l e R s m args below meth c Z n0 own bytes mx rt nm T h cells slots) {v : Value} (hd : decode bytes pc = .ok (.dup, 1)) (hc : v.category = 1) (go : ownGo p e m below n0 En Q T (pc + 1) Ls (v :: v :: S)) : ownGo p e m below n0 En Q T pc Ls (v :: S) := by
  obtain ⟨⟨hx, hZ, hby, hml, hown, hnm, hret, hlk⟩, locs, X, eT, hN⟩ := G
  exact ownGo.step (fun t k => XS.dup X.here hx rfl (hb hby hd) rfl hc k) go
theorem own_dup_x1 (G : ownSt p l e R s m args below meth c Z n0 own bytes mx rt nm T h cells slots) {v w : Value} (hd : decode bytes pc = .ok (.dup_x1, 1)) (hc : v.category = 1) (hc' : w.category = 1) (go : ownGo p e m below n0 En Q T (pc + 1) Ls (v :: w :: v :: S)) : ownGo p e m below n0 En Q T pc Ls (v :: w :: S) := by
  obtain ⟨⟨hx, hZ, hby, hml, hown, hnm, hret, hlk⟩, locs, X, eT, hN⟩ := G
  exact ownGo.step (fun t k => XS.dupX1 X.here hx rfl (hb hby hd) rfl hc hc' k) go
theorem own_irem (G : ownSt p l e R s m args below meth c Z n0 own bytes mx rt nm T h cells slots) {x y : Int32} (hd : decode bytes pc = .ok (.irem, 1)) (hy : y ≠ 0) (go : ownGo p e m below n0 En Q T (pc + 1) Ls (.int (x % y) :: S)) : ownGo p e m below n0 En Q T pc Ls (.int y :: .int x :: S) := by
  obtain ⟨⟨hx, hZ, hby, hml, hown, hnm, hret, hlk⟩, locs, X, eT, hN⟩ := G
  exact ownGo.step (fun t k => iremM X hx rfl (hb hby hd) rfl hy k) go
theorem own_iinc (G : ownSt p l e R s m args below meth c Z n0 own bytes mx rt nm T h cells slots) {k : Nat} {d : Int} {v : Int32} {L' : Array Slot} (hd : decode bytes pc = .ok (.iinc k d, 3)) (hv : Ls[k]? = some (.val (.int v))) (hl : storeLocals Ls k (.int (v + Int32.ofInt d)) = some L') (go : ownGo p e m below n0 En Q T (pc + 3) L' S) : ownGo p e m below n0 En Q T pc Ls S := by
  obtain ⟨⟨hx, hZ, hby, hml, hown, hnm, hret, hlk⟩, locs, X, eT, hN⟩ := G
  exact ownGo.step (fun t k => XS.iinc X.here hx rfl (hb hby hd) hv (l' := L') hl k) go
theorem own_goto (G : ownSt p l e R s m args below meth c Z n0 own bytes mx rt nm T h cells slots) {o : Int} {pc' : Nat} (hd : decode bytes pc = .ok (.goto o, 3)) (ho : 0 ≤ (pc : Int) + o) (hp : ((pc : Int) + o).toNat = pc') (go : ownGo p e m below n0 En Q T pc' Ls S) : ownGo p e m below n0 En Q T pc Ls S := by
  obtain ⟨⟨hx, hZ, hby, hml, hown, hnm, hret, hlk⟩, locs, X, eT, hN⟩ := G
  exact ownGo.step (fun t k => XS.goto X.here hx rfl (pc0 := pc) rfl (hb hby hd) ho hp k) go
theorem own_icmp_lt (G : ownSt p l e R s m args below meth c Z n0 own bytes mx rt nm T h cells slots) {x y : Int32} {o : Int} {pc' : Nat} (hd : decode bytes pc = .ok (.if_icmp .lt o, 3)) (ho : 0 ≤ (pc : Int) + o) (hp : ((pc : Int) + o).toNat = pc') (yes : x < y → ownGo p e m below n0 En Q T pc' Ls S) (no : ¬ x < y → ownGo p e m below n0 En Q T (pc + 3) Ls S) : ownGo p e m below n0 En Q T pc Ls (.int y :: .int x :: S) := by
  obtain ⟨⟨hx, hZ, hby, hml, hown, hnm, hret, hlk⟩, locs, X, eT, hN⟩ := G
  by_cases q : x < y
  · exact ownGo.step (fun t k => XS.icmpYes X.here hx rfl (pc0 := pc) rfl (hb hby hd) rfl (tlt q).1 ho hp k) (yes q)
  · exact ownGo.step (fun t k => XS.icmpNo X.here hx rfl (hb hby hd) rfl (flt q).1 k) (no q)
theorem own_if_lt (G : ownSt p l e R s m args below meth c Z n0 own bytes mx rt nm T h cells slots) {x : Int32} {o : Int} {pc' : Nat} (hd : decode bytes pc = .ok (.ifCond .lt o, 3)) (ho : 0 ≤ (pc : Int) + o) (hp : ((pc : Int) + o).toNat = pc') (yes : x < (0 : Int32) → ownGo p e m below n0 En Q T pc' Ls S) (no : ¬ x < (0 : Int32) → ownGo p e m below n0 En Q T (pc + 3) Ls S) : ownGo p e m below n0 En Q T pc Ls (.int x :: S) := by
  obtain ⟨⟨hx, hZ, hby, hml, hown, hnm, hret, hlk⟩, locs, X, eT, hN⟩ := G
  by_cases q : x < (0 : Int32)
  · exact ownGo.step (fun t k => XS.ifYes X.here hx rfl (pc0 := pc) rfl (hb hby hd) rfl ((if0 _ _).trans (tlt q).1) ho hp k) (yes q)
  · exact ownGo.step (fun t k => XS.ifNo X.here hx rfl (hb hby hd) rfl ((if0 _ _).trans (flt q).1) k) (no q)
theorem own_icmp_ge (G : ownSt p l e R s m args below meth c Z n0 own bytes mx rt nm T h cells slots) {x y : Int32} {o : Int} {pc' : Nat} (hd : decode bytes pc = .ok (.if_icmp .ge o, 3)) (ho : 0 ≤ (pc : Int) + o) (hp : ((pc : Int) + o).toNat = pc') (yes : ¬ x < y → ownGo p e m below n0 En Q T pc' Ls S) (no : x < y → ownGo p e m below n0 En Q T (pc + 3) Ls S) : ownGo p e m below n0 En Q T pc Ls (.int y :: .int x :: S) := by
  obtain ⟨⟨hx, hZ, hby, hml, hown, hnm, hret, hlk⟩, locs, X, eT, hN⟩ := G
  by_cases q : x < y
  · exact ownGo.step (fun t k => XS.icmpNo X.here hx rfl (hb hby hd) rfl (tlt q).2.1 k) (no q)
  · exact ownGo.step (fun t k => XS.icmpYes X.here hx rfl (pc0 := pc) rfl (hb hby hd) rfl (flt q).2.1 ho hp k) (yes q)
theorem own_if_ge (G : ownSt p l e R s m args below meth c Z n0 own bytes mx rt nm T h cells slots) {x : Int32} {o : Int} {pc' : Nat} (hd : decode bytes pc = .ok (.ifCond .ge o, 3)) (ho : 0 ≤ (pc : Int) + o) (hp : ((pc : Int) + o).toNat = pc') (yes : ¬ x < (0 : Int32) → ownGo p e m below n0 En Q T pc' Ls S) (no : x < (0 : Int32) → ownGo p e m below n0 En Q T (pc + 3) Ls S) : ownGo p e m below n0 En Q T pc Ls (.int x :: S) := by
  obtain ⟨⟨hx, hZ, hby, hml, hown, hnm, hret, hlk⟩, locs, X, eT, hN⟩ := G
  by_cases q : x < (0 : Int32)
  · exact ownGo.step (fun t k => XS.ifNo X.here hx rfl (hb hby hd) rfl ((if0 _ _).trans (tlt q).2.1) k) (no q)
  · exact ownGo.step (fun t k => XS.ifYes X.here hx rfl (pc0 := pc) rfl (hb hby hd) rfl ((if0 _ _).trans (flt q).2.1) ho hp k) (yes q)
theorem own_icmp_gt (G : ownSt p l e R s m args below meth c Z n0 own bytes mx rt nm T h cells slots) {x y : Int32} {o : Int} {pc' : Nat} (hd : decode bytes pc = .ok (.if_icmp .gt o, 3)) (ho : 0 ≤ (pc : Int) + o) (hp : ((pc : Int) + o).toNat = pc') (yes : y < x → ownGo p e m below n0 En Q T pc' Ls S) (no : ¬ y < x → ownGo p e m below n0 En Q T (pc + 3) Ls S) : ownGo p e m below n0 En Q T pc Ls (.int y :: .int x :: S) := by
  obtain ⟨⟨hx, hZ, hby, hml, hown, hnm, hret, hlk⟩, locs, X, eT, hN⟩ := G
  by_cases q : y < x
  · exact ownGo.step (fun t k => XS.icmpYes X.here hx rfl (pc0 := pc) rfl (hb hby hd) rfl (tlt q).2.2.1 ho hp k) (yes q)
  · exact ownGo.step (fun t k => XS.icmpNo X.here hx rfl (hb hby hd) rfl (flt q).2.2.1 k) (no q)
theorem own_if_gt (G : ownSt p l e R s m args below meth c Z n0 own bytes mx rt nm T h cells slots) {x : Int32} {o : Int} {pc' : Nat} (hd : decode bytes pc = .ok (.ifCond .gt o, 3)) (ho : 0 ≤ (pc : Int) + o) (hp : ((pc : Int) + o).toNat = pc') (yes : (0 : Int32) < x → ownGo p e m below n0 En Q T pc' Ls S) (no : ¬ (0 : Int32) < x → ownGo p e m below n0 En Q T (pc + 3) Ls S) : ownGo p e m below n0 En Q T pc Ls (.int x :: S) := by
  obtain ⟨⟨hx, hZ, hby, hml, hown, hnm, hret, hlk⟩, locs, X, eT, hN⟩ := G
  by_cases q : (0 : Int32) < x
  · exact ownGo.step (fun t k => XS.ifYes X.here hx rfl (pc0 := pc) rfl (hb hby hd) rfl ((if0 _ _).trans (tlt q).2.2.1) ho hp k) (yes q)
  · exact ownGo.step (fun t k => XS.ifNo X.here hx rfl (hb hby hd) rfl ((if0 _ _).trans (flt q).2.2.1) k) (no q)
theorem own_icmp_le (G : ownSt p l e R s m args below meth c Z n0 own bytes mx rt nm T h cells slots) {x y : Int32} {o : Int} {pc' : Nat} (hd : decode bytes pc = .ok (.if_icmp .le o, 3)) (ho : 0 ≤ (pc : Int) + o) (hp : ((pc : Int) + o).toNat = pc') (yes : ¬ y < x → ownGo p e m below n0 En Q T pc' Ls S) (no : y < x → ownGo p e m below n0 En Q T (pc + 3) Ls S) : ownGo p e m below n0 En Q T pc Ls (.int y :: .int x :: S) := by
  obtain ⟨⟨hx, hZ, hby, hml, hown, hnm, hret, hlk⟩, locs, X, eT, hN⟩ := G
  by_cases q : y < x
  · exact ownGo.step (fun t k => XS.icmpNo X.here hx rfl (hb hby hd) rfl (tlt q).2.2.2 k) (no q)
  · exact ownGo.step (fun t k => XS.icmpYes X.here hx rfl (pc0 := pc) rfl (hb hby hd) rfl (flt q).2.2.2 ho hp k) (yes q)
theorem own_if_le (G : ownSt p l e R s m args below meth c Z n0 own bytes mx rt nm T h cells slots) {x : Int32} {o : Int} {pc' : Nat} (hd : decode bytes pc = .ok (.ifCond .le o, 3)) (ho : 0 ≤ (pc : Int) + o) (hp : ((pc : Int) + o).toNat = pc') (yes : ¬ (0 : Int32) < x → ownGo p e m below n0 En Q T pc' Ls S) (no : (0 : Int32) < x → ownGo p e m below n0 En Q T (pc + 3) Ls S) : ownGo p e m below n0 En Q T pc Ls (.int x :: S) := by
  obtain ⟨⟨hx, hZ, hby, hml, hown, hnm, hret, hlk⟩, locs, X, eT, hN⟩ := G
  by_cases q : (0 : Int32) < x
  · exact ownGo.step (fun t k => XS.ifNo X.here hx rfl (hb hby hd) rfl ((if0 _ _).trans (tlt q).2.2.2) k) (no q)
  · exact ownGo.step (fun t k => XS.ifYes X.here hx rfl (pc0 := pc) rfl (hb hby hd) rfl ((if0 _ _).trans (flt q).2.2.2) ho hp k) (yes q)
theorem own_icmp_eq (G : ownSt p l e R s m args below meth c Z n0 own bytes mx rt nm T h cells slots) {x y : Int32} {o : Int} {pc' : Nat} (hd : decode bytes pc = .ok (.if_icmp .eq o, 3)) (ho : 0 ≤ (pc : Int) + o) (hp : ((pc : Int) + o).toNat = pc') (yes : x = y → ownGo p e m below n0 En Q T pc' Ls S) (no : ¬ x = y → ownGo p e m below n0 En Q T (pc + 3) Ls S) : ownGo p e m below n0 En Q T pc Ls (.int y :: .int x :: S) := by
  obtain ⟨⟨hx, hZ, hby, hml, hown, hnm, hret, hlk⟩, locs, X, eT, hN⟩ := G
  by_cases q : x = y
  · exact ownGo.step (fun t k => XS.icmpYes X.here hx rfl (pc0 := pc) rfl (hb hby hd) rfl (teq q).1 ho hp k) (yes q)
  · exact ownGo.step (fun t k => XS.icmpNo X.here hx rfl (hb hby hd) rfl (feq q).1 k) (no q)
theorem own_if_eq (G : ownSt p l e R s m args below meth c Z n0 own bytes mx rt nm T h cells slots) {x : Int32} {o : Int} {pc' : Nat} (hd : decode bytes pc = .ok (.ifCond .eq o, 3)) (ho : 0 ≤ (pc : Int) + o) (hp : ((pc : Int) + o).toNat = pc') (yes : x = (0 : Int32) → ownGo p e m below n0 En Q T pc' Ls S) (no : ¬ x = (0 : Int32) → ownGo p e m below n0 En Q T (pc + 3) Ls S) : ownGo p e m below n0 En Q T pc Ls (.int x :: S) := by
  obtain ⟨⟨hx, hZ, hby, hml, hown, hnm, hret, hlk⟩, locs, X, eT, hN⟩ := G
  by_cases q : x = (0 : Int32)
  · exact ownGo.step (fun t k => XS.ifYes X.here hx rfl (pc0 := pc) rfl (hb hby hd) rfl ((if0 _ _).trans (teq q).1) ho hp k) (yes q)
  · exact ownGo.step (fun t k => XS.ifNo X.here hx rfl (hb hby hd) rfl ((if0 _ _).trans (feq q).1) k) (no q)
theorem own_icmp_ne (G : ownSt p l e R s m args below meth c Z n0 own bytes mx rt nm T h cells slots) {x y : Int32} {o : Int} {pc' : Nat} (hd : decode bytes pc = .ok (.if_icmp .ne o, 3)) (ho : 0 ≤ (pc : Int) + o) (hp : ((pc : Int) + o).toNat = pc') (yes : ¬ x = y → ownGo p e m below n0 En Q T pc' Ls S) (no : x = y → ownGo p e m below n0 En Q T (pc + 3) Ls S) : ownGo p e m below n0 En Q T pc Ls (.int y :: .int x :: S) := by
  obtain ⟨⟨hx, hZ, hby, hml, hown, hnm, hret, hlk⟩, locs, X, eT, hN⟩ := G
  by_cases q : x = y
  · exact ownGo.step (fun t k => XS.icmpNo X.here hx rfl (hb hby hd) rfl (teq q).2 k) (no q)
  · exact ownGo.step (fun t k => XS.icmpYes X.here hx rfl (pc0 := pc) rfl (hb hby hd) rfl (feq q).2 ho hp k) (yes q)
theorem own_if_ne (G : ownSt p l e R s m args below meth c Z n0 own bytes mx rt nm T h cells slots) {x : Int32} {o : Int} {pc' : Nat} (hd : decode bytes pc = .ok (.ifCond .ne o, 3)) (ho : 0 ≤ (pc : Int) + o) (hp : ((pc : Int) + o).toNat = pc') (yes : ¬ x = (0 : Int32) → ownGo p e m below n0 En Q T pc' Ls S) (no : x = (0 : Int32) → ownGo p e m below n0 En Q T (pc + 3) Ls S) : ownGo p e m below n0 En Q T pc Ls (.int x :: S) := by
  obtain ⟨⟨hx, hZ, hby, hml, hown, hnm, hret, hlk⟩, locs, X, eT, hN⟩ := G
  by_cases q : x = (0 : Int32)
  · exact ownGo.step (fun t k => XS.ifNo X.here hx rfl (hb hby hd) rfl ((if0 _ _).trans (teq q).2) k) (no q)
  · exact ownGo.step (fun t k => XS.ifYes X.here hx rfl (pc0 := pc) rfl (hb hby hd) rfl ((if0 _ _).trans (feq q).2) ho hp k) (yes q)
theorem own_lcif_lt (G : ownSt p l e R s m args below meth c Z n0 own bytes mx rt nm T h cells slots) {x y : Int64} {o : Int} {pc' : Nat} (hd : decode bytes pc = .ok (.lcmp, 1)) (hd' : decode bytes (pc + 1) = .ok (.ifCond .lt o, 3)) (ho : 0 ≤ ((pc + 1 : Nat) : Int) + o) (hp : (((pc + 1 : Nat) : Int) + o).toNat = pc') (yes : x < y → ownGo p e m below n0 En Q T pc' Ls S) (no : ¬ x < y → ownGo p e m below n0 En Q T (pc + 1 + 3) Ls S) : ownGo p e m below n0 En Q T pc Ls (.long y :: .long x :: S) :=
  own_lcmp G hd (own_if_lt G hd' ho hp (fun q => yes ((lw_lt _ _).mp q)) (fun q => no (fun r => q ((lw_lt _ _).mpr r))))
theorem own_lcif_ge (G : ownSt p l e R s m args below meth c Z n0 own bytes mx rt nm T h cells slots) {x y : Int64} {o : Int} {pc' : Nat} (hd : decode bytes pc = .ok (.lcmp, 1)) (hd' : decode bytes (pc + 1) = .ok (.ifCond .ge o, 3)) (ho : 0 ≤ ((pc + 1 : Nat) : Int) + o) (hp : (((pc + 1 : Nat) : Int) + o).toNat = pc') (yes : ¬ x < y → ownGo p e m below n0 En Q T pc' Ls S) (no : x < y → ownGo p e m below n0 En Q T (pc + 1 + 3) Ls S) : ownGo p e m below n0 En Q T pc Ls (.long y :: .long x :: S) :=
  own_lcmp G hd (own_if_ge G hd' ho hp (fun q => yes (fun r => q ((lw_lt _ _).mpr r))) (fun q => no ((lw_lt _ _).mp q)))
theorem own_lcif_gt (G : ownSt p l e R s m args below meth c Z n0 own bytes mx rt nm T h cells slots) {x y : Int64} {o : Int} {pc' : Nat} (hd : decode bytes pc = .ok (.lcmp, 1)) (hd' : decode bytes (pc + 1) = .ok (.ifCond .gt o, 3)) (ho : 0 ≤ ((pc + 1 : Nat) : Int) + o) (hp : (((pc + 1 : Nat) : Int) + o).toNat = pc') (yes : y < x → ownGo p e m below n0 En Q T pc' Ls S) (no : ¬ y < x → ownGo p e m below n0 En Q T (pc + 1 + 3) Ls S) : ownGo p e m below n0 En Q T pc Ls (.long y :: .long x :: S) :=
  own_lcmp G hd (own_if_gt G hd' ho hp (fun q => yes ((lw_gt _ _).mp q)) (fun q => no (fun r => q ((lw_gt _ _).mpr r))))
theorem own_lcif_le (G : ownSt p l e R s m args below meth c Z n0 own bytes mx rt nm T h cells slots) {x y : Int64} {o : Int} {pc' : Nat} (hd : decode bytes pc = .ok (.lcmp, 1)) (hd' : decode bytes (pc + 1) = .ok (.ifCond .le o, 3)) (ho : 0 ≤ ((pc + 1 : Nat) : Int) + o) (hp : (((pc + 1 : Nat) : Int) + o).toNat = pc') (yes : ¬ y < x → ownGo p e m below n0 En Q T pc' Ls S) (no : y < x → ownGo p e m below n0 En Q T (pc + 1 + 3) Ls S) : ownGo p e m below n0 En Q T pc Ls (.long y :: .long x :: S) :=
  own_lcmp G hd (own_if_le G hd' ho hp (fun q => yes (fun r => q ((lw_gt _ _).mpr r))) (fun q => no ((lw_gt _ _).mp q)))
theorem own_lcif_eq (G : ownSt p l e R s m args below meth c Z n0 own bytes mx rt nm T h cells slots) {x y : Int64} {o : Int} {pc' : Nat} (hd : decode bytes pc = .ok (.lcmp, 1)) (hd' : decode bytes (pc + 1) = .ok (.ifCond .eq o, 3)) (ho : 0 ≤ ((pc + 1 : Nat) : Int) + o) (hp : (((pc + 1 : Nat) : Int) + o).toNat = pc') (yes : x = y → ownGo p e m below n0 En Q T pc' Ls S) (no : ¬ x = y → ownGo p e m below n0 En Q T (pc + 1 + 3) Ls S) : ownGo p e m below n0 En Q T pc Ls (.long y :: .long x :: S) :=
  own_lcmp G hd (own_if_eq G hd' ho hp (fun q => yes ((lw_eq _ _).mp q)) (fun q => no (fun r => q ((lw_eq _ _).mpr r))))
theorem own_lcif_ne (G : ownSt p l e R s m args below meth c Z n0 own bytes mx rt nm T h cells slots) {x y : Int64} {o : Int} {pc' : Nat} (hd : decode bytes pc = .ok (.lcmp, 1)) (hd' : decode bytes (pc + 1) = .ok (.ifCond .ne o, 3)) (ho : 0 ≤ ((pc + 1 : Nat) : Int) + o) (hp : (((pc + 1 : Nat) : Int) + o).toNat = pc') (yes : ¬ x = y → ownGo p e m below n0 En Q T pc' Ls S) (no : x = y → ownGo p e m below n0 En Q T (pc + 1 + 3) Ls S) : ownGo p e m below n0 En Q T pc Ls (.long y :: .long x :: S) :=
  own_lcmp G hd (own_if_ne G hd' ho hp (fun q => yes (fun r => q ((lw_eq _ _).mpr r))) (fun q => no ((lw_eq _ _).mp q)))
theorem own_ifnull_null (G : ownSt p l e R s m args below meth c Z n0 own bytes mx rt nm T h cells slots) {o : Int} {pc' : Nat} (hd : decode bytes pc = .ok (.ifnull o, 3)) (ho : 0 ≤ (pc : Int) + o) (hp : ((pc : Int) + o).toNat = pc') (go : ownGo p e m below n0 En Q T pc' Ls S) : ownGo p e m below n0 En Q T pc Ls (.null :: S) := by
  obtain ⟨⟨hx, hZ, hby, hml, hown, hnm, hret, hlk⟩, locs, X, eT, hN⟩ := G
  exact ownGo.step (fun t k => XS.ifnullYes X.here hx rfl (pc0 := pc) rfl (hb hby hd) rfl ho hp k) go
theorem own_ifnull_ref (G : ownSt p l e R s m args below meth c Z n0 own bytes mx rt nm T h cells slots) {o : Int} (hd : decode bytes pc = .ok (.ifnull o, 3)) (go : ownGo p e m below n0 En Q T (pc + 3) Ls S) : ownGo p e m below n0 En Q T pc Ls (.ref b :: S) := by
  obtain ⟨⟨hx, hZ, hby, hml, hown, hnm, hret, hlk⟩, locs, X, eT, hN⟩ := G
  exact ownGo.step (fun t k => XS.ifnullNo X.here hx rfl (hb hby hd) rfl k) go
theorem own_ifnonnull_ref (G : ownSt p l e R s m args below meth c Z n0 own bytes mx rt nm T h cells slots) {o : Int} {pc' : Nat} (hd : decode bytes pc = .ok (.ifnonnull o, 3)) (ho : 0 ≤ (pc : Int) + o) (hp : ((pc : Int) + o).toNat = pc') (go : ownGo p e m below n0 En Q T pc' Ls S) : ownGo p e m below n0 En Q T pc Ls (.ref b :: S) := by
  obtain ⟨⟨hx, hZ, hby, hml, hown, hnm, hret, hlk⟩, locs, X, eT, hN⟩ := G
  exact ownGo.step (fun t k => XS.ifnonnullYes X.here hx rfl (pc0 := pc) rfl (hb hby hd) rfl ho hp k) go
theorem own_ifnonnull_null (G : ownSt p l e R s m args below meth c Z n0 own bytes mx rt nm T h cells slots) {o : Int} (hd : decode bytes pc = .ok (.ifnonnull o, 3)) (go : ownGo p e m below n0 En Q T (pc + 3) Ls S) : ownGo p e m below n0 En Q T pc Ls (.null :: S) := by
  obtain ⟨⟨hx, hZ, hby, hml, hown, hnm, hret, hlk⟩, locs, X, eT, hN⟩ := G
  exact ownGo.step (fun t k => XS.ifnonnullNo X.here hx rfl (hb hby hd) rfl k) go
theorem own_acmp (G : ownSt p l e R s m args below meth c Z n0 own bytes mx rt nm T h cells slots) {cd : ACond} {x y : Value} {o : Int} {pc' : Nat} {same : Bool} (hd : decode bytes pc = .ok (.if_acmp cd o, 3)) (h1 : x.isRef = true) (h2 : y.isRef = true) (hq : decide (x = y) = same) (ho : 0 ≤ (pc : Int) + o) (hp : pc' = if acV cd same = true then ((pc : Int) + o).toNat else pc + 3) (go : ownGo p e m below n0 En Q T pc' Ls S) : ownGo p e m below n0 En Q T pc Ls (y :: x :: S) := by
  obtain ⟨⟨hx, hZ, hby, hml, hown, hnm, hret, hlk⟩, locs, X, eT, hN⟩ := G
  exact ownGo.step (fun t k => Jvm.RoadKit.acmp (g := mkF m pc Ls (y :: x :: S)) X hx rfl h1 h2 (pc0 := pc) rfl (hb hby hd) rfl hq ho hp k) go
theorem own_ret (G : ownSt p l e R s m args below meth c Z n0 own bytes mx rt nm T h cells slots) (hd : decode bytes pc = .ok (.return_, 1)) (hrt : rt = none) (hc : cells ≤ R.cells) (hs : slots ≤ R.slots) (q : Q none h) : ownGo p e m below n0 (ownEnd s R) Q T pc Ls [] := by
  obtain ⟨⟨hx, hZ, hby, hml, hown, hnm, hret, hlk⟩, locs, X, eT, hN⟩ := G
  obtain ⟨fs, hr, hrun, hended, hW, hsame⟩ := X.leave (v := none) (fun _ => rfl)
  exact ⟨_, _, X.returnOut hx (hret.trans hrt) (hb hby hd) hr, hrun, hended, _, _, rfl, ⟨by show Q none T.heap; rw [eT]; exact q, hN⟩, ⟨_, rfl⟩, hW, hsame.mono hc hs⟩
theorem own_ireturn (G : ownSt p l e R s m args below meth c Z n0 own bytes mx rt nm T h cells slots) {z : Int32} (hd : decode bytes pc = .ok (.ireturn, 1)) (hrt : rt = some .int) (hc : cells ≤ R.cells) (hs : slots ≤ R.slots) (q : Q (some (.int z)) h) : ownGo p e m below n0 (ownEnd s R) Q T pc Ls (.int z :: S) := by
  obtain ⟨⟨hx, hZ, hby, hml, hown, hnm, hret, hlk⟩, locs, X, eT, hN⟩ := G
  obtain ⟨fs, hr, hrun, hended, hW, hsame⟩ := X.leave (v := some (.int z)) (fun h => by rw [hret, hrt] at h; cases h)
  exact ⟨_, _, retOut X hx (hret.trans hrt) rfl (Or.inl ⟨rfl, Or.inl rfl, _, rfl⟩) (hb hby hd) hr, hrun, hended, _, _, rfl, ⟨by show Q _ T.heap; rw [eT]; exact q, hN⟩, ⟨_, rfl⟩, hW, hsame.mono hc hs⟩
theorem own_zreturn (G : ownSt p l e R s m args below meth c Z n0 own bytes mx rt nm T h cells slots) {z : Int32} (hd : decode bytes pc = .ok (.ireturn, 1)) (hrt : rt = some .boolean) (hc : cells ≤ R.cells) (hs : slots ≤ R.slots) (q : Q (some (.int (nar .boolean z))) h) : ownGo p e m below n0 (ownEnd s R) Q T pc Ls (.int z :: S) := by
  obtain ⟨⟨hx, hZ, hby, hml, hown, hnm, hret, hlk⟩, locs, X, eT, hN⟩ := G
  obtain ⟨fs, hr, hrun, hended, hW, hsame⟩ := X.leave (v := some (.int (nar .boolean z))) (fun h => by rw [hret, hrt] at h; cases h)
  exact ⟨_, _, retN X hx (t := .boolean) (hret.trans hrt) (by simp) (hb hby hd) hr, hrun, hended, _, _, rfl, ⟨by show Q _ T.heap; rw [eT]; exact q, hN⟩, ⟨_, rfl⟩, hW, hsame.mono hc hs⟩
theorem own_lreturn (G : ownSt p l e R s m args below meth c Z n0 own bytes mx rt nm T h cells slots) {z : Int64} (hd : decode bytes pc = .ok (.lreturn, 1)) (hrt : rt = some .long) (hc : cells ≤ R.cells) (hs : slots ≤ R.slots) (q : Q (some (.long z)) h) : ownGo p e m below n0 (ownEnd s R) Q T pc Ls (.long z :: S) := by
  obtain ⟨⟨hx, hZ, hby, hml, hown, hnm, hret, hlk⟩, locs, X, eT, hN⟩ := G
  obtain ⟨fs, hr, hrun, hended, hW, hsame⟩ := X.leave (v := some (.long z)) (fun h => by rw [hret, hrt] at h; cases h)
  exact ⟨_, _, retOut X hx (hret.trans hrt) rfl (Or.inr (Or.inl ⟨rfl, rfl, _, rfl⟩)) (hb hby hd) hr, hrun, hended, _, _, rfl, ⟨by show Q _ T.heap; rw [eT]; exact q, hN⟩, ⟨_, rfl⟩, hW, hsame.mono hc hs⟩
theorem own_areturn (G : ownSt p l e R s m args below meth c Z n0 own bytes mx rt nm T h cells slots) {v : Value} {t : FieldType} (hd : decode bytes pc = .ok (.areturn, 1)) (hrt : rt = some t) (ht : t.isReference = true) (hv : v.isRef = true) (hn : narrow t v = v) (hc : cells ≤ R.cells) (hs : slots ≤ R.slots) (q : Q (some v) h) : ownGo p e m below n0 (ownEnd s R) Q T pc Ls (v :: S) := by
  obtain ⟨⟨hx, hZ, hby, hml, hown, hnm, hret, hlk⟩, locs, X, eT, hN⟩ := G
  obtain ⟨fs, hr, hrun, hended, hW, hsame⟩ := X.leave (v := some v) (fun h => by rw [hret, hrt] at h; cases h)
  exact ⟨_, _, retOut X hx (hret.trans hrt) hn (Or.inr (Or.inr (Or.inr (Or.inr ⟨rfl, ht, hv⟩)))) (hb hby hd) hr, hrun, hended, _, _, rfl, ⟨by show Q _ T.heap; rw [eT]; exact q, hN⟩, ⟨_, rfl⟩, hW, hsame.mono hc hs⟩
theorem own_ldcInt (G : ownSt p l e R s m args below meth c Z n0 own bytes mx rt nm T h cells slots) {index : Nat} {v : Int32} (hd : decode bytes pc = .ok (.ldc index, 2)) (w : (Cond.constant own index v).before a0 Z = true) (go : ownGo p e m below n0 En Q T (pc + 2) Ls (.int v :: S)) : ownGo p e m below n0 En Q T pc Ls S := by
  obtain ⟨⟨hx, hZ, hby, hml, hown, hnm, hret, hlk⟩, locs, X, eT, hN⟩ := G
  exact ownGo.step (fun t k => X.ldcInt hx hown (mvT hZ w) (g := mkF m pc Ls S) rfl (hb hby hd) _ k) go
theorem own_ldcw (G : ownSt p l e R s m args below meth c Z n0 own bytes mx rt nm T h cells slots) {index : Nat} {v : Int32} (hd : decode bytes pc = .ok (.ldc_w index, 3)) (w : (Cond.constant own index v).before a0 Z = true) (go : ownGo p e m below n0 En Q T (pc + 3) Ls (.int v :: S)) : ownGo p e m below n0 En Q T pc Ls S := by
  obtain ⟨⟨hx, hZ, hby, hml, hown, hnm, hret, hlk⟩, locs, X, eT, hN⟩ := G
  exact ownGo.step (fun t k => X.ldcwInt hx hown (mvT hZ w) (g := mkF m pc Ls S) rfl (hb hby hd) _ k) go
theorem own_ldc2 (G : ownSt p l e R s m args below meth c Z n0 own bytes mx rt nm T h cells slots) {index : Nat} {v : Int64} (hd : decode bytes pc = .ok (.ldc2_w index, 3)) (w : (Cond.constantLong own index v).before a0 Z = true) (go : ownGo p e m below n0 En Q T (pc + 3) Ls (.long v :: S)) : ownGo p e m below n0 En Q T pc Ls S := by
  obtain ⟨⟨hx, hZ, hby, hml, hown, hnm, hret, hlk⟩, locs, X, eT, hN⟩ := G
  exact ownGo.step (fun t k => X.ldc2Long hx hown (mvT hZ w) (g := mkF m pc Ls S) rfl (hb hby hd) _ k) go
theorem own_getF (G : ownSt p l e R s m args below meth c Z n0 own bytes mx rt nm T h cells slots) {R0 O n d : String} {index : Nat} {v : Value} (hd : decode bytes pc = .ok (.getfield index, 3)) (w : (Cond.fieldLink own index R0 n d).before a0 Z = true) (via : Via Z R0 O n d) (F : Fld Z h a O n d v)
    (go : ∀ T', ownSt p l e R s m args below meth c Z n0 own bytes mx rt nm T' h cells slots → ownGo p e m below n0 En Q T' (pc + 3) Ls (v :: S)) : ownGo p e m below n0 En Q T pc Ls (.ref a :: S) := by
  obtain ⟨⟨hx, hZ, hby, hml, hown, hnm, hret, hlk⟩, locs, X, eT, hN⟩ := G
  obtain ⟨T', X', e', st⟩ := getF X hx hZ hown (host := "") (Or.inl w) via eT F (g := mkF m pc Ls (.ref a :: S)) rfl rfl (hb hby hd)
  exact ownGo.step (fun t k => st t k) (go T' ⟨⟨hx, hZ, hby, hml, hown, hnm, hret, hlk⟩, locs, X', e', hN⟩)
theorem own_putF (G : ownSt p l e R s m args below meth c Z n0 own bytes mx rt nm T h cells slots) {R0 O n d C : String} {index kk : Nat} {ty : FieldType} {v old : Value} (hd : decode bytes pc = .ok (.putfield index, 3)) (w : (Cond.fieldLink own index R0 n d).before a0 Z = true) (via : Via Z R0 O n d) (F : Fld Z h a O n d old) (E : Exa Z h a C) (L : (Cond.lays C O n d).before a0 Z = true ∨ ((Cond.laysFinal C O n d).before a0 Z = true ∧ own = O ∧ nm = "<init>")) (wi : (Cond.instantiable C kk).before a0 Z = true)
    (hty : parseFieldDescriptor d = some ty) (hn : narrow ty v = v) (hf : fits ty v = true) (hfr : n0 ≤ a)
    (go : ∀ T' h', Wr h h' a (Jvm.RoadKit.slotOf Z O n d) v → ownSt p l e R s m args below meth c Z n0 own bytes mx rt nm T' h' cells slots → ownGo p e m below n0 En Q T' (pc + 3) Ls S) : ownGo p e m below n0 En Q T pc Ls (v :: .ref a :: S) := by
  obtain ⟨⟨hx, hZ, hby, hml, hown, hnm, hret, hlk⟩, locs, X, eT, hN⟩ := G
  obtain ⟨T', h', X', e', W', st⟩ := putF X hx hZ hown (host := "") (Or.inl w) via eT F E (L.imp id fun q => ⟨q.1, q.2.1, hnm.trans q.2.2⟩) wi hty hn hf (g := mkF m pc Ls (v :: .ref a :: S)) rfl rfl (hb hby hd)
  exact ownGo.step (fun t k => st t k) (go T' h' W' ⟨⟨hx, hZ, hby, hml, hown, hnm, hret, hlk⟩, _, X', e', Fr.snoc X' hN hfr⟩)
theorem own_getS (G : ownSt p l e R s m args below meth c Z n0 own bytes mx rt nm T h cells slots) {R0 O n d : String} {index : Nat} {v : Value} (hd : decode bytes pc = .ok (.getstatic index, 3)) (w : (Cond.fieldLink own index R0 n d).before a0 Z = true) (via : Via Z R0 O n d) (F : Sta Z h O n d v)
    (go : ∀ T', ownSt p l e R s m args below meth c Z n0 own bytes mx rt nm T' h cells slots → ownGo p e m below n0 En Q T' (pc + 3) Ls (v :: S)) : ownGo p e m below n0 En Q T pc Ls S := by
  obtain ⟨⟨hx, hZ, hby, hml, hown, hnm, hret, hlk⟩, locs, X, eT, hN⟩ := G
  obtain ⟨T', X', e', st⟩ := getS2 X hx hZ hown (host := "") (Or.inl w) via eT F (g := mkF m pc Ls S) rfl (hb hby hd)
  exact ownGo.step (fun t k => st t k) (go T' ⟨⟨hx, hZ, hby, hml, hown, hnm, hret, hlk⟩, locs, X', e', hN⟩)
theorem own_new (G : ownSt p l e R s m args below meth c Z n0 own bytes mx rt nm T h cells slots) {C : String} {index n : Nat} (hd : decode bytes pc = .ok (.new index, 3)) (w : (Cond.classLink own index C).before a0 Z = true) (wi : (Cond.instantiable C n).before a0 Z = true) (wz : (Cond.initialized C).before a0 Z = true) (hc : cells + 1 ≤ R.cells) (hl : slots + n ≤ R.slots)
    (go : ∀ T' h' a, a = h.size → Ext h h' → Exa Z h' a C → (∀ {O nm d : String} {ty : FieldType}, Laid Z a0 C O nm d → parseFieldDescriptor d = some ty → Fld Z h' a O nm d (defaultValue ty)) → ownSt p l e R s m args below meth c Z n0 own bytes mx rt nm T' h' (cells + 1) (slots + n) → ownGo p e m below n0 En Q T' (pc + 3) Ls (.ref a :: S)) : ownGo p e m below n0 En Q T pc Ls S := by
  obtain ⟨⟨hx, hZ, hby, hml, hown, hnm, hret, hlk⟩, locs, X, eT, hN⟩ := G
  obtain ⟨T', h', X', e', E', A', D', -, st⟩ := newO X hx hZ hown w wi wz eT (g := mkF m pc Ls S) rfl (hb hby hd) hc hl
  exact ownGo.step (fun t k => st t k) (go T' h' h.size rfl E' A' D' ⟨⟨hx, hZ, hby, hml, hown, hnm, hret, hlk⟩, locs, X', e', hN⟩)
/-- an array of n places: place j holds f j -/
def ownArr (Z : State) (h : Heap) (a : Addr) (ty : FieldType) (n : Nat) (f : Nat → Value) : Prop := ∃ cl : Cell, Arr Z h a cl ty ∧ cl.slots.size = n ∧ ∀ j, j < n → cl.slots[j]? = some (f j)
variable {ty : FieldType} {n i : Nat} {f g : Nat → Value} {j : Int32}
theorem ownArr.lt (A : ownArr Z h a ty n f) : a < h.size := by obtain ⟨cl, A, -⟩ := A; exact A.lt
theorem ownArr.ext (A : ownArr Z h a ty n f) (E : Ext h h') : ownArr Z h' a ty n f := by obtain ⟨cl, A, r⟩ := A; exact ⟨cl, A.ext E, r⟩
theorem ownArr.keep (A : ownArr Z h a ty n f) {ws : List Addr} (K : Keep h h' ws) (q : a ∉ ws) : ownArr Z h' a ty n f := by obtain ⟨cl, A, r⟩ := A; exact ⟨cl, ⟨K.2.1 a cl A.1 q, A.2⟩, r⟩
theorem ownArr.congr (A : ownArr Z h a ty n f) (q : ∀ j, j < n → f j = g j) : ownArr Z h a ty n g := by obtain ⟨cl, A, r1, r2⟩ := A; exact ⟨cl, A, r1, fun j hj => by rw [← q j hj]; exact r2 j hj⟩
theorem ownArr.other (A : ownArr Z h a ty n f) {sl : Nat} {v : Value} (W : Wr h h' b sl v) (q : a ≠ b) : ownArr Z h' a ty n f := by obtain ⟨cl, A, r⟩ := A; exact ⟨cl, A.other W q, r⟩
theorem ownArr.same (A : ownArr Z h a ty n f) {v : Value} (W : Wr h h' a i v) : ownArr Z h' a ty n (fun j => if j = i then v else f j) := by
  obtain ⟨cl, A, r1, r2⟩ := A
  refine ⟨_, A.same W, by rw [sz_set]; exact r1, fun j hj => ?_⟩
  by_cases q : j = i
  · subst q; simp [Cell.setSlot, r1, hj]
  · simp only [if_neg q]; rw [← r2 j hj]; exact Array.getElem?_setIfInBounds_ne (Ne.symm q)
theorem ownArr.wr (A : ownArr Z h a ty n f) {v : Value} (W : Wr h h' b i v) : ownArr Z h' a ty n (fun j => if a = b ∧ j = i then v else f j) := by
  by_cases q : a = b
  · subst q; exact (A.same W).congr fun j _ => by simp
  · exact (A.other W q).congr fun j _ => by simp [q]
theorem own_in {cl : Cell} (S : cl.slots.size = n) (ix : ¬ j < 0 ∧ j.toNatClampNeg = i ∧ i < n) : ¬ (j < 0 ∨ cl.slots.size ≤ j.toNatClampNeg) := by
  obtain ⟨q1, q2, q3⟩ := ix; rw [S, q2]; intro q; exact q.elim q1 fun r => absurd q3 (Nat.not_lt.mpr r)
theorem own_iaload (G : ownSt p l e R s m args below meth c Z n0 own bytes mx rt nm T h cells slots) {v : Value} (hd : decode bytes pc = .ok (.iaload, 1)) (A : ownArr Z h a .int n f) (ix : ¬ j < 0 ∧ j.toNatClampNeg = i ∧ i < n) (hv : f i = v) (go : ownGo p e m below n0 En Q T (pc + 1) Ls (v :: S)) : ownGo p e m below n0 En Q T pc Ls (.int j :: .ref a :: S) := by
  obtain ⟨⟨hx, hZ, hby, hml, hown, hnm, hret, hlk⟩, locs, X, eT, hN⟩ := G
  obtain ⟨cl, A, r1, r2⟩ := A
  exact ownGo.step (fun t k => X.iaload hx (by rw [eT]; exact A.1) (State.isArrayOf_alike hZ.alike A.2.1) A.2.2 (own_in r1 ix) (by rw [ix.2.1, ← hv]; exact r2 i ix.2.2) (g := mkF m pc Ls (.int j :: .ref a :: S)) rfl rfl (hb hby hd) _ k) go
theorem own_laload (G : ownSt p l e R s m args below meth c Z n0 own bytes mx rt nm T h cells slots) {v : Value} (hd : decode bytes pc = .ok (.laload, 1)) (A : ownArr Z h a .long n f) (ix : ¬ j < 0 ∧ j.toNatClampNeg = i ∧ i < n) (hv : f i = v) (go : ownGo p e m below n0 En Q T (pc + 1) Ls (v :: S)) : ownGo p e m below n0 En Q T pc Ls (.int j :: .ref a :: S) := by
  obtain ⟨⟨hx, hZ, hby, hml, hown, hnm, hret, hlk⟩, locs, X, eT, hN⟩ := G
  obtain ⟨cl, A, r1, r2⟩ := A
  exact ownGo.step (fun t k => X.laload hx (by rw [eT]; exact A.1) (State.isArrayOf_alike hZ.alike A.2.1) A.2.2 (own_in r1 ix) (by rw [ix.2.1, ← hv]; exact r2 i ix.2.2) (g := mkF m pc Ls (.int j :: .ref a :: S)) rfl rfl (hb hby hd) _ k) go
theorem own_baload (G : ownSt p l e R s m args below meth c Z n0 own bytes mx rt nm T h cells slots) {v : Value} (hd : decode bytes pc = .ok (.baload, 1)) (A : ownArr Z h a .byte n f) (ix : ¬ j < 0 ∧ j.toNatClampNeg = i ∧ i < n) (hv : f i = v) (go : ownGo p e m below n0 En Q T (pc + 1) Ls (v :: S)) : ownGo p e m below n0 En Q T pc Ls (.int j :: .ref a :: S) := by
  obtain ⟨⟨hx, hZ, hby, hml, hown, hnm, hret, hlk⟩, locs, X, eT, hN⟩ := G
  obtain ⟨cl, A, r1, r2⟩ := A
  exact ownGo.step (fun t k => X.baloadBytes hx (by rw [eT]; exact A.1) (State.isArrayOf_alike hZ.alike A.2.1) A.2.2 (own_in r1 ix) (by rw [ix.2.1, ← hv]; exact r2 i ix.2.2) (g := mkF m pc Ls (.int j :: .ref a :: S)) rfl rfl (hb hby hd) _ k) go
theorem own_aaload (G : ownSt p l e R s m args below meth c Z n0 own bytes mx rt nm T h cells slots) {v : Value} (hd : decode bytes pc = .ok (.aaload, 1)) (A : ownArr Z h a ty n f) (hty : ty.isReference = true) (ix : ¬ j < 0 ∧ j.toNatClampNeg = i ∧ i < n) (hv : f i = v) (go : ownGo p e m below n0 En Q T (pc + 1) Ls (v :: S)) : ownGo p e m below n0 En Q T pc Ls (.int j :: .ref a :: S) := by
  obtain ⟨⟨hx, hZ, hby, hml, hown, hnm, hret, hlk⟩, locs, X, eT, hN⟩ := G
  obtain ⟨cl, A, r1, r2⟩ := A
  exact ownGo.step (fun t k => X.aaload hx (by rw [eT]; exact A.1) (State.isArrayOf_alike hZ.alike A.2.1) hty A.2.2 (own_in r1 ix) (by rw [ix.2.1, ← hv]; exact r2 i ix.2.2) (g := mkF m pc Ls (.int j :: .ref a :: S)) rfl rfl (hb hby hd) _ k) go
theorem own_arraylength (G : ownSt p l e R s m args below meth c Z n0 own bytes mx rt nm T h cells slots) (hd : decode bytes pc = .ok (.arraylength, 1)) (A : ownArr Z h a ty n f) (go : ownGo p e m below n0 En Q T (pc + 1) Ls (.int n.toInt32 :: S)) : ownGo p e m below n0 En Q T pc Ls (.ref a :: S) := by
  obtain ⟨⟨hx, hZ, hby, hml, hown, hnm, hret, hlk⟩, locs, X, eT, hN⟩ := G
  obtain ⟨cl, A, r1, r2⟩ := A
  subst r1
  exact ownGo.step (fun t k => X.arraylength hx (by rw [eT]; exact A.1) (State.isArrayOf_alike hZ.alike A.2.1) (g := mkF m pc Ls (.ref a :: S)) rfl rfl (hb hby hd) _ k) go
theorem own_iastore (G : ownSt p l e R s m args below meth c Z n0 own bytes mx rt nm T h cells slots) {x : Int32} (hd : decode bytes pc = .ok (.iastore, 1)) (A : ownArr Z h a .int n f) (ix : ¬ j < 0 ∧ j.toNatClampNeg = i ∧ i < n) (hfr : n0 ≤ a) (go : ∀ T' h', Wr h h' a i (.int x) → ownSt p l e R s m args below meth c Z n0 own bytes mx rt nm T' h' cells slots → ownGo p e m below n0 En Q T' (pc + 1) Ls S) : ownGo p e m below n0 En Q T pc Ls (.int x :: .int j :: .ref a :: S) := by
  obtain ⟨⟨hx, hZ, hby, hml, hown, hnm, hret, hlk⟩, locs, X, eT, hN⟩ := G
  obtain ⟨cl, A, r1, r2⟩ := A
  obtain ⟨T', h', X', e', W', st⟩ := stI X hx hZ eT A (own_in r1 ix) (g := mkF m pc Ls (.int x :: .int j :: .ref a :: S)) rfl rfl (hb hby hd)
  exact ownGo.step (fun t k => st t k) (go T' h' (ix.2.1 ▸ W') ⟨⟨hx, hZ, hby, hml, hown, hnm, hret, hlk⟩, _, X', e', Fr.snoc X' hN hfr⟩)
theorem own_lastore (G : ownSt p l e R s m args below meth c Z n0 own bytes mx rt nm T h cells slots) {x : Int64} (hd : decode bytes pc = .ok (.lastore, 1)) (A : ownArr Z h a .long n f) (ix : ¬ j < 0 ∧ j.toNatClampNeg = i ∧ i < n) (hfr : n0 ≤ a) (go : ∀ T' h', Wr h h' a i (.long x) → ownSt p l e R s m args below meth c Z n0 own bytes mx rt nm T' h' cells slots → ownGo p e m below n0 En Q T' (pc + 1) Ls S) : ownGo p e m below n0 En Q T pc Ls (.long x :: .int j :: .ref a :: S) := by
  obtain ⟨⟨hx, hZ, hby, hml, hown, hnm, hret, hlk⟩, locs, X, eT, hN⟩ := G
  obtain ⟨cl, A, r1, r2⟩ := A
  obtain ⟨T', h', X', e', W', st⟩ := stJ X hx hZ eT A (own_in r1 ix) (g := mkF m pc Ls (.long x :: .int j :: .ref a :: S)) rfl rfl (hb hby hd)
  exact ownGo.step (fun t k => st t k) (go T' h' (ix.2.1 ▸ W') ⟨⟨hx, hZ, hby, hml, hown, hnm, hret, hlk⟩, _, X', e', Fr.snoc X' hN hfr⟩)
theorem own_bastore (G : ownSt p l e R s m args below meth c Z n0 own bytes mx rt nm T h cells slots) {x : Int32} (hd : decode bytes pc = .ok (.bastore, 1)) (A : ownArr Z h a .byte n f) (ix : ¬ j < 0 ∧ j.toNatClampNeg = i ∧ i < n) (hfr : n0 ≤ a) (go : ∀ T' h', Wr h h' a i (.int (nar .byte x)) → ownSt p l e R s m args below meth c Z n0 own bytes mx rt nm T' h' cells slots → ownGo p e m below n0 En Q T' (pc + 1) Ls S) : ownGo p e m below n0 En Q T pc Ls (.int x :: .int j :: .ref a :: S) := by
  obtain ⟨⟨hx, hZ, hby, hml, hown, hnm, hret, hlk⟩, locs, X, eT, hN⟩ := G
  obtain ⟨cl, A, r1, r2⟩ := A
  obtain ⟨T', h', X', e', W', st⟩ := stB X hx hZ eT A (own_in r1 ix) (g := mkF m pc Ls (.int x :: .int j :: .ref a :: S)) rfl rfl (hb hby hd)
  exact ownGo.step (fun t k => st t k) (go T' h' (ix.2.1 ▸ W') ⟨⟨hx, hZ, hby, hml, hown, hnm, hret, hlk⟩, _, X', e', Fr.snoc X' hN hfr⟩)
theorem own_newarr (G : ownSt p l e R s m args below meth c Z n0 own bytes mx rt nm T h cells slots) {aty : ArrayType} {x : Int32} (hd : decode bytes pc = .ok (.newarray aty, 2)) (w : (Cond.arrayClass (newarray.typeOf aty)).before a0 Z = true) (hn : ¬ x < 0) {k cap : Nat} (hk : x.toNatClampNeg = k) (hcap : k ≤ cap) (hb8 : cap * 8 ≤ 536870912) (hc : cells + 1 ≤ R.cells) (hl : slots + cap ≤ R.slots)
    (go : ∀ T' h' a, a = h.size → Ext h h' → ownArr Z h' a (newarray.typeOf aty) k (fun _ => defaultValue (newarray.typeOf aty)) → ownSt p l e R s m args below meth c Z n0 own bytes mx rt nm T' h' (cells + 1) (slots + cap) → ownGo p e m below n0 En Q T' (pc + 2) Ls (.ref a :: S)) : ownGo p e m below n0 En Q T pc Ls (.int x :: S) := by
  obtain ⟨⟨hx, hZ, hby, hml, hown, hnm, hret, hlk⟩, locs, X, eT, hN⟩ := G
  subst hk
  obtain ⟨T', h', cA, X', e', E', A', st⟩ := newP X hx hZ w eT (g := mkF m pc Ls (.int x :: S)) rfl (hb hby hd) rfl hn hcap hb8 hc hl
  exact ownGo.step (fun t k => st t k) (go T' h' h.size rfl E' ⟨_, A', sz_new _ _ _, fun j hj => by simp [newA, hj]⟩ ⟨⟨hx, hZ, hby, hml, hown, hnm, hret, hlk⟩, locs, X', e', hN⟩)
theorem own_ldcFloat (G : ownSt p l e R s m args below meth c Z n0 own bytes mx rt nm T h cells slots) {index : Nat} {v : UInt32} (hd : decode bytes pc = .ok (.ldc index, 2)) (w : (Cond.constantFloat own index v).before a0 Z = true) (go : ownGo p e m below n0 En Q T (pc + 2) Ls (.float v :: S)) : ownGo p e m below n0 En Q T pc Ls S := by
  obtain ⟨⟨hx, hZ, hby, hml, hown, hnm, hret, hlk⟩, locs, X, eT, hN⟩ := G
  exact ownGo.step (fun t k => X.ldcFloatC hx hown (mvT hZ w) (g := mkF m pc Ls S) rfl (hb hby hd) _ k) go
/-- an array of references to objects of C -/
def ownRef (Z : State) (h : Heap) (a : Addr) (C : String) (n : Nat) (f : Nat → Value) : Prop := ∃ cl : Cell, Arr Z h a cl (.object C) ∧ Ovr Z cl.cls C ∧ cl.slots.size = n ∧ ∀ j, j < n → cl.slots[j]? = some (f j)
theorem ownRef.arr {C : String} (A : ownRef Z h a C n f) : ownArr Z h a (.object C) n f := by obtain ⟨cl, A, -, r⟩ := A; exact ⟨cl, A, r⟩
theorem ownRef.lt {C : String} (A : ownRef Z h a C n f) : a < h.size := A.arr.lt
theorem ownRef.ext {C : String} (A : ownRef Z h a C n f) (E : Ext h h') : ownRef Z h' a C n f := by obtain ⟨cl, A, r⟩ := A; exact ⟨cl, A.ext E, r⟩
theorem ownRef.keep {C : String} (A : ownRef Z h a C n f) {ws : List Addr} (K : Keep h h' ws) (q : a ∉ ws) : ownRef Z h' a C n f := by obtain ⟨cl, A, r⟩ := A; exact ⟨cl, ⟨K.2.1 a cl A.1 q, A.2⟩, r⟩
theorem ownRef.congr {C : String} (A : ownRef Z h a C n f) (q : ∀ j, j < n → f j = g j) : ownRef Z h a C n g := by obtain ⟨cl, A, r0, r1, r2⟩ := A; exact ⟨cl, A, r0, r1, fun j hj => by rw [← q j hj]; exact r2 j hj⟩
theorem ownRef.other {C : String} (A : ownRef Z h a C n f) {sl : Nat} {v : Value} (W : Wr h h' b sl v) (q : a ≠ b) : ownRef Z h' a C n f := by obtain ⟨cl, A, r⟩ := A; exact ⟨cl, A.other W q, r⟩
theorem ownRef.same {C : String} (A : ownRef Z h a C n f) {v : Value} (W : Wr h h' a i v) : ownRef Z h' a C n (fun j => if j = i then v else f j) := by
  obtain ⟨cl, A, r0, r1, r2⟩ := A
  refine ⟨_, A.same W, r0, by rw [sz_set]; exact r1, fun j hj => ?_⟩
  by_cases q : j = i
  · subst q; simp [Cell.setSlot, r1, hj]
  · simp only [if_neg q]; rw [← r2 j hj]; exact Array.getElem?_setIfInBounds_ne (Ne.symm q)
theorem own_aastore (G : ownSt p l e R s m args below meth c Z n0 own bytes mx rt nm T h cells slots) {C : String} {v : Value} (hd : decode bytes pc = .ok (.aastore, 1)) (A : ownRef Z h a C n f) (ix : ¬ j < 0 ∧ j.toNatClampNeg = i ∧ i < n) (hv : v = .null ∨ ∃ y, v = .ref y ∧ Ins Z h y C true) (hfr : n0 ≤ a) (go : ∀ T' h', Wr h h' a i v → ownSt p l e R s m args below meth c Z n0 own bytes mx rt nm T' h' cells slots → ownGo p e m below n0 En Q T' (pc + 1) Ls S) : ownGo p e m below n0 En Q T pc Ls (v :: .int j :: .ref a :: S) := by
  obtain ⟨⟨hx, hZ, hby, hml, hown, hnm, hret, hlk⟩, locs, X, eT, hN⟩ := G
  obtain ⟨cl, A, r0, r1, r2⟩ := A
  have F : Sto Z h a v := by
    rcases hv with rfl | ⟨y, rfl, I⟩
    · exact Or.inl rfl
    · exact Sto.of A r0 I
  obtain ⟨T', h', X', e', W', st⟩ := stR X hx hZ eT A (own_in r1 ix) rfl F (g := mkF m pc Ls (v :: .int j :: .ref a :: S)) rfl rfl (hb hby hd)
  exact ownGo.step (fun t k => st t k) (go T' h' (ix.2.1 ▸ W') ⟨⟨hx, hZ, hby, hml, hown, hnm, hret, hlk⟩, _, X', e', Fr.snoc X' hN hfr⟩)
theorem own_anewarr (G : ownSt p l e R s m args below meth c Z n0 own bytes mx rt nm T h cells slots) {C : String} {index : Nat} {x : Int32} (hd : decode bytes pc = .ok (.anewarray index, 3)) (w1 : (Cond.classLink own index C).before a0 Z = true) (w2 : (Cond.arrayOver (.object C)).before a0 Z = true) (hn : ¬ x < 0) {k cap : Nat} (hk : x.toNatClampNeg = k) (hcap : k ≤ cap) (hb8 : cap * 8 ≤ 536870912) (hc : cells + 1 ≤ R.cells) (hl : slots + cap ≤ R.slots)
    (go : ∀ T' h' a, a = h.size → Ext h h' → ownRef Z h' a C k (fun _ => .null) → ownSt p l e R s m args below meth c Z n0 own bytes mx rt nm T' h' (cells + 1) (slots + cap) → ownGo p e m below n0 En Q T' (pc + 3) Ls (.ref a :: S)) : ownGo p e m below n0 En Q T pc Ls (.int x :: S) := by
  obtain ⟨⟨hx, hZ, hby, hml, hown, hnm, hret, hlk⟩, locs, X, eT, hN⟩ := G
  subst hk
  obtain ⟨T', h', cA, X', e', E', A', O', st⟩ := newR X hx hZ hown w1 w2 eT (g := mkF m pc Ls (.int x :: S)) rfl (hb hby hd) rfl hn hcap hb8 hc hl
  exact ownGo.step (fun t k => st t k) (go T' h' h.size rfl E' ⟨_, A', O', sz_new _ _ _, fun j hj => by simp [newA, hj, defaultValue]⟩ ⟨⟨hx, hZ, hby, hml, hown, hnm, hret, hlk⟩, locs, X', e', hN⟩)
theorem own_callS (G : ownSt p l e R s m args below meth c Z n0 own bytes mx rt nm T h cells slots) {index : Nat} {y : MethodName} {by' : ByteArray} {mx' : Nat} {rt' : Option FieldType} {rm : Room} {as' : Array Value} {Q' : Option Value → Heap → Prop} (hd : decode bytes pc = .ok (.invokestatic index, 3))
    (w1 : (Cond.methodLink own index y).before a0 Z = true) (w2 : (Cond.static y).before a0 Z = true) (w3 : (Cond.initialized y.cls).before a0 Z = true) (w4 : (Cond.code y by' mx' rt').before a0 Z = true) (hy : y.cls ≠ "java/lang/invoke/MethodHandle" ∧ y.cls ≠ "java/lang/invoke/VarHandle")
    {argsL rest : List Value} (hM : ownMet l [] y by' mx' rt' rm Z n0 as' h Q') (has : as' = argsL.toArray) (hst : S = argsL.reverse ++ rest) (hsz : Ls.size = mx) (hlen : ∀ sig, parseMethodDescriptor y.desc = some sig → argsL.length = sig.parameters.length)
    {W : Nat} (hW : (rest.map fun v => v.category).sum ≤ W) (hf : rm.frames + 1 ≤ R.frames) (hl : W + (mx' + 11) + rm.locals ≤ R.locals) (hc : cells + rm.cells ≤ R.cells) (hs : slots + rm.slots ≤ R.slots)
    (go : ∀ v T' h', Q' v h' → ownSt p l e R s m args below meth c Z n0 own bytes mx rt nm T' h' (cells + rm.cells) (slots + rm.slots) → ownGo p e m below n0 En Q T' (pc + 3) Ls (v.toList ++ rest)) : ownGo p e m below n0 En Q T pc Ls S := by
  obtain ⟨⟨hx, hZ, hby, hml, hown, hnm, hret, hlk⟩, locs, X, eT, hN⟩ := G
  subst has hst
  obtain ⟨v, _, ⟨T', L', k', n'⟩, -, X', ⟨Lc, ⟨hQ, hN'⟩, l', y', z'⟩, st⟩ := Jvm.LawKit.callS X hx (y := y) hown (mvT hZ w1) (mvT hZ w2) (mvT hZ w3) (mvT hZ w4) hy (backOf (W := W) (Q := fun v h L => Q' v h ∧ Fr n0 L) hM hZ w4 w3 hf hl) (g := mkF m pc Ls (argsL.reverse ++ rest)) rfl (hsz.trans hml.symm) (argsL := argsL) (rest := rest) hlen rfl (by show 2 * 0 + _ ≤ _; omega) (hb hby hd) (fun _ _ => ⟨rfl, eT, hc, hs⟩)
  dsimp only [Pt.U, Pt.locs, Pt.cells, Pt.slots] at X' l' y' z' st hQ
  subst l' y' z'
  exact ownGo.step (fun t k => st t k) (go v T' T'.heap hQ ⟨⟨hx, hZ, hby, hml, hown, hnm, hret, hlk⟩, _, X', rfl, Fr.app hN hN'⟩)
theorem own_callSUp (G : ownSt p l e R s m args below meth c Z n0 own bytes mx rt nm T h cells slots) {owner : String} {index : Nat} {x : MethodName} {by' : ByteArray} {mx' : Nat} {rt' : Option FieldType} {rm : Room} {as' : Array Value} {Q' : Option Value → Heap → Prop} (hd : decode bytes pc = .ok (.invokestatic index, 3))
    (w1 : (Cond.methodLink own index x).before a0 Z = true) (wm : (Cond.sameMethod x.cls owner x.name x.desc).before a0 Z = true) (w2 : (Cond.static ⟨owner, x.name, x.desc⟩).before a0 Z = true) (w3 : (Cond.initialized owner).before a0 Z = true) (w4 : (Cond.code ⟨owner, x.name, x.desc⟩ by' mx' rt').before a0 Z = true) (hy : owner ≠ "java/lang/invoke/MethodHandle" ∧ owner ≠ "java/lang/invoke/VarHandle")
    {argsL rest : List Value} (hM : ownMet l [] ⟨owner, x.name, x.desc⟩ by' mx' rt' rm Z n0 as' h Q') (has : as' = argsL.toArray) (hst : S = argsL.reverse ++ rest) (hsz : Ls.size = mx) (hlen : ∀ sig, parseMethodDescriptor x.desc = some sig → argsL.length = sig.parameters.length)
    {W : Nat} (hW : (rest.map fun v => v.category).sum ≤ W) (hf : rm.frames + 1 ≤ R.frames) (hl : W + (mx' + 11) + rm.locals ≤ R.locals) (hc : cells + rm.cells ≤ R.cells) (hs : slots + rm.slots ≤ R.slots)
    (go : ∀ v T' h', Q' v h' → ownSt p l e R s m args below meth c Z n0 own bytes mx rt nm T' h' (cells + rm.cells) (slots + rm.slots) → ownGo p e m below n0 En Q T' (pc + 3) Ls (v.toList ++ rest)) : ownGo p e m below n0 En Q T pc Ls S := by
  obtain ⟨⟨hx, hZ, hby, hml, hown, hnm, hret, hlk⟩, locs, X, eT, hN⟩ := G
  subst has hst
  have w4s : (Cond.code ⟨owner, x.name, x.desc⟩ by' mx' rt').before args s = true := mvT hZ w4
  obtain ⟨mk, hnamed⟩ := Cond.code_named w4s
  obtain ⟨methM, cM, hmethM, -, -, -, -, -, -, hsigM⟩ := Cond.code_spec hnamed w4s
  obtain ⟨v, _, ⟨T', L', k', n'⟩, -, X', ⟨Lc, ⟨hQ, hN'⟩, l', y', z'⟩, st⟩ := X.staticBackUp hx (x := x) hown (mvT hZ w1) (mvT hZ wm) (mvT hZ w2) (mvT hZ w3) hnamed hmethM hsigM hy (backOf (W := W) (Q := fun v h L => Q' v h ∧ Fr n0 L) hM hZ w4 w3 hf hl) (g := mkF m pc Ls (argsL.reverse ++ rest)) rfl (hsz.trans hml.symm) (Steps.refl _) (argsL := argsL) (rest := rest) hlen rfl (by show 2 * 0 + _ ≤ _; omega) (hb hby hd) (fun _ _ => ⟨rfl, eT, hc, hs⟩)
  dsimp only [Pt.U, Pt.locs, Pt.cells, Pt.slots] at X' l' y' z' st hQ
  subst l' y' z'
  exact ownGo.step (fun t k => st.trans k) (go v T' T'.heap hQ ⟨⟨hx, hZ, hby, hml, hown, hnm, hret, hlk⟩, _, X', rfl, Fr.app hN hN'⟩)
theorem own_special (G : ownSt p l e R s m args below meth c Z n0 own bytes mx rt nm T h cells slots) {index : Nat} {y : MethodName} {by' : ByteArray} {mx' : Nat} {rm : Room} {as' : Array Value} {Q' : Option Value → Heap → Prop} (hd : decode bytes pc = .ok (.invokespecial index, 3)) (hy1 : y.name = "<init>")
    (w1 : (Cond.methodLink own index y).before a0 Z = true) (w2 : (Cond.instanceMethod y).before a0 Z = true) (w3 : (Cond.initialized y.cls).before a0 Z = true) (w4 : (Cond.code y by' mx' none).before a0 Z = true) (hy : y.cls ≠ "java/lang/invoke/MethodHandle" ∧ y.cls ≠ "java/lang/invoke/VarHandle")
    {argsL rest : List Value} (hM : ownMet l [] y by' mx' none rm Z n0 as' h Q') (has : as' = (.ref a :: argsL).toArray) (hst : S = argsL.reverse ++ .ref a :: rest) (hsz : Ls.size = mx) (hlen : ∀ sig, parseMethodDescriptor y.desc = some sig → argsL.length = sig.parameters.length)
    {W : Nat} (hW : (rest.map fun v => v.category).sum ≤ W) (hf : rm.frames + 1 ≤ R.frames) (hl : W + (mx' + 11) + rm.locals ≤ R.locals) (hc : cells + rm.cells ≤ R.cells) (hs : slots + rm.slots ≤ R.slots)
    (go : ∀ v T' h', Q' v h' → ownSt p l e R s m args below meth c Z n0 own bytes mx rt nm T' h' (cells + rm.cells) (slots + rm.slots) → ownGo p e m below n0 En Q T' (pc + 3) Ls (v.toList ++ rest)) : ownGo p e m below n0 En Q T pc Ls S := by
  obtain ⟨⟨hx, hZ, hby, hml, hown, hnm, hret, hlk⟩, locs, X, eT, hN⟩ := G
  subst has hst
  obtain ⟨v, _, ⟨T', L', k', n'⟩, -, X', ⟨Lc, ⟨hQ, hN'⟩, l', y', z'⟩, st⟩ := X.specialBack hx (y := y) hy1 hown (mvT hZ w1) (mvT hZ w2) (mvT hZ w4) hy (backOf (W := W) (Q := fun v h L => Q' v h ∧ Fr n0 L) hM hZ w4 w3 hf hl) (g := mkF m pc Ls (argsL.reverse ++ .ref a :: rest)) rfl (hsz.trans hml.symm) (Steps.refl _) (a := a) (argsL := argsL) (rest := rest) hlen rfl (by show 2 * 0 + _ ≤ _; omega) (hb hby hd) (fun _ _ => ⟨rfl, eT, hc, hs⟩)
  dsimp only [Pt.U, Pt.locs, Pt.cells, Pt.slots] at X' l' y' z' st hQ
  subst l' y' z'
  exact ownGo.step (fun t k => st.trans k) (go v T' T'.heap hQ ⟨⟨hx, hZ, hby, hml, hown, hnm, hret, hlk⟩, _, X', rfl, Fr.app hN hN'⟩)
theorem own_virtual (G : ownSt p l e R s m args below meth c Z n0 own bytes mx rt nm T h cells slots) {C : String} {index : Nat} {y : MethodName} {by' : ByteArray} {mx' : Nat} {rt' : Option FieldType} {rm : Room} {as' : Array Value} {Q' : Option Value → Heap → Prop} (hd : decode bytes pc = .ok (.invokevirtual index, 3))
    (w1 : (Cond.methodLink own index y).before a0 Z = true) (w2 : (Cond.declares y).before a0 Z = true) (ws : (Cond.selects C y y).before a0 Z = true) (wi : (Cond.instanceMethod y).before a0 Z = true) (w3 : (Cond.initialized y.cls).before a0 Z = true) (w4 : (Cond.code y by' mx' rt').before a0 Z = true) (hy : y.cls ≠ "java/lang/invoke/MethodHandle" ∧ y.cls ≠ "java/lang/invoke/VarHandle")
    {argsL rest : List Value} (E : Exa Z h a C) (hM : ownMet l [] y by' mx' rt' rm Z n0 as' h Q') (has : as' = (.ref a :: argsL).toArray) (hst : S = argsL.reverse ++ .ref a :: rest) (hsz : Ls.size = mx) (hlen : ∀ sig, parseMethodDescriptor y.desc = some sig → argsL.length = sig.parameters.length)
    {W : Nat} (hW : (rest.map fun v => v.category).sum ≤ W) (hf : rm.frames + 1 ≤ R.frames) (hl : W + (mx' + 11) + rm.locals ≤ R.locals) (hc : cells + rm.cells ≤ R.cells) (hs : slots + rm.slots ≤ R.slots)
    (go : ∀ v T' h', Q' v h' → ownSt p l e R s m args below meth c Z n0 own bytes mx rt nm T' h' (cells + rm.cells) (slots + rm.slots) → ownGo p e m below n0 En Q T' (pc + 3) Ls (v.toList ++ rest)) : ownGo p e m below n0 En Q T pc Ls S := by
  obtain ⟨⟨hx, hZ, hby, hml, hown, hnm, hret, hlk⟩, locs, X, eT, hN⟩ := G
  subst has hst
  obtain ⟨cq, kq, qa, qb, qc⟩ := isOf hZ eT E
  obtain ⟨v, _, ⟨T', L', k', n'⟩, -, X', ⟨Lc, ⟨hQ, hN'⟩, l', y', z'⟩, st⟩ := X.virtualBack hx (y := y) (z := y) hown (mvT hZ w1) (mvT hZ w2) (notFace_of_selects (args := #[]) (mvT hZ ws)) (mvT hZ ws) (mvT hZ wi) hy (backOf (W := W) (Q := fun v h L => Q' v h ∧ Fr n0 L) hM hZ w4 w3 hf hl) qa qc (g := mkF m pc Ls (argsL.reverse ++ .ref a :: rest)) rfl (hsz.trans hml.symm) (Steps.refl _) (argsL := argsL) (rest := rest) hlen rfl (by show 2 * 0 + _ ≤ _; omega) (hb hby hd) (fun _ _ => ⟨rfl, eT, hc, hs⟩)
  dsimp only [Pt.U, Pt.locs, Pt.cells, Pt.slots] at X' l' y' z' st hQ
  subst l' y' z'
  exact ownGo.step (fun t k => st.trans k) (go v T' T'.heap hQ ⟨⟨hx, hZ, hby, hml, hown, hnm, hret, hlk⟩, _, X', rfl, Fr.app hN hN'⟩)
theorem own_interface (G : ownSt p l e R s m args below meth c Z n0 own bytes mx rt nm T h cells slots) {C : String} {index count : Nat} {xi y : MethodName} {by' : ByteArray} {mx' : Nat} {rt' : Option FieldType} {rm : Room} {as' : Array Value} {Q' : Option Value → Heap → Prop} (hd : decode bytes pc = .ok (.invokeinterface index count, 5))
    (w1 : (Cond.methodLink own index xi).before a0 Z = true) (w2 : (Cond.declares xi).before a0 Z = true) (wf : (Cond.interfaceMethod xi.cls xi.cls xi.name xi.desc).before a0 Z = true) (ws : (Cond.selects C xi y).before a0 Z = true) (wi : (Cond.instanceMethod y).before a0 Z = true) (wp : (Cond.publicMethod y).before a0 Z = true) (wu : (Cond.unhidden C xi.name xi.desc).before a0 Z = true) (wc : (Cond.castable C xi.cls).before a0 Z = true) (w3 : (Cond.initialized y.cls).before a0 Z = true) (w4 : (Cond.code y by' mx' rt').before a0 Z = true) (hy : xi.cls ≠ "java/lang/invoke/MethodHandle" ∧ xi.cls ≠ "java/lang/invoke/VarHandle")
    {argsL rest : List Value} (E : Exa Z h a C) (hM : ownMet l [] y by' mx' rt' rm Z n0 as' h Q') (has : as' = (.ref a :: argsL).toArray) (hst : S = argsL.reverse ++ .ref a :: rest) (hsz : Ls.size = mx) (hlen : ∀ sig, parseMethodDescriptor xi.desc = some sig → argsL.length = sig.parameters.length)
    {W : Nat} (hW : (rest.map fun v => v.category).sum ≤ W) (hf : rm.frames + 1 ≤ R.frames) (hl : W + (mx' + 11) + rm.locals ≤ R.locals) (hc : cells + rm.cells ≤ R.cells) (hs : slots + rm.slots ≤ R.slots)
    (go : ∀ v T' h', Q' v h' → ownSt p l e R s m args below meth c Z n0 own bytes mx rt nm T' h' (cells + rm.cells) (slots + rm.slots) → ownGo p e m below n0 En Q T' (pc + 5) Ls (v.toList ++ rest)) : ownGo p e m below n0 En Q T pc Ls S := by
  obtain ⟨⟨hx, hZ, hby, hml, hown, hnm, hret, hlk⟩, locs, X, eT, hN⟩ := G
  subst has hst
  obtain ⟨cq, kq, qa, qb, qc⟩ := isOf hZ eT E
  obtain ⟨v, _, ⟨T', L', k', n'⟩, -, X', ⟨Lc, ⟨hQ, hN'⟩, l', y', z'⟩, st⟩ := X.interfaceBack hx (xi := xi) (y := y) hown (mvT hZ w1) (mvT hZ w2) (mvT hZ wf (by simp [Cond.onTables, Cond.keepsFace, Cond.keeps, Cond.steady, Cond.faceAtom, hy])) (mvT hZ ws) (mvT hZ wi) (mvT hZ wp) (mvT hZ wu) (mvT hZ wc) hy (backOf (W := W) (Q := fun v h L => Q' v h ∧ Fr n0 L) hM hZ w4 w3 hf hl) qa qb qc (g := mkF m pc Ls (argsL.reverse ++ .ref a :: rest)) rfl (hsz.trans hml.symm) (Steps.refl _) (argsL := argsL) (rest := rest) hlen rfl (by show 2 * 0 + _ ≤ _; omega) (hb hby hd) (fun _ _ => ⟨rfl, eT, hc, hs⟩)
  dsimp only [Pt.U, Pt.locs, Pt.cells, Pt.slots] at X' l' y' z' st hQ
  subst l' y' z'
  exact ownGo.step (fun t k => st.trans k) (go v T' T'.heap hQ ⟨⟨hx, hZ, hby, hml, hown, hnm, hret, hlk⟩, _, X', rfl, Fr.app hN hN'⟩)
theorem own_private (G : ownSt p l e R s m args below meth c Z n0 own bytes mx rt nm T h cells slots) {index : Nat} {y : MethodName} {by' : ByteArray} {mx' : Nat} {rt' : Option FieldType} {rm : Room} {as' : Array Value} {Q' : Option Value → Heap → Prop} {C : String} (hd : decode bytes pc = .ok (.invokevirtual index, 3))
    (w1 : (Cond.methodLink own index y).before a0 Z = true) (wi : (Cond.instanceMethod y).before a0 Z = true) (ws : (Cond.selects y.cls y y).before a0 Z = true) (wp : (Cond.privateMethod y).before a0 Z = true) (w3 : (Cond.initialized y.cls).before a0 Z = true) (w4 : (Cond.code y by' mx' rt').before a0 Z = true) (hy : y.cls ≠ "java/lang/invoke/MethodHandle" ∧ y.cls ≠ "java/lang/invoke/VarHandle")
    {argsL rest : List Value} (E : Exa Z h a C) (hM : ownMet l [] y by' mx' rt' rm Z n0 as' h Q') (has : as' = (.ref a :: argsL).toArray) (hst : S = argsL.reverse ++ .ref a :: rest) (hsz : Ls.size = mx) (hlen : ∀ sig, parseMethodDescriptor y.desc = some sig → argsL.length = sig.parameters.length)
    {W : Nat} (hW : (rest.map fun v => v.category).sum ≤ W) (hf : rm.frames + 1 ≤ R.frames) (hl : W + (mx' + 11) + rm.locals ≤ R.locals) (hc : cells + rm.cells ≤ R.cells) (hs : slots + rm.slots ≤ R.slots)
    (go : ∀ v T' h', Q' v h' → ownSt p l e R s m args below meth c Z n0 own bytes mx rt nm T' h' (cells + rm.cells) (slots + rm.slots) → ownGo p e m below n0 En Q T' (pc + 3) Ls (v.toList ++ rest)) : ownGo p e m below n0 En Q T pc Ls S := by
  obtain ⟨⟨hx, hZ, hby, hml, hown, hnm, hret, hlk⟩, locs, X, eT, hN⟩ := G
  subst has hst
  obtain ⟨cq, q1, q2⟩ := E.cell
  obtain ⟨v, _, ⟨T', L', k', n'⟩, -, X', ⟨Lc, ⟨hQ, hN'⟩, l', y', z'⟩, st⟩ := X.privateBack hx (y := y) hown (mvT hZ w1) (mvT hZ wi) (mvT hZ ws) (Cond.privateMethod_at (mvP hZ wp (args := #[]))) (mvT hZ w4) hy (backOf (W := W) (Q := fun v h L => Q' v h ∧ Fr n0 L) hM hZ w4 w3 hf hl) (g := mkF m pc Ls (argsL.reverse ++ .ref a :: rest)) rfl (hsz.trans hml.symm) (Steps.refl _) (a := a) (by rw [eT]; exact q1) q2 (argsL := argsL) (rest := rest) hlen rfl (by show 2 * 0 + _ ≤ _; omega) (hb hby hd) (fun _ _ => ⟨rfl, eT, hc, hs⟩)
  dsimp only [Pt.U, Pt.locs, Pt.cells, Pt.slots] at X' l' y' z' st hQ
  subst l' y' z'
  exact ownGo.step (fun t k => st.trans k) (go v T' T'.heap hQ ⟨⟨hx, hZ, hby, hml, hown, hnm, hret, hlk⟩, _, X', rfl, Fr.app hN hN'⟩)
theorem own_more (G : ownSt p l e R s m args below meth c Z n0 own bytes mx rt nm T h cells slots) {k n' : Nat} (hc : cells ≤ k) (hs : slots ≤ n') : ownSt p l e R s m args below meth c Z n0 own bytes mx rt nm T h k n' := by
  obtain ⟨⟨hx, hZ, hby, hml, hown, hnm, hret, hlk⟩, locs, X, eT, hN⟩ := G
  exact ⟨⟨hx, hZ, hby, hml, hown, hnm, hret, hlk⟩, locs, X.more hc hs, eT, hN⟩
end Own
def ownUpd {α : Type} (f : Nat → α) (i : Nat) (v : α) (j : Nat) : α := if j = i then v else f j
theorem ownArr.setL {Z : State} {h h' : Heap} {a : Addr} {n i : Nat} {f : Nat → Int64} {v : Int64} (A : ownArr Z h a .long n (fun j => .long (f j))) (W : Wr h h' a i (.long v)) : ownArr Z h' a .long n (fun j => .long (ownUpd f i v j)) :=
  (A.same W).congr fun j _ => by unfold ownUpd; by_cases q : j = i <;> simp [q]
theorem ownArr.setI {Z : State} {h h' : Heap} {a : Addr} {n i : Nat} {f : Nat → Int32} {v : Int32} (A : ownArr Z h a .int n (fun j => .int (f j))) (W : Wr h h' a i (.int v)) : ownArr Z h' a .int n (fun j => .int (ownUpd f i v j)) :=
  (A.same W).congr fun j _ => by unfold ownUpd; by_cases q : j = i <;> simp [q]
theorem ownArr.setN {Z : State} {h h' : Heap} {a : Addr} {n i : Nat} {f : Nat → Nat} {v : Nat} (A : ownArr Z h a .int n (fun j => .int (Int32.ofNat (f j)))) (W : Wr h h' a i (.int (Int32.ofNat v))) : ownArr Z h' a .int n (fun j => .int (Int32.ofNat (ownUpd f i v j))) :=
  (A.same W).congr fun j _ => by unfold ownUpd; by_cases q : j = i <;> simp [q]
theorem own_neA {a b : Nat} (h : ¬ @Eq Nat a b) : @Ne Addr a b := h
theorem own_n32 {i : Nat} (hi : i < 2147483648) : (Int32.ofNat i).toInt = (i : Int) := by
  rw [Int32.toInt_ofNat_of_lt (by simpa using hi)]
theorem own_ltN {i n : Nat} (hi : i < 2147483648) (hn : n < 2147483648) : Int32.ofNat i < Int32.ofNat n ↔ i < n := by
  rw [Int32.lt_iff_toInt_lt, own_n32 hi, own_n32 hn]; omega
theorem own_injN {i n : Nat} (hi : i < 2147483648) (hn : n < 2147483648) (h : Int32.ofNat i = Int32.ofNat n) : i = n := by
  have q := congrArg Int32.toInt h; rw [own_n32 hi, own_n32 hn] at q; omega
theorem own_clampN {i : Nat} (hi : i < 2147483648) : (Int32.ofNat i).toNatClampNeg = i := by
  show (Int32.ofNat i).toInt.toNat = i; rw [own_n32 hi]; omega
theorem own_nonneg {i : Nat} (hi : i < 2147483648) : ¬ Int32.ofNat i < 0 := by
  rw [Int32.lt_iff_toInt_lt, own_n32 hi]; show ¬ (i : Int) < 0; omega
theorem own_ixN {i n : Nat} (hi : i < n) (hn : n < 2147483648) : ¬ Int32.ofNat i < 0 ∧ (Int32.ofNat i).toNatClampNeg = i ∧ i < n := ⟨own_nonneg (by omega), own_clampN (by omega), hi⟩
theorem own_succN' (i : Nat) : Int32.ofNat i + 1 = Int32.ofNat (i + 1) := (Int32.ofNat_add i 1).symm
theorem own_predN (i : Nat) : Int32.ofNat (i + 1) - 1 = Int32.ofNat i := by
  rw [← own_succN']; exact Int32.add_sub_cancel _ _
theorem own_decN (i : Nat) : Int32.ofNat i + (-1 : Int32) = Int32.ofNat i - 1 := (Int32.sub_eq_add_neg _ _).symm
theorem own_succN (i : Nat) : Int32.ofNat i + 1 = Int32.ofNat (i + 1) := (Int32.ofNat_add i 1).symm
theorem d1_0 : decode method_3_code 0 = .ok (.aload_n 0, 1) := by decide +kernel
theorem d1_1 : decode method_3_code 1 = .ok (.iload_n 1, 1) := by decide +kernel
theorem d1_2 : decode method_3_code 2 = .ok (.laload, 1) := by decide +kernel
theorem d1_3 : decode method_3_code 3 = .ok (.aload_n 0, 1) := by decide +kernel
theorem d1_4 : decode method_3_code 4 = .ok (.iload_n 2, 1) := by decide +kernel
theorem d1_5 : decode method_3_code 5 = .ok (.laload, 1) := by decide +kernel
theorem d1_6 : decode method_3_code 6 = .ok (.lcmp, 1) := by decide +kernel
theorem d1_7 : decode method_3_code 7 = .ok (.ifCond .ge 17, 3) := by decide +kernel
theorem d1_10 : decode method_3_code 10 = .ok (.aload_n 0, 1) := by decide +kernel
theorem d1_11 : decode method_3_code 11 = .ok (.iload_n 1, 1) := by decide +kernel
theorem d1_12 : decode method_3_code 12 = .ok (.laload, 1) := by decide +kernel
theorem d1_13 : decode method_3_code 13 = .ok (.lstore_n 3, 1) := by decide +kernel
theorem d1_14 : decode method_3_code 14 = .ok (.aload_n 0, 1) := by decide +kernel
theorem d1_15 : decode method_3_code 15 = .ok (.iload_n 1, 1) := by decide +kernel
theorem d1_16 : decode method_3_code 16 = .ok (.aload_n 0, 1) := by decide +kernel
theorem d1_17 : decode method_3_code 17 = .ok (.iload_n 2, 1) := by decide +kernel
theorem d1_18 : decode method_3_code 18 = .ok (.laload, 1) := by decide +kernel
theorem d1_19 : decode method_3_code 19 = .ok (.lastore, 1) := by decide +kernel
theorem d1_20 : decode method_3_code 20 = .ok (.aload_n 0, 1) := by decide +kernel
theorem d1_21 : decode method_3_code 21 = .ok (.iload_n 2, 1) := by decide +kernel
theorem d1_22 : decode method_3_code 22 = .ok (.lload_n 3, 1) := by decide +kernel
theorem d1_23 : decode method_3_code 23 = .ok (.lastore, 1) := by decide +kernel
theorem d1_24 : decode method_3_code 24 = .ok (.return_, 1) := by decide +kernel
theorem d2_0 : decode prog_32_method_6_code 0 = .ok (.iconst 1, 1) := by decide +kernel
theorem d2_1 : decode prog_32_method_6_code 1 = .ok (.istore_n 1, 1) := by decide +kernel
theorem d2_2 : decode prog_32_method_6_code 2 = .ok (.iload_n 1, 1) := by decide +kernel
theorem d2_3 : decode prog_32_method_6_code 3 = .ok (.aload_n 0, 1) := by decide +kernel
theorem d2_4 : decode prog_32_method_6_code 4 = .ok (.arraylength, 1) := by decide +kernel
theorem d2_5 : decode prog_32_method_6_code 5 = .ok (.if_icmp .ge 55, 3) := by decide +kernel
theorem d2_8 : decode prog_32_method_6_code 8 = .ok (.aload_n 0, 1) := by decide +kernel
theorem d2_9 : decode prog_32_method_6_code 9 = .ok (.iload_n 1, 1) := by decide +kernel
theorem d2_10 : decode prog_32_method_6_code 10 = .ok (.laload, 1) := by decide +kernel
theorem d2_11 : decode prog_32_method_6_code 11 = .ok (.lstore_n 2, 1) := by decide +kernel
theorem d2_12 : decode prog_32_method_6_code 12 = .ok (.iload_n 1, 1) := by decide +kernel
theorem d2_13 : decode prog_32_method_6_code 13 = .ok (.iconst 1, 1) := by decide +kernel
theorem d2_14 : decode prog_32_method_6_code 14 = .ok (.isub, 1) := by decide +kernel
theorem d2_15 : decode prog_32_method_6_code 15 = .ok (.istore 4, 2) := by decide +kernel
theorem d2_17 : decode prog_32_method_6_code 17 = .ok (.iload 4, 2) := by decide +kernel
theorem d2_19 : decode prog_32_method_6_code 19 = .ok (.ifCond .lt 28, 3) := by decide +kernel
theorem d2_22 : decode prog_32_method_6_code 22 = .ok (.aload_n 0, 1) := by decide +kernel
theorem d2_23 : decode prog_32_method_6_code 23 = .ok (.iload 4, 2) := by decide +kernel
theorem d2_25 : decode prog_32_method_6_code 25 = .ok (.laload, 1) := by decide +kernel
theorem d2_26 : decode prog_32_method_6_code 26 = .ok (.lload_n 2, 1) := by decide +kernel
theorem d2_27 : decode prog_32_method_6_code 27 = .ok (.lcmp, 1) := by decide +kernel
theorem d2_28 : decode prog_32_method_6_code 28 = .ok (.ifCond .ge 19, 3) := by decide +kernel
theorem d2_31 : decode prog_32_method_6_code 31 = .ok (.aload_n 0, 1) := by decide +kernel
theorem d2_32 : decode prog_32_method_6_code 32 = .ok (.iload 4, 2) := by decide +kernel
theorem d2_34 : decode prog_32_method_6_code 34 = .ok (.iconst 1, 1) := by decide +kernel
theorem d2_35 : decode prog_32_method_6_code 35 = .ok (.iadd, 1) := by decide +kernel
theorem d2_36 : decode prog_32_method_6_code 36 = .ok (.aload_n 0, 1) := by decide +kernel
theorem d2_37 : decode prog_32_method_6_code 37 = .ok (.iload 4, 2) := by decide +kernel
theorem d2_39 : decode prog_32_method_6_code 39 = .ok (.laload, 1) := by decide +kernel
theorem d2_40 : decode prog_32_method_6_code 40 = .ok (.lastore, 1) := by decide +kernel
theorem d2_41 : decode prog_32_method_6_code 41 = .ok (.iinc 4 (-1), 3) := by decide +kernel
theorem d2_44 : decode prog_32_method_6_code 44 = .ok (.goto (-27), 3) := by decide +kernel
theorem d2_47 : decode prog_32_method_6_code 47 = .ok (.aload_n 0, 1) := by decide +kernel
theorem d2_48 : decode prog_32_method_6_code 48 = .ok (.iload 4, 2) := by decide +kernel
theorem d2_50 : decode prog_32_method_6_code 50 = .ok (.iconst 1, 1) := by decide +kernel
theorem d2_51 : decode prog_32_method_6_code 51 = .ok (.iadd, 1) := by decide +kernel
theorem d2_52 : decode prog_32_method_6_code 52 = .ok (.lload_n 2, 1) := by decide +kernel
theorem d2_53 : decode prog_32_method_6_code 53 = .ok (.lastore, 1) := by decide +kernel
theorem d2_54 : decode prog_32_method_6_code 54 = .ok (.iinc 1 1, 3) := by decide +kernel
theorem d2_57 : decode prog_32_method_6_code 57 = .ok (.goto (-55), 3) := by decide +kernel
theorem d2_60 : decode prog_32_method_6_code 60 = .ok (.return_, 1) := by decide +kernel
theorem d3_0 : decode method_4_code 0 = .ok (.iload_n 2, 1) := by decide +kernel
theorem d3_1 : decode method_4_code 1 = .ok (.aload_n 0, 1) := by decide +kernel
theorem d3_2 : decode method_4_code 2 = .ok (.arraylength, 1) := by decide +kernel
theorem d3_3 : decode method_4_code 3 = .ok (.if_icmp .ge 13, 3) := by decide +kernel
theorem d3_6 : decode method_4_code 6 = .ok (.aload_n 0, 1) := by decide +kernel
theorem d3_7 : decode method_4_code 7 = .ok (.iload_n 2, 1) := by decide +kernel
theorem d3_8 : decode method_4_code 8 = .ok (.laload, 1) := by decide +kernel
theorem d3_9 : decode method_4_code 9 = .ok (.aload_n 1, 1) := by decide +kernel
theorem d3_10 : decode method_4_code 10 = .ok (.iload_n 2, 1) := by decide +kernel
theorem d3_11 : decode method_4_code 11 = .ok (.laload, 1) := by decide +kernel
theorem d3_12 : decode method_4_code 12 = .ok (.lcmp, 1) := by decide +kernel
theorem d3_13 : decode method_4_code 13 = .ok (.ifCond .ne 7, 3) := by decide +kernel
theorem d3_16 : decode method_4_code 16 = .ok (.iconst 1, 1) := by decide +kernel
theorem d3_17 : decode method_4_code 17 = .ok (.goto 4, 3) := by decide +kernel
theorem d3_21 : decode method_4_code 21 = .ok (.ireturn, 1) := by decide +kernel
theorem pd_0 : parseMethodDescriptor "([JII)V" = some ⟨[(.array .long), .int, .int], none⟩ := by decide +kernel
theorem pd_1 : parseMethodDescriptor "([J)V" = some ⟨[(.array .long)], none⟩ := by decide +kernel
theorem pd_2 : parseMethodDescriptor "([J[JI)Z" = some ⟨[(.array .long), (.array .long), .int], some .boolean⟩ := by decide +kernel
def ownT (a b c d : Int64) : Nat → Int64
  | 0 => a
  | 1 => b
  | 2 => c
  | _ => d
def ownCx (f : Nat → Int64) (i j : Nat) : Nat → Int64 := if f i < f j then ownUpd (ownUpd f i (f j)) j (f i) else f
def ownIns (x : Int64) : Nat → (Nat → Int64) → Nat → Int64
  | 0, f => ownUpd f 0 x
  | k + 1, f => if f k < x then ownIns x k (ownUpd f (k + 1) (f k)) else ownUpd f (k + 1) x
def ownOuter (f : Nat → Int64) : Nat → Nat → Nat → Int64
  | 0, _ => f
  | c + 1, i => ownOuter (ownIns (f i) i f) c (i + 1)
def ownR (x y u v : Int64) : Prop := (x.toInt < y.toInt ∧ u.toInt = y.toInt ∧ v.toInt = x.toInt) ∨ (¬ x.toInt < y.toInt ∧ u.toInt = x.toInt ∧ v.toInt = y.toInt)
theorem own_pair (x y : Int64) : ∃ u v, ownR x y u v ∧ (if x < y then y else x) = u ∧ (if x < y then x else y) = v := by
  by_cases q : x < y
  · exact ⟨y, x, Or.inl ⟨Int64.lt_iff_toInt_lt.mp q, rfl, rfl⟩, by simp [q], by simp [q]⟩
  · exact ⟨x, y, Or.inr ⟨fun r => q (Int64.lt_iff_toInt_lt.mpr r), rfl, rfl⟩, by simp [q], by simp [q]⟩
theorem own_rem75 (x : Int32) : ((x &&& (7 : Int32)) % (5 : Int32)) = 0 ∨ ((x &&& (7 : Int32)) % (5 : Int32)) = 1 ∨ ((x &&& (7 : Int32)) % (5 : Int32)) = 2 ∨ ((x &&& (7 : Int32)) % (5 : Int32)) = 3 ∨ ((x &&& (7 : Int32)) % (5 : Int32)) = 4 := by
  have h1 : (x &&& (7 : Int32)).toInt = x.toInt % 2 ^ 3 := Jvm.Kit.i32_mask x 7 (k := 3) (by decide) (by decide)
  have h2 : ((x &&& (7 : Int32)) % (5 : Int32)).toInt = (x &&& (7 : Int32)).toInt.tmod 5 := Int32.toInt_mod _ _
  have h3 : 0 ≤ (x &&& (7 : Int32)).toInt := by rw [h1]; omega
  rw [Int.tmod_eq_emod_of_nonneg h3] at h2
  have h4 : ((x &&& (7 : Int32)) % (5 : Int32)).toInt = 0 ∨ ((x &&& (7 : Int32)) % (5 : Int32)).toInt = 1 ∨ ((x &&& (7 : Int32)) % (5 : Int32)).toInt = 2 ∨ ((x &&& (7 : Int32)) % (5 : Int32)).toInt = 3 ∨ ((x &&& (7 : Int32)) % (5 : Int32)).toInt = 4 := by omega
  rcases h4 with h | h | h | h | h
  · exact Or.inl (Int32.toInt_inj.mp h)
  · exact Or.inr (Or.inl (Int32.toInt_inj.mp h))
  · exact Or.inr (Or.inr (Or.inl (Int32.toInt_inj.mp h)))
  · exact Or.inr (Or.inr (Or.inr (Or.inl (Int32.toInt_inj.mp h))))
  · exact Or.inr (Or.inr (Or.inr (Or.inr (Int32.toInt_inj.mp h))))
theorem own_net {a b c d p0 p1 p2 p3 q0 q1 q2 q3 r1 r2 : Int64} (h1 : ownR a b p0 p1) (h2 : ownR c d p2 p3) (h3 : ownR p0 p2 q0 q2) (h4 : ownR p1 p3 q1 q3) (h5 : ownR q1 q2 r1 r2) :
    (a.toInt ≤ q0.toInt ∧ b.toInt ≤ q0.toInt ∧ c.toInt ≤ q0.toInt ∧ d.toInt ≤ q0.toInt) ∧ r1.toInt ≤ q0.toInt ∧ r2.toInt ≤ r1.toInt ∧ q3.toInt ≤ r2.toInt := by
  unfold ownR at h1 h2 h3 h4 h5; omega
theorem own_law4 {a b c d p0 p1 p2 p3 q0 q1 q2 q3 r1 r2 : Int64} (h1 : ownR a b p0 p1) (h2 : ownR c d p2 p3) (h3 : ownR p0 p2 q0 q2) (h4 : ownR p1 p3 q1 q3) (h5 : ownR q1 q2 r1 r2) :
    ownOuter (ownT a b c d) 3 1 0 = q0 ∧ ownOuter (ownT a b c d) 3 1 1 = r1 ∧ ownOuter (ownT a b c d) 3 1 2 = r2 ∧ ownOuter (ownT a b c d) 3 1 3 = q3 := by
  unfold ownR at h1 h2 h3 h4 h5
  by_cases h01 : a < b <;> by_cases h02 : a < c <;> by_cases h12 : b < c <;> by_cases h03 : a < d <;> by_cases h13 : b < d <;> by_cases h23 : c < d <;>
    simp [ownOuter, ownIns, ownUpd, ownT, h01, h02, h12, h03, h13, h23] <;>
    simp only [Int64.lt_iff_toInt_lt] at h01 h02 h12 h03 h13 h23 <;>
    first
      | (exfalso; omega)
      | (refine ⟨Int64.toInt_inj.mp ?_, Int64.toInt_inj.mp ?_, Int64.toInt_inj.mp ?_, Int64.toInt_inj.mp ?_⟩ <;> omega)
theorem own_min (x : Int64) : (-9223372036854775808 : Int64).toInt ≤ x.toInt := Int64.le_toInt x
theorem own_law3 {a b c d p0 p1 p2 p3 q0 q1 q2 q3 r1 r2 : Int64} (hd : d = -9223372036854775808) (h1 : ownR a b p0 p1) (h2 : ownR c d p2 p3) (h3 : ownR p0 p2 q0 q2) (h4 : ownR p1 p3 q1 q3) (h5 : ownR q1 q2 r1 r2) (e : Int64) :
    ownOuter (ownT a b c e) 2 1 0 = q0 ∧ ownOuter (ownT a b c e) 2 1 1 = r1 ∧ ownOuter (ownT a b c e) 2 1 2 = r2 := by
  unfold ownR at h1 h2 h3 h4 h5
  have m1 := own_min a; have m2 := own_min b; have m3 := own_min c; rw [← hd] at m1 m2 m3
  by_cases h01 : a < b <;> by_cases h02 : a < c <;> by_cases h12 : b < c <;>
    simp [ownOuter, ownIns, ownUpd, ownT, h01, h02, h12] <;>
    simp only [Int64.lt_iff_toInt_lt] at h01 h02 h12 <;>
    first
      | (exfalso; omega)
      | (refine ⟨Int64.toInt_inj.mp ?_, Int64.toInt_inj.mp ?_, Int64.toInt_inj.mp ?_⟩ <;> omega)
theorem own_law2 {a b c d p0 p1 p2 p3 q0 q1 q2 q3 r1 r2 : Int64} (hc : c = -9223372036854775808) (hd : d = -9223372036854775808) (h1 : ownR a b p0 p1) (h2 : ownR c d p2 p3) (h3 : ownR p0 p2 q0 q2) (h4 : ownR p1 p3 q1 q3) (h5 : ownR q1 q2 r1 r2) (e f : Int64) :
    ownOuter (ownT a b e f) 1 1 0 = q0 ∧ ownOuter (ownT a b e f) 1 1 1 = r1 := by
  unfold ownR at h1 h2 h3 h4 h5
  have m1 := own_min a; have m2 := own_min b; rw [← hd] at m1 m2; subst hc; subst hd
  by_cases h01 : a < b <;>
    simp [ownOuter, ownIns, ownUpd, ownT, h01] <;>
    simp only [Int64.lt_iff_toInt_lt] at h01 <;>
    (refine ⟨Int64.toInt_inj.mp ?_, Int64.toInt_inj.mp ?_⟩ <;> omega)
theorem own_law1 {a b c d p0 p1 p2 p3 q0 q1 q2 q3 r1 r2 : Int64} (hb : b = -9223372036854775808) (hc : c = -9223372036854775808) (hd : d = -9223372036854775808) (h1 : ownR a b p0 p1) (h2 : ownR c d p2 p3) (h3 : ownR p0 p2 q0 q2) (h4 : ownR p1 p3 q1 q3) (h5 : ownR q1 q2 r1 r2) (e f g : Int64) :
    ownOuter (ownT a e f g) 0 1 0 = q0 := by
  unfold ownR at h1 h2 h3 h4 h5
  have m1 := own_min a; rw [← hd] at m1; subst hb; subst hc; subst hd
  simp [ownOuter, ownT]
  apply Int64.toInt_inj.mp; omega
theorem pn_rmCx : plainFor (⟨"org/matchwright/InstantiationSortNewestFirstPinLaw", "cx", "([JII)V"⟩ : MethodName) = true := plainFor_of_name (by first | (simp [plainName, overriddenIn]; done) | decide +kernel)
theorem ef_rmCx (m : MethodId) (a1 : Addr) (p2 : Int32) (p3 : Int32) : entryFrame m #[(.ref a1), (.int p2), (.int p3)] 5 = mkF m 0 #[.val (.ref a1), .val (.int p2), .val (.int p3), .unset, .unset] [] := by first | (simp [entryFrame, mkF, argsToLocals, Value.category]; done) | rfl
set_option maxRecDepth 65536 in
set_option maxHeartbeats 40000000 in
theorem rmCx (l : Launch) (Z : State) (a0 : Array Value) (hw : ∀ d ∈ tables_1, d.before a0 Z = true) (a1 : Addr) (p2 p3 : Int32) (f : Nat → Int64) (I J : Nat) (h0 : Heap) (n0 : Nat) (Z0 : n0 ≤ h0.size) (A1 : ownArr Z h0 a1 .long 4 (fun j => .long (f j))) (hI : I < 4) (hJ : J < 4) (e2 : p2 = Int32.ofNat I) (e3 : p3 = Int32.ofNat J) (fr : n0 ≤ a1) :
    ownMet l [] (⟨"org/matchwright/InstantiationSortNewestFirstPinLaw", "cx", "([JII)V"⟩ : MethodName) method_3_code 5 none ({ frames := 0, cells := 0, slots := 0, locals := 0 } : Room) Z n0 #[(.ref a1), (.int p2), (.int p3)] h0 (fun v h => v = none ∧ Keep h0 h [a1] ∧ ownArr Z h a1 .long 4 (fun j => .long (ownCx f I J j))) := by
  refine own_body (own := "org/matchwright/InstantiationSortNewestFirstPinLaw") (nm := "cx") pn_rmCx (fun m => ef_rmCx m a1 p2 p3) rfl rfl ?_
  intro p e s m below meth c T0 G0
  show ownGo _ _ _ _ _ _ _ T0 0 #[.val (.ref a1), .val (.int p2), .val (.int p3), .unset, .unset] []
  subst e2 e3
  show ownGo _ _ _ _ _ _ _ T0 0 #[.val (.ref a1), .val (.int (Int32.ofNat I)), .val (.int (Int32.ofNat J)), .unset, .unset] []
  refine own_aloadN G0 d1_0 rfl rfl ?_
  show ownGo _ _ _ _ _ _ _ T0 1 #[.val (.ref a1), .val (.int (Int32.ofNat I)), .val (.int (Int32.ofNat J)), .unset, .unset] [(.ref a1)]
  refine own_iloadN G0 d1_1 rfl ?_
  show ownGo _ _ _ _ _ _ _ T0 2 #[.val (.ref a1), .val (.int (Int32.ofNat I)), .val (.int (Int32.ofNat J)), .unset, .unset] [(.int (Int32.ofNat I)), (.ref a1)]
  refine own_laload G0 d1_2 (v := (.long (f I))) A1  (own_ixN hI (by decide)) rfl ?_
  show ownGo _ _ _ _ _ _ _ T0 3 #[.val (.ref a1), .val (.int (Int32.ofNat I)), .val (.int (Int32.ofNat J)), .unset, .unset] [(.long (f I))]
  refine own_aloadN G0 d1_3 rfl rfl ?_
  show ownGo _ _ _ _ _ _ _ T0 4 #[.val (.ref a1), .val (.int (Int32.ofNat I)), .val (.int (Int32.ofNat J)), .unset, .unset] [(.ref a1), (.long (f I))]
  refine own_iloadN G0 d1_4 rfl ?_
  show ownGo _ _ _ _ _ _ _ T0 5 #[.val (.ref a1), .val (.int (Int32.ofNat I)), .val (.int (Int32.ofNat J)), .unset, .unset] [(.int (Int32.ofNat J)), (.ref a1), (.long (f I))]
  refine own_laload G0 d1_5 (v := (.long (f J))) A1  (own_ixN hJ (by decide)) rfl ?_
  show ownGo _ _ _ _ _ _ _ T0 6 #[.val (.ref a1), .val (.int (Int32.ofNat I)), .val (.int (Int32.ofNat J)), .unset, .unset] [(.long (f J)), (.long (f I))]
  refine own_lcif_ge G0 d1_6 d1_7 (pc' := 24) (by decide) (by decide) (fun hc => ?_) (fun hc => ?_)
  · show ownGo _ _ _ _ _ _ _ T0 24 #[.val (.ref a1), .val (.int (Int32.ofNat I)), .val (.int (Int32.ofNat J)), .unset, .unset] []
    exact own_ret G0 d1_24 rfl (by decide) (by decide) ⟨rfl, Keep.refl _ _, A1.congr fun j _ => by simp only [ownCx, if_neg hc]⟩
  · show ownGo _ _ _ _ _ _ _ T0 10 #[.val (.ref a1), .val (.int (Int32.ofNat I)), .val (.int (Int32.ofNat J)), .unset, .unset] []
    refine own_aloadN G0 d1_10 rfl rfl ?_
    show ownGo _ _ _ _ _ _ _ T0 11 #[.val (.ref a1), .val (.int (Int32.ofNat I)), .val (.int (Int32.ofNat J)), .unset, .unset] [(.ref a1)]
    refine own_iloadN G0 d1_11 rfl ?_
    show ownGo _ _ _ _ _ _ _ T0 12 #[.val (.ref a1), .val (.int (Int32.ofNat I)), .val (.int (Int32.ofNat J)), .unset, .unset] [(.int (Int32.ofNat I)), (.ref a1)]
    refine own_laload G0 d1_12 (v := (.long (f I))) A1  (own_ixN hI (by decide)) rfl ?_
    show ownGo _ _ _ _ _ _ _ T0 13 #[.val (.ref a1), .val (.int (Int32.ofNat I)), .val (.int (Int32.ofNat J)), .unset, .unset] [(.long (f I))]
    refine own_lstoreN G0 d1_13 (L' := #[.val (.ref a1), .val (.int (Int32.ofNat I)), .val (.int (Int32.ofNat J)), .val (.long (f I)), .second]) rfl ?_
    show ownGo _ _ _ _ _ _ _ T0 14 #[.val (.ref a1), .val (.int (Int32.ofNat I)), .val (.int (Int32.ofNat J)), .val (.long (f I)), .second] []
    refine own_aloadN G0 d1_14 rfl rfl ?_
    show ownGo _ _ _ _ _ _ _ T0 15 #[.val (.ref a1), .val (.int (Int32.ofNat I)), .val (.int (Int32.ofNat J)), .val (.long (f I)), .second] [(.ref a1)]
    refine own_iloadN G0 d1_15 rfl ?_
    show ownGo _ _ _ _ _ _ _ T0 16 #[.val (.ref a1), .val (.int (Int32.ofNat I)), .val (.int (Int32.ofNat J)), .val (.long (f I)), .second] [(.int (Int32.ofNat I)), (.ref a1)]
    refine own_aloadN G0 d1_16 rfl rfl ?_
    show ownGo _ _ _ _ _ _ _ T0 17 #[.val (.ref a1), .val (.int (Int32.ofNat I)), .val (.int (Int32.ofNat J)), .val (.long (f I)), .second] [(.ref a1), (.int (Int32.ofNat I)), (.ref a1)]
    refine own_iloadN G0 d1_17 rfl ?_
    show ownGo _ _ _ _ _ _ _ T0 18 #[.val (.ref a1), .val (.int (Int32.ofNat I)), .val (.int (Int32.ofNat J)), .val (.long (f I)), .second] [(.int (Int32.ofNat J)), (.ref a1), (.int (Int32.ofNat I)), (.ref a1)]
    refine own_laload G0 d1_18 (v := (.long (f J))) A1  (own_ixN hJ (by decide)) rfl ?_
    show ownGo _ _ _ _ _ _ _ T0 19 #[.val (.ref a1), .val (.int (Int32.ofNat I)), .val (.int (Int32.ofNat J)), .val (.long (f I)), .second] [(.long (f J)), (.int (Int32.ofNat I)), (.ref a1)]
    refine own_lastore G0 d1_19 A1  (own_ixN hI (by decide)) fr ?_
    intro T1 h1 W1 G1
    show ownGo _ _ _ _ _ _ _ T1 20 #[.val (.ref a1), .val (.int (Int32.ofNat I)), .val (.int (Int32.ofNat J)), .val (.long (f I)), .second] []
    refine own_aloadN G1 d1_20 rfl rfl ?_
    show ownGo _ _ _ _ _ _ _ T1 21 #[.val (.ref a1), .val (.int (Int32.ofNat I)), .val (.int (Int32.ofNat J)), .val (.long (f I)), .second] [(.ref a1)]
    refine own_iloadN G1 d1_21 rfl ?_
    show ownGo _ _ _ _ _ _ _ T1 22 #[.val (.ref a1), .val (.int (Int32.ofNat I)), .val (.int (Int32.ofNat J)), .val (.long (f I)), .second] [(.int (Int32.ofNat J)), (.ref a1)]
    refine own_lloadN G1 d1_22 rfl ?_
    show ownGo _ _ _ _ _ _ _ T1 23 #[.val (.ref a1), .val (.int (Int32.ofNat I)), .val (.int (Int32.ofNat J)), .val (.long (f I)), .second] [(.long (f I)), (.int (Int32.ofNat J)), (.ref a1)]
    refine own_lastore G1 d1_23 (A1.setL W1)  (own_ixN hJ (by decide)) fr ?_
    intro T2 h2 W2 G2
    show ownGo _ _ _ _ _ _ _ T2 24 #[.val (.ref a1), .val (.int (Int32.ofNat I)), .val (.int (Int32.ofNat J)), .val (.long (f I)), .second] []
    exact own_ret G2 d1_24 rfl (by decide) (by decide) ⟨rfl, ((Keep.refl _ _).wr W1 (Or.inl (List.mem_singleton.mpr rfl))).wr W2 (Or.inl (List.mem_singleton.mpr rfl)), ((A1.setL W1).setL W2).congr fun j _ => by simp only [ownCx, if_pos hc]⟩
theorem pn_rmSame : plainFor (⟨"org/matchwright/InstantiationSortNewestFirstPinLaw", "same", "([J[JI)Z"⟩ : MethodName) = true := plainFor_of_name (by first | (simp [plainName, overriddenIn]; done) | decide +kernel)
theorem ef_rmSame (m : MethodId) (a1 : Addr) (a2 : Addr) (p3 : Int32) : entryFrame m #[(.ref a1), (.ref a2), (.int p3)] 3 = mkF m 0 #[.val (.ref a1), .val (.ref a2), .val (.int p3)] [] := by first | (simp [entryFrame, mkF, argsToLocals, Value.category]; done) | rfl
set_option maxRecDepth 65536 in
set_option maxHeartbeats 40000000 in
theorem rmSame (l : Launch) (Z : State) (a0 : Array Value) (hw : ∀ d ∈ tables_1, d.before a0 Z = true) (a1 a2 : Addr) (p3 : Int32) (f g : Nat → Int64) (n I : Nat) (h0 : Heap) (n0 : Nat) (Z0 : n0 ≤ h0.size) (A1 : ownArr Z h0 a1 .long n (fun j => .long (f j))) (A2 : ownArr Z h0 a2 .long 4 (fun j => .long (g j))) (hn : n ≤ 4) (hI : I < 4) (e3 : p3 = Int32.ofNat I) (hs : I < n → f I = g I) :
    ownMet l [] (⟨"org/matchwright/InstantiationSortNewestFirstPinLaw", "same", "([J[JI)Z"⟩ : MethodName) method_4_code 3 (some .boolean) ({ frames := 0, cells := 0, slots := 0, locals := 0 } : Room) Z n0 #[(.ref a1), (.ref a2), (.int p3)] h0 (fun v h => v = some (.int 1) ∧ h0 = h) := by
  refine own_body (own := "org/matchwright/InstantiationSortNewestFirstPinLaw") (nm := "same") pn_rmSame (fun m => ef_rmSame m a1 a2 p3) rfl rfl ?_
  intro p e s m below meth c T0 G0
  show ownGo _ _ _ _ _ _ _ T0 0 #[.val (.ref a1), .val (.ref a2), .val (.int p3)] []
  subst e3
  show ownGo _ _ _ _ _ _ _ T0 0 #[.val (.ref a1), .val (.ref a2), .val (.int (Int32.ofNat I))] []
  refine own_iloadN G0 d3_0 rfl ?_
  show ownGo _ _ _ _ _ _ _ T0 1 #[.val (.ref a1), .val (.ref a2), .val (.int (Int32.ofNat I))] [(.int (Int32.ofNat I))]
  refine own_aloadN G0 d3_1 rfl rfl ?_
  show ownGo _ _ _ _ _ _ _ T0 2 #[.val (.ref a1), .val (.ref a2), .val (.int (Int32.ofNat I))] [(.ref a1), (.int (Int32.ofNat I))]
  refine own_arraylength G0 d3_2 A1 ?_
  show ownGo _ _ _ _ _ _ _ T0 3 #[.val (.ref a1), .val (.ref a2), .val (.int (Int32.ofNat I))] [(.int (Int32.ofNat n)), (.int (Int32.ofNat I))]
  refine own_icmp_ge G0 d3_3 (pc' := 16) (by decide) (by decide) (fun hc => ?_) (fun hc => ?_)
  · show ownGo _ _ _ _ _ _ _ T0 16 #[.val (.ref a1), .val (.ref a2), .val (.int (Int32.ofNat I))] []
    refine own_iconst G0 d3_16 ?_
    show ownGo _ _ _ _ _ _ _ T0 17 #[.val (.ref a1), .val (.ref a2), .val (.int (Int32.ofNat I))] [(.int (1 : Int32))]
    refine own_goto G0 d3_17 (pc' := 21) (by decide) (by decide) ?_
    show ownGo _ _ _ _ _ _ _ T0 21 #[.val (.ref a1), .val (.ref a2), .val (.int (Int32.ofNat I))] [(.int (1 : Int32))]
    exact own_zreturn G0 d3_21 rfl (by decide) (by decide) ⟨rfl, rfl⟩
  · show ownGo _ _ _ _ _ _ _ T0 6 #[.val (.ref a1), .val (.ref a2), .val (.int (Int32.ofNat I))] []
    have hI' : I < n := (own_ltN (by omega) (by omega)).mp hc
    refine own_aloadN G0 d3_6 rfl rfl ?_
    show ownGo _ _ _ _ _ _ _ T0 7 #[.val (.ref a1), .val (.ref a2), .val (.int (Int32.ofNat I))] [(.ref a1)]
    refine own_iloadN G0 d3_7 rfl ?_
    show ownGo _ _ _ _ _ _ _ T0 8 #[.val (.ref a1), .val (.ref a2), .val (.int (Int32.ofNat I))] [(.int (Int32.ofNat I)), (.ref a1)]
    refine own_laload G0 d3_8 (v := (.long (f I))) A1  (own_ixN hI' (by omega)) rfl ?_
    show ownGo _ _ _ _ _ _ _ T0 9 #[.val (.ref a1), .val (.ref a2), .val (.int (Int32.ofNat I))] [(.long (f I))]
    refine own_aloadN G0 d3_9 rfl rfl ?_
    show ownGo _ _ _ _ _ _ _ T0 10 #[.val (.ref a1), .val (.ref a2), .val (.int (Int32.ofNat I))] [(.ref a2), (.long (f I))]
    refine own_iloadN G0 d3_10 rfl ?_
    show ownGo _ _ _ _ _ _ _ T0 11 #[.val (.ref a1), .val (.ref a2), .val (.int (Int32.ofNat I))] [(.int (Int32.ofNat I)), (.ref a2), (.long (f I))]
    refine own_laload G0 d3_11 (v := (.long (g I))) A2  (own_ixN hI (by decide)) rfl ?_
    show ownGo _ _ _ _ _ _ _ T0 12 #[.val (.ref a1), .val (.ref a2), .val (.int (Int32.ofNat I))] [(.long (g I)), (.long (f I))]
    refine own_lcif_ne G0 d3_12 d3_13 (pc' := 20) (by decide) (by decide) (fun hc => False.elim (hc (hs hI'))) (fun hc => ?_)
    show ownGo _ _ _ _ _ _ _ T0 16 #[.val (.ref a1), .val (.ref a2), .val (.int (Int32.ofNat I))] []
    refine own_iconst G0 d3_16 ?_
    show ownGo _ _ _ _ _ _ _ T0 17 #[.val (.ref a1), .val (.ref a2), .val (.int (Int32.ofNat I))] [(.int (1 : Int32))]
    refine own_goto G0 d3_17 (pc' := 21) (by decide) (by decide) ?_
    show ownGo _ _ _ _ _ _ _ T0 21 #[.val (.ref a1), .val (.ref a2), .val (.int (Int32.ofNat I))] [(.int (1 : Int32))]
    exact own_zreturn G0 d3_21 rfl (by decide) (by decide) ⟨rfl, rfl⟩
theorem pn_rmSort : plainFor (⟨"org/matchwright/Instantiation", "sortNewestFirst", "([J)V"⟩ : MethodName) = true := plainFor_of_name (by first | (simp [plainName, overriddenIn]; done) | decide +kernel)
theorem ef_rmSort (m : MethodId) (a1 : Addr) : entryFrame m #[(.ref a1)] 5 = mkF m 0 #[.val (.ref a1), .unset, .unset, .unset, .unset] [] := by first | (simp [entryFrame, mkF, argsToLocals, Value.category]; done) | rfl
set_option maxRecDepth 65536 in
set_option maxHeartbeats 40000000 in
theorem rmSort (l : Launch) (Z : State) (a0 : Array Value) (hw : ∀ d ∈ tables_1, d.before a0 Z = true) (a1 : Addr) (f0 : Nat → Int64) (n : Nat) (h0 : Heap) (n0 : Nat) (Z0 : n0 ≤ h0.size) (A0 : ownArr Z h0 a1 .long n (fun j => .long (f0 j))) (hn : n ≤ 4) (fr : n0 ≤ a1) :
    ownMet l [] (⟨"org/matchwright/Instantiation", "sortNewestFirst", "([J)V"⟩ : MethodName) prog_32_method_6_code 5 none ({ frames := 0, cells := 0, slots := 0, locals := 0 } : Room) Z n0 #[(.ref a1)] h0 (fun v h => v = none ∧ Keep h0 h [a1] ∧ ownArr Z h a1 .long n (fun j => .long (ownOuter f0 (n - 1) 1 j))) := by
  refine own_body (own := "org/matchwright/Instantiation") (nm := "sortNewestFirst") pn_rmSort (fun m => ef_rmSort m a1) rfl rfl ?_
  intro p e s m below meth c T0 G0
  show ownGo _ _ _ _ _ _ _ T0 0 #[.val (.ref a1), .unset, .unset, .unset, .unset] []
  have inn : ∀ cc I, I < n → (∀ (f : Nat → Int64) (key : Int64) (jj : Int32), ∀ (T : State) (h : Heap), ownSt p l e ({ frames := 0, cells := 0, slots := 0, locals := 0 } : Room) s m #[(.ref a1)] below meth c Z n0 "org/matchwright/Instantiation" prog_32_method_6_code 5 none "sortNewestFirst" T h 0 0 → ownArr Z h a1 .long n (fun j => .long (f j)) → Keep h0 h [a1] → ownGo p e m below n0 (ownEnd s ({ frames := 0, cells := 0, slots := 0, locals := 0 } : Room)) (fun v h => v = none ∧ Keep h0 h [a1] ∧ ownArr Z h a1 .long n (fun j => .long (ownOuter f cc (I + 1) j))) T 2 #[.val (.ref a1), .val (.int (Int32.ofNat (I + 1))), .val (.long key), .second, .val (.int jj)] []) → ∀ (x : Int64) (k : Nat) (f : Nat → Int64), k ≤ I → ∀ (T : State) (h : Heap), ownSt p l e ({ frames := 0, cells := 0, slots := 0, locals := 0 } : Room) s m #[(.ref a1)] below meth c Z n0 "org/matchwright/Instantiation" prog_32_method_6_code 5 none "sortNewestFirst" T h 0 0 → ownArr Z h a1 .long n (fun j => .long (f j)) → Keep h0 h [a1] → ownGo p e m below n0 (ownEnd s ({ frames := 0, cells := 0, slots := 0, locals := 0 } : Room)) (fun v h => v = none ∧ Keep h0 h [a1] ∧ ownArr Z h a1 .long n (fun j => .long (ownOuter (ownIns x k f) cc (I + 1) j))) T 17 #[.val (.ref a1), .val (.int (Int32.ofNat I)), .val (.long x), .second, .val (.int (Int32.ofNat k - 1))] [] := by
    intro cc I hI ih x k
    induction k with
    | zero =>
      intro f hk T h G A K
      show ownGo _ _ _ _ _ _ _ T 17 #[.val (.ref a1), .val (.int (Int32.ofNat I)), .val (.long x), .second, .val (.int (Int32.ofNat 0 - 1))] []
      refine own_iload G d2_17 rfl ?_
      show ownGo _ _ _ _ _ _ _ T 19 #[.val (.ref a1), .val (.int (Int32.ofNat I)), .val (.long x), .second, .val (.int (Int32.ofNat 0 - 1))] [(.int (Int32.ofNat 0 - 1))]
      refine own_if_lt G d2_19 (pc' := 47) (by decide) (by decide) (fun hc => ?_) (fun hc => False.elim (hc (by decide)))
      show ownGo _ _ _ _ _ _ _ T 47 #[.val (.ref a1), .val (.int (Int32.ofNat I)), .val (.long x), .second, .val (.int (Int32.ofNat 0 - 1))] []
      refine own_aloadN G d2_47 rfl rfl ?_
      show ownGo _ _ _ _ _ _ _ T 48 #[.val (.ref a1), .val (.int (Int32.ofNat I)), .val (.long x), .second, .val (.int (Int32.ofNat 0 - 1))] [(.ref a1)]
      refine own_iload G d2_48 rfl ?_
      show ownGo _ _ _ _ _ _ _ T 50 #[.val (.ref a1), .val (.int (Int32.ofNat I)), .val (.long x), .second, .val (.int (Int32.ofNat 0 - 1))] [(.int (Int32.ofNat 0 - 1)), (.ref a1)]
      refine own_iconst G d2_50 ?_
      show ownGo _ _ _ _ _ _ _ T 51 #[.val (.ref a1), .val (.int (Int32.ofNat I)), .val (.long x), .second, .val (.int (Int32.ofNat 0 - 1))] [(.int (1 : Int32)), (.int (Int32.ofNat 0 - 1)), (.ref a1)]
      refine own_iadd G d2_51 ?_
      show ownGo _ _ _ _ _ _ _ T 52 #[.val (.ref a1), .val (.int (Int32.ofNat I)), .val (.long x), .second, .val (.int (Int32.ofNat 0 - 1))] [(.int ((Int32.ofNat 0 - 1) + (1 : Int32))), (.ref a1)]
      refine own_lloadN G d2_52 rfl ?_
      show ownGo _ _ _ _ _ _ _ T 53 #[.val (.ref a1), .val (.int (Int32.ofNat I)), .val (.long x), .second, .val (.int (Int32.ofNat 0 - 1))] [(.long x), (.int ((Int32.ofNat 0 - 1) + (1 : Int32))), (.ref a1)]
      refine own_lastore G d2_53 A (i := 0) ⟨by decide, by decide, by omega⟩ fr ?_
      intro T3 h3 W3 G3
      show ownGo _ _ _ _ _ _ _ T3 54 #[.val (.ref a1), .val (.int (Int32.ofNat I)), .val (.long x), .second, .val (.int (Int32.ofNat 0 - 1))] []
      refine own_iinc G3 d2_54 (L' := #[.val (.ref a1), .val (.int ((Int32.ofNat I) + (1 : Int32))), .val (.long x), .second, .val (.int (Int32.ofNat 0 - 1))]) rfl rfl ?_
      show ownGo _ _ _ _ _ _ _ T3 57 #[.val (.ref a1), .val (.int ((Int32.ofNat I) + (1 : Int32))), .val (.long x), .second, .val (.int (Int32.ofNat 0 - 1))] []
      refine own_goto G3 d2_57 (pc' := 2) (by decide) (by decide) ?_
      show ownGo _ _ _ _ _ _ _ T3 2 #[.val (.ref a1), .val (.int ((Int32.ofNat I) + (1 : Int32))), .val (.long x), .second, .val (.int (Int32.ofNat 0 - 1))] []
      rw [own_succN]
      exact ih _ _ _ _ _ G3 (A.setL W3) (K.wr W3 (Or.inl (List.mem_singleton.mpr rfl)))
    | succ k ihk =>
      intro f hk T h G A K
      rw [own_predN]
      show ownGo _ _ _ _ _ _ _ T 17 #[.val (.ref a1), .val (.int (Int32.ofNat I)), .val (.long x), .second, .val (.int (Int32.ofNat k))] []
      refine own_iload G d2_17 rfl ?_
      show ownGo _ _ _ _ _ _ _ T 19 #[.val (.ref a1), .val (.int (Int32.ofNat I)), .val (.long x), .second, .val (.int (Int32.ofNat k))] [(.int (Int32.ofNat k))]
      refine own_if_lt G d2_19 (pc' := 47) (by decide) (by decide) (fun hc => False.elim (own_nonneg (by omega) hc)) (fun hc => ?_)
      show ownGo _ _ _ _ _ _ _ T 22 #[.val (.ref a1), .val (.int (Int32.ofNat I)), .val (.long x), .second, .val (.int (Int32.ofNat k))] []
      refine own_aloadN G d2_22 rfl rfl ?_
      show ownGo _ _ _ _ _ _ _ T 23 #[.val (.ref a1), .val (.int (Int32.ofNat I)), .val (.long x), .second, .val (.int (Int32.ofNat k))] [(.ref a1)]
      refine own_iload G d2_23 rfl ?_
      show ownGo _ _ _ _ _ _ _ T 25 #[.val (.ref a1), .val (.int (Int32.ofNat I)), .val (.long x), .second, .val (.int (Int32.ofNat k))] [(.int (Int32.ofNat k)), (.ref a1)]
      refine own_laload G d2_25 (v := (.long (f k))) A  (own_ixN (by omega) (by omega)) rfl ?_
      show ownGo _ _ _ _ _ _ _ T 26 #[.val (.ref a1), .val (.int (Int32.ofNat I)), .val (.long x), .second, .val (.int (Int32.ofNat k))] [(.long (f k))]
      refine own_lloadN G d2_26 rfl ?_
      show ownGo _ _ _ _ _ _ _ T 27 #[.val (.ref a1), .val (.int (Int32.ofNat I)), .val (.long x), .second, .val (.int (Int32.ofNat k))] [(.long x), (.long (f k))]
      refine own_lcif_ge G d2_27 d2_28 (pc' := 47) (by decide) (by decide) (fun hc => ?_) (fun hc => ?_)
      · show ownGo _ _ _ _ _ _ _ T 47 #[.val (.ref a1), .val (.int (Int32.ofNat I)), .val (.long x), .second, .val (.int (Int32.ofNat k))] []
        have eI : ownIns x (k + 1) f = ownUpd f (k + 1) x := by simp only [ownIns, if_neg hc]
        rw [eI]
        refine own_aloadN G d2_47 rfl rfl ?_
        show ownGo _ _ _ _ _ _ _ T 48 #[.val (.ref a1), .val (.int (Int32.ofNat I)), .val (.long x), .second, .val (.int (Int32.ofNat k))] [(.ref a1)]
        refine own_iload G d2_48 rfl ?_
        show ownGo _ _ _ _ _ _ _ T 50 #[.val (.ref a1), .val (.int (Int32.ofNat I)), .val (.long x), .second, .val (.int (Int32.ofNat k))] [(.int (Int32.ofNat k)), (.ref a1)]
        refine own_iconst G d2_50 ?_
        show ownGo _ _ _ _ _ _ _ T 51 #[.val (.ref a1), .val (.int (Int32.ofNat I)), .val (.long x), .second, .val (.int (Int32.ofNat k))] [(.int (1 : Int32)), (.int (Int32.ofNat k)), (.ref a1)]
        refine own_iadd G d2_51 ?_
        show ownGo _ _ _ _ _ _ _ T 52 #[.val (.ref a1), .val (.int (Int32.ofNat I)), .val (.long x), .second, .val (.int (Int32.ofNat k))] [(.int ((Int32.ofNat k) + (1 : Int32))), (.ref a1)]
        rw [own_succN k]
        show ownGo _ _ _ _ _ _ _ T 52 #[.val (.ref a1), .val (.int (Int32.ofNat I)), .val (.long x), .second, .val (.int (Int32.ofNat k))] [(.int (Int32.ofNat (k + 1))), (.ref a1)]
        refine own_lloadN G d2_52 rfl ?_
        show ownGo _ _ _ _ _ _ _ T 53 #[.val (.ref a1), .val (.int (Int32.ofNat I)), .val (.long x), .second, .val (.int (Int32.ofNat k))] [(.long x), (.int (Int32.ofNat (k + 1))), (.ref a1)]
        refine own_lastore G d2_53 A (i := (k + 1)) (own_ixN (by omega) (by omega)) fr ?_
        intro T4 h4 W4 G4
        show ownGo _ _ _ _ _ _ _ T4 54 #[.val (.ref a1), .val (.int (Int32.ofNat I)), .val (.long x), .second, .val (.int (Int32.ofNat k))] []
        refine own_iinc G4 d2_54 (L' := #[.val (.ref a1), .val (.int ((Int32.ofNat I) + (1 : Int32))), .val (.long x), .second, .val (.int (Int32.ofNat k))]) rfl rfl ?_
        show ownGo _ _ _ _ _ _ _ T4 57 #[.val (.ref a1), .val (.int ((Int32.ofNat I) + (1 : Int32))), .val (.long x), .second, .val (.int (Int32.ofNat k))] []
        refine own_goto G4 d2_57 (pc' := 2) (by decide) (by decide) ?_
        show ownGo _ _ _ _ _ _ _ T4 2 #[.val (.ref a1), .val (.int ((Int32.ofNat I) + (1 : Int32))), .val (.long x), .second, .val (.int (Int32.ofNat k))] []
        rw [own_succN]
        exact ih _ _ _ _ _ G4 (A.setL W4) (K.wr W4 (Or.inl (List.mem_singleton.mpr rfl)))
      · show ownGo _ _ _ _ _ _ _ T 31 #[.val (.ref a1), .val (.int (Int32.ofNat I)), .val (.long x), .second, .val (.int (Int32.ofNat k))] []
        have eI : ownIns x (k + 1) f = ownIns x k (ownUpd f (k + 1) (f k)) := by simp only [ownIns, if_pos hc]
        rw [eI]
        refine own_aloadN G d2_31 rfl rfl ?_
        show ownGo _ _ _ _ _ _ _ T 32 #[.val (.ref a1), .val (.int (Int32.ofNat I)), .val (.long x), .second, .val (.int (Int32.ofNat k))] [(.ref a1)]
        refine own_iload G d2_32 rfl ?_
        show ownGo _ _ _ _ _ _ _ T 34 #[.val (.ref a1), .val (.int (Int32.ofNat I)), .val (.long x), .second, .val (.int (Int32.ofNat k))] [(.int (Int32.ofNat k)), (.ref a1)]
        refine own_iconst G d2_34 ?_
        show ownGo _ _ _ _ _ _ _ T 35 #[.val (.ref a1), .val (.int (Int32.ofNat I)), .val (.long x), .second, .val (.int (Int32.ofNat k))] [(.int (1 : Int32)), (.int (Int32.ofNat k)), (.ref a1)]
        refine own_iadd G d2_35 ?_
        show ownGo _ _ _ _ _ _ _ T 36 #[.val (.ref a1), .val (.int (Int32.ofNat I)), .val (.long x), .second, .val (.int (Int32.ofNat k))] [(.int ((Int32.ofNat k) + (1 : Int32))), (.ref a1)]
        rw [own_succN k]
        show ownGo _ _ _ _ _ _ _ T 36 #[.val (.ref a1), .val (.int (Int32.ofNat I)), .val (.long x), .second, .val (.int (Int32.ofNat k))] [(.int (Int32.ofNat (k + 1))), (.ref a1)]
        refine own_aloadN G d2_36 rfl rfl ?_
        show ownGo _ _ _ _ _ _ _ T 37 #[.val (.ref a1), .val (.int (Int32.ofNat I)), .val (.long x), .second, .val (.int (Int32.ofNat k))] [(.ref a1), (.int (Int32.ofNat (k + 1))), (.ref a1)]
        refine own_iload G d2_37 rfl ?_
        show ownGo _ _ _ _ _ _ _ T 39 #[.val (.ref a1), .val (.int (Int32.ofNat I)), .val (.long x), .second, .val (.int (Int32.ofNat k))] [(.int (Int32.ofNat k)), (.ref a1), (.int (Int32.ofNat (k + 1))), (.ref a1)]
        refine own_laload G d2_39 (v := (.long (f k))) A  (own_ixN (by omega) (by omega)) rfl ?_
        show ownGo _ _ _ _ _ _ _ T 40 #[.val (.ref a1), .val (.int (Int32.ofNat I)), .val (.long x), .second, .val (.int (Int32.ofNat k))] [(.long (f k)), (.int (Int32.ofNat (k + 1))), (.ref a1)]
        refine own_lastore G d2_40 A (i := (k + 1)) (own_ixN (by omega) (by omega)) fr ?_
        intro T5 h5 W5 G5
        show ownGo _ _ _ _ _ _ _ T5 41 #[.val (.ref a1), .val (.int (Int32.ofNat I)), .val (.long x), .second, .val (.int (Int32.ofNat k))] []
        refine own_iinc G5 d2_41 (L' := #[.val (.ref a1), .val (.int (Int32.ofNat I)), .val (.long x), .second, .val (.int ((Int32.ofNat k) + (-1 : Int32)))]) rfl rfl ?_
        show ownGo _ _ _ _ _ _ _ T5 44 #[.val (.ref a1), .val (.int (Int32.ofNat I)), .val (.long x), .second, .val (.int ((Int32.ofNat k) + (-1 : Int32)))] []
        refine own_goto G5 d2_44 (pc' := 17) (by decide) (by decide) ?_
        show ownGo _ _ _ _ _ _ _ T5 17 #[.val (.ref a1), .val (.int (Int32.ofNat I)), .val (.long x), .second, .val (.int ((Int32.ofNat k) + (-1 : Int32)))] []
        rw [own_decN]
        exact ihk _ (by omega) _ _ G5 (A.setL W5) (K.wr W5 (Or.inl (List.mem_singleton.mpr rfl)))
  have out : ∀ (cc I : Nat), n - I = cc → 1 ≤ I → I ≤ 4 → ∀ (f : Nat → Int64) (key : Int64) (jj : Int32), ∀ (T : State) (h : Heap), ownSt p l e ({ frames := 0, cells := 0, slots := 0, locals := 0 } : Room) s m #[(.ref a1)] below meth c Z n0 "org/matchwright/Instantiation" prog_32_method_6_code 5 none "sortNewestFirst" T h 0 0 → ownArr Z h a1 .long n (fun j => .long (f j)) → Keep h0 h [a1] → ownGo p e m below n0 (ownEnd s ({ frames := 0, cells := 0, slots := 0, locals := 0 } : Room)) (fun v h => v = none ∧ Keep h0 h [a1] ∧ ownArr Z h a1 .long n (fun j => .long (ownOuter f cc I j))) T 2 #[.val (.ref a1), .val (.int (Int32.ofNat I)), .val (.long key), .second, .val (.int jj)] [] := by
    intro cc
    induction cc with
    | zero =>
      intro I hc1 hI hI4 f key jj T h G A K
      show ownGo _ _ _ _ _ _ _ T 2 #[.val (.ref a1), .val (.int (Int32.ofNat I)), .val (.long key), .second, .val (.int jj)] []
      refine own_iloadN G d2_2 rfl ?_
      show ownGo _ _ _ _ _ _ _ T 3 #[.val (.ref a1), .val (.int (Int32.ofNat I)), .val (.long key), .second, .val (.int jj)] [(.int (Int32.ofNat I))]
      refine own_aloadN G d2_3 rfl rfl ?_
      show ownGo _ _ _ _ _ _ _ T 4 #[.val (.ref a1), .val (.int (Int32.ofNat I)), .val (.long key), .second, .val (.int jj)] [(.ref a1), (.int (Int32.ofNat I))]
      refine own_arraylength G d2_4 A ?_
      show ownGo _ _ _ _ _ _ _ T 5 #[.val (.ref a1), .val (.int (Int32.ofNat I)), .val (.long key), .second, .val (.int jj)] [(.int (Int32.ofNat n)), (.int (Int32.ofNat I))]
      refine own_icmp_ge G d2_5 (pc' := 60) (by decide) (by decide) (fun hc => ?_) (fun hc => False.elim (absurd ((own_ltN (by omega) (by omega)).mp hc) (by omega)))
      show ownGo _ _ _ _ _ _ _ T 60 #[.val (.ref a1), .val (.int (Int32.ofNat I)), .val (.long key), .second, .val (.int jj)] []
      exact own_ret G d2_60 rfl (by decide) (by decide) ⟨rfl, K, A⟩
    | succ cc ih =>
      intro I hc1 hI hI4 f key jj T h G A K
      show ownGo _ _ _ _ _ _ _ T 2 #[.val (.ref a1), .val (.int (Int32.ofNat I)), .val (.long key), .second, .val (.int jj)] []
      refine own_iloadN G d2_2 rfl ?_
      show ownGo _ _ _ _ _ _ _ T 3 #[.val (.ref a1), .val (.int (Int32.ofNat I)), .val (.long key), .second, .val (.int jj)] [(.int (Int32.ofNat I))]
      refine own_aloadN G d2_3 rfl rfl ?_
      show ownGo _ _ _ _ _ _ _ T 4 #[.val (.ref a1), .val (.int (Int32.ofNat I)), .val (.long key), .second, .val (.int jj)] [(.ref a1), (.int (Int32.ofNat I))]
      refine own_arraylength G d2_4 A ?_
      show ownGo _ _ _ _ _ _ _ T 5 #[.val (.ref a1), .val (.int (Int32.ofNat I)), .val (.long key), .second, .val (.int jj)] [(.int (Int32.ofNat n)), (.int (Int32.ofNat I))]
      refine own_icmp_ge G d2_5 (pc' := 60) (by decide) (by decide) (fun hc => False.elim (hc ((own_ltN (by omega) (by omega)).mpr (by omega)))) (fun hc => ?_)
      show ownGo _ _ _ _ _ _ _ T 8 #[.val (.ref a1), .val (.int (Int32.ofNat I)), .val (.long key), .second, .val (.int jj)] []
      refine own_aloadN G d2_8 rfl rfl ?_
      show ownGo _ _ _ _ _ _ _ T 9 #[.val (.ref a1), .val (.int (Int32.ofNat I)), .val (.long key), .second, .val (.int jj)] [(.ref a1)]
      refine own_iloadN G d2_9 rfl ?_
      show ownGo _ _ _ _ _ _ _ T 10 #[.val (.ref a1), .val (.int (Int32.ofNat I)), .val (.long key), .second, .val (.int jj)] [(.int (Int32.ofNat I)), (.ref a1)]
      refine own_laload G d2_10 (v := (.long (f I))) A  (own_ixN (by omega) (by omega)) rfl ?_
      show ownGo _ _ _ _ _ _ _ T 11 #[.val (.ref a1), .val (.int (Int32.ofNat I)), .val (.long key), .second, .val (.int jj)] [(.long (f I))]
      refine own_lstoreN G d2_11 (L' := #[.val (.ref a1), .val (.int (Int32.ofNat I)), .val (.long (f I)), .second, .val (.int jj)]) rfl ?_
      show ownGo _ _ _ _ _ _ _ T 12 #[.val (.ref a1), .val (.int (Int32.ofNat I)), .val (.long (f I)), .second, .val (.int jj)] []
      refine own_iloadN G d2_12 rfl ?_
      show ownGo _ _ _ _ _ _ _ T 13 #[.val (.ref a1), .val (.int (Int32.ofNat I)), .val (.long (f I)), .second, .val (.int jj)] [(.int (Int32.ofNat I))]
      refine own_iconst G d2_13 ?_
      show ownGo _ _ _ _ _ _ _ T 14 #[.val (.ref a1), .val (.int (Int32.ofNat I)), .val (.long (f I)), .second, .val (.int jj)] [(.int (1 : Int32)), (.int (Int32.ofNat I))]
      refine own_isub G d2_14 ?_
      show ownGo _ _ _ _ _ _ _ T 15 #[.val (.ref a1), .val (.int (Int32.ofNat I)), .val (.long (f I)), .second, .val (.int jj)] [(.int ((Int32.ofNat I) - (1 : Int32)))]
      refine own_istore G d2_15 (L' := #[.val (.ref a1), .val (.int (Int32.ofNat I)), .val (.long (f I)), .second, .val (.int ((Int32.ofNat I) - (1 : Int32)))]) rfl ?_
      show ownGo _ _ _ _ _ _ _ T 17 #[.val (.ref a1), .val (.int (Int32.ofNat I)), .val (.long (f I)), .second, .val (.int ((Int32.ofNat I) - (1 : Int32)))] []
      exact inn cc I (by omega) (ih (I + 1) (by omega) (by omega) (by omega)) (f I) I f (Nat.le_refl _) _ _ G A K
  refine own_iconst G0 d2_0 ?_
  show ownGo _ _ _ _ _ _ _ T0 1 #[.val (.ref a1), .unset, .unset, .unset, .unset] [(.int (1 : Int32))]
  refine own_istoreN G0 d2_1 (L' := #[.val (.ref a1), .val (.int (1 : Int32)), .unset, .unset, .unset]) rfl ?_
  show ownGo _ _ _ _ _ _ _ T0 2 #[.val (.ref a1), .val (.int (1 : Int32)), .unset, .unset, .unset] []
  refine own_iloadN G0 d2_2 rfl ?_
  show ownGo _ _ _ _ _ _ _ T0 3 #[.val (.ref a1), .val (.int (1 : Int32)), .unset, .unset, .unset] [(.int (1 : Int32))]
  refine own_aloadN G0 d2_3 rfl rfl ?_
  show ownGo _ _ _ _ _ _ _ T0 4 #[.val (.ref a1), .val (.int (1 : Int32)), .unset, .unset, .unset] [(.ref a1), (.int (1 : Int32))]
  refine own_arraylength G0 d2_4 A0 ?_
  show ownGo _ _ _ _ _ _ _ T0 5 #[.val (.ref a1), .val (.int (1 : Int32)), .unset, .unset, .unset] [(.int (Int32.ofNat n)), (.int (1 : Int32))]
  refine own_icmp_ge G0 d2_5 (pc' := 60) (by decide) (by decide) (fun hc => ?_) (fun hc => ?_)
  · show ownGo _ _ _ _ _ _ _ T0 60 #[.val (.ref a1), .val (.int (1 : Int32)), .unset, .unset, .unset] []
    have q : n - 1 = 0 := by
      have : ¬ 1 < n := fun r => hc ((own_ltN (i := 1) (by decide) (by omega)).mpr r)
      omega
    rw [q]
    exact own_ret G0 d2_60 rfl (by decide) (by decide) ⟨rfl, Keep.refl _ _, A0⟩
  · show ownGo _ _ _ _ _ _ _ T0 8 #[.val (.ref a1), .val (.int (1 : Int32)), .unset, .unset, .unset] []
    have q : 1 < n := (own_ltN (i := 1) (by decide) (by omega)).mp hc
    obtain ⟨cc, qc⟩ : ∃ cc, n - 1 = cc + 1 := ⟨n - 2, by omega⟩
    rw [qc]
    refine own_aloadN G0 d2_8 rfl rfl ?_
    show ownGo _ _ _ _ _ _ _ T0 9 #[.val (.ref a1), .val (.int (1 : Int32)), .unset, .unset, .unset] [(.ref a1)]
    refine own_iloadN G0 d2_9 rfl ?_
    show ownGo _ _ _ _ _ _ _ T0 10 #[.val (.ref a1), .val (.int (1 : Int32)), .unset, .unset, .unset] [(.int (1 : Int32)), (.ref a1)]
    refine own_laload G0 d2_10 (v := (.long (f0 1))) A0 (i := 1) ⟨by decide, by decide, q⟩ rfl ?_
    show ownGo _ _ _ _ _ _ _ T0 11 #[.val (.ref a1), .val (.int (1 : Int32)), .unset, .unset, .unset] [(.long (f0 1))]
    refine own_lstoreN G0 d2_11 (L' := #[.val (.ref a1), .val (.int (1 : Int32)), .val (.long (f0 1)), .second, .unset]) rfl ?_
    show ownGo _ _ _ _ _ _ _ T0 12 #[.val (.ref a1), .val (.int (1 : Int32)), .val (.long (f0 1)), .second, .unset] []
    refine own_iloadN G0 d2_12 rfl ?_
    show ownGo _ _ _ _ _ _ _ T0 13 #[.val (.ref a1), .val (.int (1 : Int32)), .val (.long (f0 1)), .second, .unset] [(.int (1 : Int32))]
    refine own_iconst G0 d2_13 ?_
    show ownGo _ _ _ _ _ _ _ T0 14 #[.val (.ref a1), .val (.int (1 : Int32)), .val (.long (f0 1)), .second, .unset] [(.int (1 : Int32)), (.int (1 : Int32))]
    refine own_isub G0 d2_14 ?_
    show ownGo _ _ _ _ _ _ _ T0 15 #[.val (.ref a1), .val (.int (1 : Int32)), .val (.long (f0 1)), .second, .unset] [(.int ((1 : Int32) - (1 : Int32)))]
    refine own_istore G0 d2_15 (L' := #[.val (.ref a1), .val (.int (1 : Int32)), .val (.long (f0 1)), .second, .val (.int ((1 : Int32) - (1 : Int32)))]) rfl ?_
    show ownGo _ _ _ _ _ _ _ T0 17 #[.val (.ref a1), .val (.int (1 : Int32)), .val (.long (f0 1)), .second, .val (.int ((1 : Int32) - (1 : Int32)))] []
    exact inn cc 1 q (out cc 2 (by omega) (by omega) (by omega)) (f0 1) 1 f0 (Nat.le_refl _) _ _ G0 A0 (Keep.refl _ _)
theorem pn_rm0 : plainFor (⟨"org/matchwright/InstantiationSortNewestFirstPinLaw", "law", "(JJJJI)Z"⟩ : MethodName) = true := plainFor_of_name (by first | (simp [plainName, overriddenIn]; done) | decide +kernel)
theorem ef_rm0 (m : MethodId) (q1 : Int64) (q2 : Int64) (q3 : Int64) (q4 : Int64) (p5 : Int32) : entryFrame m #[(.long q1), (.long q2), (.long q3), (.long q4), (.int p5)] maxLocals = mkF m 0 #[.val (.long q1), .second, .val (.long q2), .second, .val (.long q3), .second, .val (.long q4), .second, .val (.int p5), .unset, .unset, .unset] [] := by first | (simp [entryFrame, mkF, argsToLocals, Value.category, maxLocals]; done) | rfl
set_option maxRecDepth 65536 in
set_option maxHeartbeats 40000000 in
theorem rm0 (l : Launch) (Z : State) (a0 : Array Value) (hw : ∀ d ∈ tables_1, d.before a0 Z = true) (q1 q2 q3 q4 : Int64) (p5 : Int32) (h0 : Heap) (n0 : Nat) (Z0 : n0 ≤ h0.size) :
    ownMet l tables_1 x code maxLocals ret room_1 Z n0 #[(.long q1), (.long q2), (.long q3), (.long q4), (.int p5)] h0 (fun v h => v = some (.int 1)) := by
  refine own_body (own := "org/matchwright/InstantiationSortNewestFirstPinLaw") (nm := "law") pn_rm0 (fun m => ef_rm0 m q1 q2 q3 q4 p5) rfl rfl ?_
  intro p e s m below meth c T0 G0
  show ownGo _ _ _ _ _ _ _ T0 0 #[.val (.long q1), .second, .val (.long q2), .second, .val (.long q3), .second, .val (.long q4), .second, .val (.int p5), .unset, .unset, .unset] []
  refine own_iload G0 at_0 rfl ?_
  show ownGo _ _ _ _ _ _ _ T0 2 #[.val (.long q1), .second, .val (.long q2), .second, .val (.long q3), .second, .val (.long q4), .second, .val (.int p5), .unset, .unset, .unset] [(.int p5)]
  refine own_bipush G0 at_2 ?_
  show ownGo _ _ _ _ _ _ _ T0 4 #[.val (.long q1), .second, .val (.long q2), .second, .val (.long q3), .second, .val (.long q4), .second, .val (.int p5), .unset, .unset, .unset] [(.int (7 : Int32)), (.int p5)]
  refine own_iand G0 at_4 ?_
  show ownGo _ _ _ _ _ _ _ T0 5 #[.val (.long q1), .second, .val (.long q2), .second, .val (.long q3), .second, .val (.long q4), .second, .val (.int p5), .unset, .unset, .unset] [(.int (p5 &&& (7 : Int32)))]
  refine own_iconst G0 at_5 ?_
  show ownGo _ _ _ _ _ _ _ T0 6 #[.val (.long q1), .second, .val (.long q2), .second, .val (.long q3), .second, .val (.long q4), .second, .val (.int p5), .unset, .unset, .unset] [(.int (5 : Int32)), (.int (p5 &&& (7 : Int32)))]
  refine own_irem G0 at_6 (by decide) ?_
  show ownGo _ _ _ _ _ _ _ T0 7 #[.val (.long q1), .second, .val (.long q2), .second, .val (.long q3), .second, .val (.long q4), .second, .val (.int p5), .unset, .unset, .unset] [(.int ((p5 &&& (7 : Int32)) % (5 : Int32)))]
  rcases own_rem75 p5 with e | e | e | e | e
  · rw [e]
    show ownGo _ _ _ _ _ _ _ T0 7 #[.val (.long q1), .second, .val (.long q2), .second, .val (.long q3), .second, .val (.long q4), .second, .val (.int p5), .unset, .unset, .unset] [(.int (0 : Int32))]
    refine own_istore G0 at_7 (L' := #[.val (.long q1), .second, .val (.long q2), .second, .val (.long q3), .second, .val (.long q4), .second, .val (.int p5), .val (.int (0 : Int32)), .unset, .unset]) rfl ?_
    show ownGo _ _ _ _ _ _ _ T0 9 #[.val (.long q1), .second, .val (.long q2), .second, .val (.long q3), .second, .val (.long q4), .second, .val (.int p5), .val (.int (0 : Int32)), .unset, .unset] []
    refine own_iload G0 at_9 rfl ?_
    show ownGo _ _ _ _ _ _ _ T0 11 #[.val (.long q1), .second, .val (.long q2), .second, .val (.long q3), .second, .val (.long q4), .second, .val (.int p5), .val (.int (0 : Int32)), .unset, .unset] [(.int (0 : Int32))]
    refine own_newarr G0 at_11 (hw _ (List.mem_of_getElem? (i := 0) rfl)) (by decide) (k := 0) (cap := 0) (by decide) (by decide) (by decide) (by decide) (by decide) ?_
    intro T6 h6 b6 g6 E6 A6 G6
    replace A6 : ownArr Z h6 b6 .long 0 (fun _ => .long 0) := A6
    show ownGo _ _ _ _ _ _ _ T6 13 #[.val (.long q1), .second, .val (.long q2), .second, .val (.long q3), .second, .val (.long q4), .second, .val (.int p5), .val (.int (0 : Int32)), .unset, .unset] [(.ref b6)]
    have f1 : n0 ≤ b6 := Nat.le_trans Z0 (Nat.le_of_eq g6.symm)
    have Y : n0 ≤ h6.size := Nat.le_trans Z0 E6.1
    refine own_astore G6 at_13 (L' := #[.val (.long q1), .second, .val (.long q2), .second, .val (.long q3), .second, .val (.long q4), .second, .val (.int p5), .val (.int (0 : Int32)), .val (.ref b6), .unset]) rfl rfl ?_
    show ownGo _ _ _ _ _ _ _ T6 15 #[.val (.long q1), .second, .val (.long q2), .second, .val (.long q3), .second, .val (.long q4), .second, .val (.int p5), .val (.int (0 : Int32)), .val (.ref b6), .unset] []
    refine own_iload G6 at_15 rfl ?_
    show ownGo _ _ _ _ _ _ _ T6 17 #[.val (.long q1), .second, .val (.long q2), .second, .val (.long q3), .second, .val (.long q4), .second, .val (.int p5), .val (.int (0 : Int32)), .val (.ref b6), .unset] [(.int (0 : Int32))]
    refine own_if_le G6 at_17 (pc' := 25) (by decide) (by decide) (fun hc => ?_) (fun hc => False.elim (absurd hc (by decide)))
    show ownGo _ _ _ _ _ _ _ T6 25 #[.val (.long q1), .second, .val (.long q2), .second, .val (.long q3), .second, .val (.long q4), .second, .val (.int p5), .val (.int (0 : Int32)), .val (.ref b6), .unset] []
    refine own_iload G6 at_25 rfl ?_
    show ownGo _ _ _ _ _ _ _ T6 27 #[.val (.long q1), .second, .val (.long q2), .second, .val (.long q3), .second, .val (.long q4), .second, .val (.int p5), .val (.int (0 : Int32)), .val (.ref b6), .unset] [(.int (0 : Int32))]
    refine own_iconst G6 at_27 ?_
    show ownGo _ _ _ _ _ _ _ T6 28 #[.val (.long q1), .second, .val (.long q2), .second, .val (.long q3), .second, .val (.long q4), .second, .val (.int p5), .val (.int (0 : Int32)), .val (.ref b6), .unset] [(.int (1 : Int32)), (.int (0 : Int32))]
    refine own_icmp_le G6 at_28 (pc' := 36) (by decide) (by decide) (fun hc => ?_) (fun hc => False.elim (absurd hc (by decide)))
    show ownGo _ _ _ _ _ _ _ T6 36 #[.val (.long q1), .second, .val (.long q2), .second, .val (.long q3), .second, .val (.long q4), .second, .val (.int p5), .val (.int (0 : Int32)), .val (.ref b6), .unset] []
    refine own_iload G6 at_36 rfl ?_
    show ownGo _ _ _ _ _ _ _ T6 38 #[.val (.long q1), .second, .val (.long q2), .second, .val (.long q3), .second, .val (.long q4), .second, .val (.int p5), .val (.int (0 : Int32)), .val (.ref b6), .unset] [(.int (0 : Int32))]
    refine own_iconst G6 at_38 ?_
    show ownGo _ _ _ _ _ _ _ T6 39 #[.val (.long q1), .second, .val (.long q2), .second, .val (.long q3), .second, .val (.long q4), .second, .val (.int p5), .val (.int (0 : Int32)), .val (.ref b6), .unset] [(.int (2 : Int32)), (.int (0 : Int32))]
    refine own_icmp_le G6 at_39 (pc' := 48) (by decide) (by decide) (fun hc => ?_) (fun hc => False.elim (absurd hc (by decide)))
    show ownGo _ _ _ _ _ _ _ T6 48 #[.val (.long q1), .second, .val (.long q2), .second, .val (.long q3), .second, .val (.long q4), .second, .val (.int p5), .val (.int (0 : Int32)), .val (.ref b6), .unset] []
    refine own_iload G6 at_48 rfl ?_
    show ownGo _ _ _ _ _ _ _ T6 50 #[.val (.long q1), .second, .val (.long q2), .second, .val (.long q3), .second, .val (.long q4), .second, .val (.int p5), .val (.int (0 : Int32)), .val (.ref b6), .unset] [(.int (0 : Int32))]
    refine own_iconst G6 at_50 ?_
    show ownGo _ _ _ _ _ _ _ T6 51 #[.val (.long q1), .second, .val (.long q2), .second, .val (.long q3), .second, .val (.long q4), .second, .val (.int p5), .val (.int (0 : Int32)), .val (.ref b6), .unset] [(.int (3 : Int32)), (.int (0 : Int32))]
    refine own_icmp_le G6 at_51 (pc' := 60) (by decide) (by decide) (fun hc => ?_) (fun hc => False.elim (absurd hc (by decide)))
    show ownGo _ _ _ _ _ _ _ T6 60 #[.val (.long q1), .second, .val (.long q2), .second, .val (.long q3), .second, .val (.long q4), .second, .val (.int p5), .val (.int (0 : Int32)), .val (.ref b6), .unset] []
    refine own_iconst G6 at_60 ?_
    show ownGo _ _ _ _ _ _ _ T6 61 #[.val (.long q1), .second, .val (.long q2), .second, .val (.long q3), .second, .val (.long q4), .second, .val (.int p5), .val (.int (0 : Int32)), .val (.ref b6), .unset] [(.int (4 : Int32))]
    replace A6 : ownArr Z h6 b6 .long 0 (fun j => .long (ownT q1 q2 q3 q4 j)) := A6.congr fun j hj => by
      rcases j with j
      · omega
    refine own_newarr G6 at_61 (hw _ (List.mem_of_getElem? (i := 0) rfl)) (by decide) (k := 4) (cap := 4) (by decide) (by decide) (by decide) (by decide) (by decide) ?_
    intro T7 h7 b7 g7 E7 A7 G7
    replace A7 : ownArr Z h7 b7 .long 4 (fun _ => .long 0) := A7
    show ownGo _ _ _ _ _ _ _ T7 63 #[.val (.long q1), .second, .val (.long q2), .second, .val (.long q3), .second, .val (.long q4), .second, .val (.int p5), .val (.int (0 : Int32)), .val (.ref b6), .unset] [(.ref b7)]
    have f2 : n0 ≤ b7 := Nat.le_trans Y (Nat.le_of_eq g7.symm)
    have ne : b6 ≠ b7 := Nat.ne_of_lt (Nat.lt_of_lt_of_le A6.lt (Nat.le_of_eq g7.symm))
    replace A6 := A6.ext E7
    replace Y : n0 ≤ h7.size := Nat.le_trans Y E7.1
    refine own_astore G7 at_63 (L' := #[.val (.long q1), .second, .val (.long q2), .second, .val (.long q3), .second, .val (.long q4), .second, .val (.int p5), .val (.int (0 : Int32)), .val (.ref b6), .val (.ref b7)]) rfl rfl ?_
    show ownGo _ _ _ _ _ _ _ T7 65 #[.val (.long q1), .second, .val (.long q2), .second, .val (.long q3), .second, .val (.long q4), .second, .val (.int p5), .val (.int (0 : Int32)), .val (.ref b6), .val (.ref b7)] []
    refine own_aload G7 at_65 rfl rfl ?_
    show ownGo _ _ _ _ _ _ _ T7 67 #[.val (.long q1), .second, .val (.long q2), .second, .val (.long q3), .second, .val (.long q4), .second, .val (.int p5), .val (.int (0 : Int32)), .val (.ref b6), .val (.ref b7)] [(.ref b7)]
    refine own_iconst G7 at_67 ?_
    show ownGo _ _ _ _ _ _ _ T7 68 #[.val (.long q1), .second, .val (.long q2), .second, .val (.long q3), .second, .val (.long q4), .second, .val (.int p5), .val (.int (0 : Int32)), .val (.ref b6), .val (.ref b7)] [(.int (0 : Int32)), (.ref b7)]
    refine own_lloadN G7 at_68 rfl ?_
    show ownGo _ _ _ _ _ _ _ T7 69 #[.val (.long q1), .second, .val (.long q2), .second, .val (.long q3), .second, .val (.long q4), .second, .val (.int p5), .val (.int (0 : Int32)), .val (.ref b6), .val (.ref b7)] [(.long q1), (.int (0 : Int32)), (.ref b7)]
    refine own_lastore G7 at_69 A7 (i := 0) (by decide) f2 ?_
    intro T8 h8 W8 G8
    show ownGo _ _ _ _ _ _ _ T8 70 #[.val (.long q1), .second, .val (.long q2), .second, .val (.long q3), .second, .val (.long q4), .second, .val (.int p5), .val (.int (0 : Int32)), .val (.ref b6), .val (.ref b7)] []
    replace A7 := A7.same W8
    replace A6 := A6.other W8 ne
    replace Y : n0 ≤ h8.size := by rw [W8.size]; exact Y
    refine own_aload G8 at_70 rfl rfl ?_
    show ownGo _ _ _ _ _ _ _ T8 72 #[.val (.long q1), .second, .val (.long q2), .second, .val (.long q3), .second, .val (.long q4), .second, .val (.int p5), .val (.int (0 : Int32)), .val (.ref b6), .val (.ref b7)] [(.ref b7)]
    refine own_iconst G8 at_72 ?_
    show ownGo _ _ _ _ _ _ _ T8 73 #[.val (.long q1), .second, .val (.long q2), .second, .val (.long q3), .second, .val (.long q4), .second, .val (.int p5), .val (.int (0 : Int32)), .val (.ref b6), .val (.ref b7)] [(.int (1 : Int32)), (.ref b7)]
    refine own_iload G8 at_73 rfl ?_
    show ownGo _ _ _ _ _ _ _ T8 75 #[.val (.long q1), .second, .val (.long q2), .second, .val (.long q3), .second, .val (.long q4), .second, .val (.int p5), .val (.int (0 : Int32)), .val (.ref b6), .val (.ref b7)] [(.int (0 : Int32)), (.int (1 : Int32)), (.ref b7)]
    refine own_iconst G8 at_75 ?_
    show ownGo _ _ _ _ _ _ _ T8 76 #[.val (.long q1), .second, .val (.long q2), .second, .val (.long q3), .second, .val (.long q4), .second, .val (.int p5), .val (.int (0 : Int32)), .val (.ref b6), .val (.ref b7)] [(.int (1 : Int32)), (.int (0 : Int32)), (.int (1 : Int32)), (.ref b7)]
    refine own_icmp_le G8 at_76 (pc' := 83) (by decide) (by decide) (fun hc => ?_) (fun hc => False.elim (absurd hc (by decide)))
    show ownGo _ _ _ _ _ _ _ T8 83 #[.val (.long q1), .second, .val (.long q2), .second, .val (.long q3), .second, .val (.long q4), .second, .val (.int p5), .val (.int (0 : Int32)), .val (.ref b6), .val (.ref b7)] [(.int (1 : Int32)), (.ref b7)]
    refine own_ldc2 G8 at_83 (hw _ (List.mem_of_getElem? (i := 1) rfl)) ?_
    show ownGo _ _ _ _ _ _ _ T8 86 #[.val (.long q1), .second, .val (.long q2), .second, .val (.long q3), .second, .val (.long q4), .second, .val (.int p5), .val (.int (0 : Int32)), .val (.ref b6), .val (.ref b7)] [(.long (-9223372036854775808 : Int64)), (.int (1 : Int32)), (.ref b7)]
    refine own_lastore G8 at_86 A7 (i := 1) (by decide) f2 ?_
    intro T9 h9 W9 G9
    show ownGo _ _ _ _ _ _ _ T9 87 #[.val (.long q1), .second, .val (.long q2), .second, .val (.long q3), .second, .val (.long q4), .second, .val (.int p5), .val (.int (0 : Int32)), .val (.ref b6), .val (.ref b7)] []
    replace A7 := A7.same W9
    replace A6 := A6.other W9 ne
    replace Y : n0 ≤ h9.size := by rw [W9.size]; exact Y
    refine own_aload G9 at_87 rfl rfl ?_
    show ownGo _ _ _ _ _ _ _ T9 89 #[.val (.long q1), .second, .val (.long q2), .second, .val (.long q3), .second, .val (.long q4), .second, .val (.int p5), .val (.int (0 : Int32)), .val (.ref b6), .val (.ref b7)] [(.ref b7)]
    refine own_iconst G9 at_89 ?_
    show ownGo _ _ _ _ _ _ _ T9 90 #[.val (.long q1), .second, .val (.long q2), .second, .val (.long q3), .second, .val (.long q4), .second, .val (.int p5), .val (.int (0 : Int32)), .val (.ref b6), .val (.ref b7)] [(.int (2 : Int32)), (.ref b7)]
    refine own_iload G9 at_90 rfl ?_
    show ownGo _ _ _ _ _ _ _ T9 92 #[.val (.long q1), .second, .val (.long q2), .second, .val (.long q3), .second, .val (.long q4), .second, .val (.int p5), .val (.int (0 : Int32)), .val (.ref b6), .val (.ref b7)] [(.int (0 : Int32)), (.int (2 : Int32)), (.ref b7)]
    refine own_iconst G9 at_92 ?_
    show ownGo _ _ _ _ _ _ _ T9 93 #[.val (.long q1), .second, .val (.long q2), .second, .val (.long q3), .second, .val (.long q4), .second, .val (.int p5), .val (.int (0 : Int32)), .val (.ref b6), .val (.ref b7)] [(.int (2 : Int32)), (.int (0 : Int32)), (.int (2 : Int32)), (.ref b7)]
    refine own_icmp_le G9 at_93 (pc' := 101) (by decide) (by decide) (fun hc => ?_) (fun hc => False.elim (absurd hc (by decide)))
    show ownGo _ _ _ _ _ _ _ T9 101 #[.val (.long q1), .second, .val (.long q2), .second, .val (.long q3), .second, .val (.long q4), .second, .val (.int p5), .val (.int (0 : Int32)), .val (.ref b6), .val (.ref b7)] [(.int (2 : Int32)), (.ref b7)]
    refine own_ldc2 G9 at_101 (hw _ (List.mem_of_getElem? (i := 1) rfl)) ?_
    show ownGo _ _ _ _ _ _ _ T9 104 #[.val (.long q1), .second, .val (.long q2), .second, .val (.long q3), .second, .val (.long q4), .second, .val (.int p5), .val (.int (0 : Int32)), .val (.ref b6), .val (.ref b7)] [(.long (-9223372036854775808 : Int64)), (.int (2 : Int32)), (.ref b7)]
    refine own_lastore G9 at_104 A7 (i := 2) (by decide) f2 ?_
    intro T10 h10 W10 G10
    show ownGo _ _ _ _ _ _ _ T10 105 #[.val (.long q1), .second, .val (.long q2), .second, .val (.long q3), .second, .val (.long q4), .second, .val (.int p5), .val (.int (0 : Int32)), .val (.ref b6), .val (.ref b7)] []
    replace A7 := A7.same W10
    replace A6 := A6.other W10 ne
    replace Y : n0 ≤ h10.size := by rw [W10.size]; exact Y
    refine own_aload G10 at_105 rfl rfl ?_
    show ownGo _ _ _ _ _ _ _ T10 107 #[.val (.long q1), .second, .val (.long q2), .second, .val (.long q3), .second, .val (.long q4), .second, .val (.int p5), .val (.int (0 : Int32)), .val (.ref b6), .val (.ref b7)] [(.ref b7)]
    refine own_iconst G10 at_107 ?_
    show ownGo _ _ _ _ _ _ _ T10 108 #[.val (.long q1), .second, .val (.long q2), .second, .val (.long q3), .second, .val (.long q4), .second, .val (.int p5), .val (.int (0 : Int32)), .val (.ref b6), .val (.ref b7)] [(.int (3 : Int32)), (.ref b7)]
    refine own_iload G10 at_108 rfl ?_
    show ownGo _ _ _ _ _ _ _ T10 110 #[.val (.long q1), .second, .val (.long q2), .second, .val (.long q3), .second, .val (.long q4), .second, .val (.int p5), .val (.int (0 : Int32)), .val (.ref b6), .val (.ref b7)] [(.int (0 : Int32)), (.int (3 : Int32)), (.ref b7)]
    refine own_iconst G10 at_110 ?_
    show ownGo _ _ _ _ _ _ _ T10 111 #[.val (.long q1), .second, .val (.long q2), .second, .val (.long q3), .second, .val (.long q4), .second, .val (.int p5), .val (.int (0 : Int32)), .val (.ref b6), .val (.ref b7)] [(.int (3 : Int32)), (.int (0 : Int32)), (.int (3 : Int32)), (.ref b7)]
    refine own_icmp_le G10 at_111 (pc' := 119) (by decide) (by decide) (fun hc => ?_) (fun hc => False.elim (absurd hc (by decide)))
    show ownGo _ _ _ _ _ _ _ T10 119 #[.val (.long q1), .second, .val (.long q2), .second, .val (.long q3), .second, .val (.long q4), .second, .val (.int p5), .val (.int (0 : Int32)), .val (.ref b6), .val (.ref b7)] [(.int (3 : Int32)), (.ref b7)]
    refine own_ldc2 G10 at_119 (hw _ (List.mem_of_getElem? (i := 1) rfl)) ?_
    show ownGo _ _ _ _ _ _ _ T10 122 #[.val (.long q1), .second, .val (.long q2), .second, .val (.long q3), .second, .val (.long q4), .second, .val (.int p5), .val (.int (0 : Int32)), .val (.ref b6), .val (.ref b7)] [(.long (-9223372036854775808 : Int64)), (.int (3 : Int32)), (.ref b7)]
    refine own_lastore G10 at_122 A7 (i := 3) (by decide) f2 ?_
    intro T11 h11 W11 G11
    show ownGo _ _ _ _ _ _ _ T11 123 #[.val (.long q1), .second, .val (.long q2), .second, .val (.long q3), .second, .val (.long q4), .second, .val (.int p5), .val (.int (0 : Int32)), .val (.ref b6), .val (.ref b7)] []
    replace A7 := A7.same W11
    replace A6 := A6.other W11 ne
    replace Y : n0 ≤ h11.size := by rw [W11.size]; exact Y
    replace A7 : ownArr Z h11 b7 .long 4 (fun j => .long (ownT q1 (-9223372036854775808 : Int64) (-9223372036854775808 : Int64) (-9223372036854775808 : Int64) j)) := A7.congr fun j hj => by
      rcases j with _ | _ | _ | _ | j
      · rfl
      · rfl
      · rfl
      · rfl
      · omega
    refine own_aload G11 at_123 rfl rfl ?_
    show ownGo _ _ _ _ _ _ _ T11 125 #[.val (.long q1), .second, .val (.long q2), .second, .val (.long q3), .second, .val (.long q4), .second, .val (.int p5), .val (.int (0 : Int32)), .val (.ref b6), .val (.ref b7)] [(.ref b7)]
    refine own_iconst G11 at_125 ?_
    show ownGo _ _ _ _ _ _ _ T11 126 #[.val (.long q1), .second, .val (.long q2), .second, .val (.long q3), .second, .val (.long q4), .second, .val (.int p5), .val (.int (0 : Int32)), .val (.ref b6), .val (.ref b7)] [(.int (0 : Int32)), (.ref b7)]
    refine own_iconst G11 at_126 ?_
    show ownGo _ _ _ _ _ _ _ T11 127 #[.val (.long q1), .second, .val (.long q2), .second, .val (.long q3), .second, .val (.long q4), .second, .val (.int p5), .val (.int (0 : Int32)), .val (.ref b6), .val (.ref b7)] [(.int (1 : Int32)), (.int (0 : Int32)), (.ref b7)]
    refine own_callS G11 at_127 (y := (⟨"org/matchwright/InstantiationSortNewestFirstPinLaw", "cx", "([JII)V"⟩ : MethodName)) (hw _ (List.mem_of_getElem? (i := 2) rfl)) (hw _ (List.mem_of_getElem? (i := 3) rfl)) (hw _ (List.mem_of_getElem? (i := 4) rfl)) (hw _ (List.mem_of_getElem? (i := 5) rfl)) (by decide) (argsL := [(.ref b7), (.int (0 : Int32)), (.int (1 : Int32))]) (rest := []) (rmCx l Z a0 hw b7 _ _ (ownT q1 (-9223372036854775808 : Int64) (-9223372036854775808 : Int64) (-9223372036854775808 : Int64)) 0 1 h11 n0 Y A7 (by decide) (by decide) rfl rfl f2) rfl rfl rfl (lenOf pd_0 rfl) (W := 0) (Nat.le_of_eq rfl) (by decide) (by decide) (by decide) (by decide) ?_
    intro v12 T12 h12 hq12 G12
    obtain ⟨rfl, K, B⟩ := hq12
    show ownGo _ _ _ _ _ _ _ T12 130 #[.val (.long q1), .second, .val (.long q2), .second, .val (.long q3), .second, .val (.long q4), .second, .val (.int p5), .val (.int (0 : Int32)), .val (.ref b6), .val (.ref b7)] []
    obtain ⟨u0, v0, R0, r1, r2⟩ := own_pair q1 (-9223372036854775808 : Int64)
    replace A7 : ownArr Z h12 b7 .long 4 (fun j => .long (ownT u0 v0 (-9223372036854775808 : Int64) (-9223372036854775808 : Int64) j)) := B.congr fun j hj => by
      congr 1
      rw [← r1, ← r2]
      by_cases q : q1 < (-9223372036854775808 : Int64)
      · simp only [ownCx, ownT, if_pos q]
        all_goals (rcases j with _ | _ | _ | _ | j <;> first | rfl | omega)
      · simp only [ownCx, ownT, if_neg q]
        all_goals (rcases j with _ | _ | _ | _ | j <;> first | rfl | omega)
    replace A6 := A6.keep K (ninS ne nin0)
    replace Y : n0 ≤ h12.size := Nat.le_trans Y K.1
    refine own_aload G12 at_130 rfl rfl ?_
    show ownGo _ _ _ _ _ _ _ T12 132 #[.val (.long q1), .second, .val (.long q2), .second, .val (.long q3), .second, .val (.long q4), .second, .val (.int p5), .val (.int (0 : Int32)), .val (.ref b6), .val (.ref b7)] [(.ref b7)]
    refine own_iconst G12 at_132 ?_
    show ownGo _ _ _ _ _ _ _ T12 133 #[.val (.long q1), .second, .val (.long q2), .second, .val (.long q3), .second, .val (.long q4), .second, .val (.int p5), .val (.int (0 : Int32)), .val (.ref b6), .val (.ref b7)] [(.int (2 : Int32)), (.ref b7)]
    refine own_iconst G12 at_133 ?_
    show ownGo _ _ _ _ _ _ _ T12 134 #[.val (.long q1), .second, .val (.long q2), .second, .val (.long q3), .second, .val (.long q4), .second, .val (.int p5), .val (.int (0 : Int32)), .val (.ref b6), .val (.ref b7)] [(.int (3 : Int32)), (.int (2 : Int32)), (.ref b7)]
    refine own_callS G12 at_134 (y := (⟨"org/matchwright/InstantiationSortNewestFirstPinLaw", "cx", "([JII)V"⟩ : MethodName)) (hw _ (List.mem_of_getElem? (i := 2) rfl)) (hw _ (List.mem_of_getElem? (i := 3) rfl)) (hw _ (List.mem_of_getElem? (i := 4) rfl)) (hw _ (List.mem_of_getElem? (i := 5) rfl)) (by decide) (argsL := [(.ref b7), (.int (2 : Int32)), (.int (3 : Int32))]) (rest := []) (rmCx l Z a0 hw b7 _ _ (ownT u0 v0 (-9223372036854775808 : Int64) (-9223372036854775808 : Int64)) 2 3 h12 n0 Y A7 (by decide) (by decide) rfl rfl f2) rfl rfl rfl (lenOf pd_0 rfl) (W := 0) (Nat.le_of_eq rfl) (by decide) (by decide) (by decide) (by decide) ?_
    intro v13 T13 h13 hq13 G13
    obtain ⟨rfl, K, B⟩ := hq13
    show ownGo _ _ _ _ _ _ _ T13 137 #[.val (.long q1), .second, .val (.long q2), .second, .val (.long q3), .second, .val (.long q4), .second, .val (.int p5), .val (.int (0 : Int32)), .val (.ref b6), .val (.ref b7)] []
    obtain ⟨u1, v1, R1, r1, r2⟩ := own_pair (-9223372036854775808 : Int64) (-9223372036854775808 : Int64)
    replace A7 : ownArr Z h13 b7 .long 4 (fun j => .long (ownT u0 v0 u1 v1 j)) := B.congr fun j hj => by
      congr 1
      rw [← r1, ← r2]
      by_cases q : (-9223372036854775808 : Int64) < (-9223372036854775808 : Int64)
      · simp only [ownCx, ownT, if_pos q]
        all_goals (rcases j with _ | _ | _ | _ | j <;> first | rfl | omega)
      · simp only [ownCx, ownT, if_neg q]
        all_goals (rcases j with _ | _ | _ | _ | j <;> first | rfl | omega)
    replace A6 := A6.keep K (ninS ne nin0)
    replace Y : n0 ≤ h13.size := Nat.le_trans Y K.1
    refine own_aload G13 at_137 rfl rfl ?_
    show ownGo _ _ _ _ _ _ _ T13 139 #[.val (.long q1), .second, .val (.long q2), .second, .val (.long q3), .second, .val (.long q4), .second, .val (.int p5), .val (.int (0 : Int32)), .val (.ref b6), .val (.ref b7)] [(.ref b7)]
    refine own_iconst G13 at_139 ?_
    show ownGo _ _ _ _ _ _ _ T13 140 #[.val (.long q1), .second, .val (.long q2), .second, .val (.long q3), .second, .val (.long q4), .second, .val (.int p5), .val (.int (0 : Int32)), .val (.ref b6), .val (.ref b7)] [(.int (0 : Int32)), (.ref b7)]
    refine own_iconst G13 at_140 ?_
    show ownGo _ _ _ _ _ _ _ T13 141 #[.val (.long q1), .second, .val (.long q2), .second, .val (.long q3), .second, .val (.long q4), .second, .val (.int p5), .val (.int (0 : Int32)), .val (.ref b6), .val (.ref b7)] [(.int (2 : Int32)), (.int (0 : Int32)), (.ref b7)]
    refine own_callS G13 at_141 (y := (⟨"org/matchwright/InstantiationSortNewestFirstPinLaw", "cx", "([JII)V"⟩ : MethodName)) (hw _ (List.mem_of_getElem? (i := 2) rfl)) (hw _ (List.mem_of_getElem? (i := 3) rfl)) (hw _ (List.mem_of_getElem? (i := 4) rfl)) (hw _ (List.mem_of_getElem? (i := 5) rfl)) (by decide) (argsL := [(.ref b7), (.int (0 : Int32)), (.int (2 : Int32))]) (rest := []) (rmCx l Z a0 hw b7 _ _ (ownT u0 v0 u1 v1) 0 2 h13 n0 Y A7 (by decide) (by decide) rfl rfl f2) rfl rfl rfl (lenOf pd_0 rfl) (W := 0) (Nat.le_of_eq rfl) (by decide) (by decide) (by decide) (by decide) ?_
    intro v14 T14 h14 hq14 G14
    obtain ⟨rfl, K, B⟩ := hq14
    show ownGo _ _ _ _ _ _ _ T14 144 #[.val (.long q1), .second, .val (.long q2), .second, .val (.long q3), .second, .val (.long q4), .second, .val (.int p5), .val (.int (0 : Int32)), .val (.ref b6), .val (.ref b7)] []
    obtain ⟨u2, v2, R2, r1, r2⟩ := own_pair u0 u1
    replace A7 : ownArr Z h14 b7 .long 4 (fun j => .long (ownT u2 v0 v2 v1 j)) := B.congr fun j hj => by
      congr 1
      rw [← r1, ← r2]
      by_cases q : u0 < u1
      · simp only [ownCx, ownT, if_pos q]
        all_goals (rcases j with _ | _ | _ | _ | j <;> first | rfl | omega)
      · simp only [ownCx, ownT, if_neg q]
        all_goals (rcases j with _ | _ | _ | _ | j <;> first | rfl | omega)
    replace A6 := A6.keep K (ninS ne nin0)
    replace Y : n0 ≤ h14.size := Nat.le_trans Y K.1
    refine own_aload G14 at_144 rfl rfl ?_
    show ownGo _ _ _ _ _ _ _ T14 146 #[.val (.long q1), .second, .val (.long q2), .second, .val (.long q3), .second, .val (.long q4), .second, .val (.int p5), .val (.int (0 : Int32)), .val (.ref b6), .val (.ref b7)] [(.ref b7)]
    refine own_iconst G14 at_146 ?_
    show ownGo _ _ _ _ _ _ _ T14 147 #[.val (.long q1), .second, .val (.long q2), .second, .val (.long q3), .second, .val (.long q4), .second, .val (.int p5), .val (.int (0 : Int32)), .val (.ref b6), .val (.ref b7)] [(.int (1 : Int32)), (.ref b7)]
    refine own_iconst G14 at_147 ?_
    show ownGo _ _ _ _ _ _ _ T14 148 #[.val (.long q1), .second, .val (.long q2), .second, .val (.long q3), .second, .val (.long q4), .second, .val (.int p5), .val (.int (0 : Int32)), .val (.ref b6), .val (.ref b7)] [(.int (3 : Int32)), (.int (1 : Int32)), (.ref b7)]
    refine own_callS G14 at_148 (y := (⟨"org/matchwright/InstantiationSortNewestFirstPinLaw", "cx", "([JII)V"⟩ : MethodName)) (hw _ (List.mem_of_getElem? (i := 2) rfl)) (hw _ (List.mem_of_getElem? (i := 3) rfl)) (hw _ (List.mem_of_getElem? (i := 4) rfl)) (hw _ (List.mem_of_getElem? (i := 5) rfl)) (by decide) (argsL := [(.ref b7), (.int (1 : Int32)), (.int (3 : Int32))]) (rest := []) (rmCx l Z a0 hw b7 _ _ (ownT u2 v0 v2 v1) 1 3 h14 n0 Y A7 (by decide) (by decide) rfl rfl f2) rfl rfl rfl (lenOf pd_0 rfl) (W := 0) (Nat.le_of_eq rfl) (by decide) (by decide) (by decide) (by decide) ?_
    intro v15 T15 h15 hq15 G15
    obtain ⟨rfl, K, B⟩ := hq15
    show ownGo _ _ _ _ _ _ _ T15 151 #[.val (.long q1), .second, .val (.long q2), .second, .val (.long q3), .second, .val (.long q4), .second, .val (.int p5), .val (.int (0 : Int32)), .val (.ref b6), .val (.ref b7)] []
    obtain ⟨u3, v3, R3, r1, r2⟩ := own_pair v0 v1
    replace A7 : ownArr Z h15 b7 .long 4 (fun j => .long (ownT u2 u3 v2 v3 j)) := B.congr fun j hj => by
      congr 1
      rw [← r1, ← r2]
      by_cases q : v0 < v1
      · simp only [ownCx, ownT, if_pos q]
        all_goals (rcases j with _ | _ | _ | _ | j <;> first | rfl | omega)
      · simp only [ownCx, ownT, if_neg q]
        all_goals (rcases j with _ | _ | _ | _ | j <;> first | rfl | omega)
    replace A6 := A6.keep K (ninS ne nin0)
    replace Y : n0 ≤ h15.size := Nat.le_trans Y K.1
    refine own_aload G15 at_151 rfl rfl ?_
    show ownGo _ _ _ _ _ _ _ T15 153 #[.val (.long q1), .second, .val (.long q2), .second, .val (.long q3), .second, .val (.long q4), .second, .val (.int p5), .val (.int (0 : Int32)), .val (.ref b6), .val (.ref b7)] [(.ref b7)]
    refine own_iconst G15 at_153 ?_
    show ownGo _ _ _ _ _ _ _ T15 154 #[.val (.long q1), .second, .val (.long q2), .second, .val (.long q3), .second, .val (.long q4), .second, .val (.int p5), .val (.int (0 : Int32)), .val (.ref b6), .val (.ref b7)] [(.int (1 : Int32)), (.ref b7)]
    refine own_iconst G15 at_154 ?_
    show ownGo _ _ _ _ _ _ _ T15 155 #[.val (.long q1), .second, .val (.long q2), .second, .val (.long q3), .second, .val (.long q4), .second, .val (.int p5), .val (.int (0 : Int32)), .val (.ref b6), .val (.ref b7)] [(.int (2 : Int32)), (.int (1 : Int32)), (.ref b7)]
    refine own_callS G15 at_155 (y := (⟨"org/matchwright/InstantiationSortNewestFirstPinLaw", "cx", "([JII)V"⟩ : MethodName)) (hw _ (List.mem_of_getElem? (i := 2) rfl)) (hw _ (List.mem_of_getElem? (i := 3) rfl)) (hw _ (List.mem_of_getElem? (i := 4) rfl)) (hw _ (List.mem_of_getElem? (i := 5) rfl)) (by decide) (argsL := [(.ref b7), (.int (1 : Int32)), (.int (2 : Int32))]) (rest := []) (rmCx l Z a0 hw b7 _ _ (ownT u2 u3 v2 v3) 1 2 h15 n0 Y A7 (by decide) (by decide) rfl rfl f2) rfl rfl rfl (lenOf pd_0 rfl) (W := 0) (Nat.le_of_eq rfl) (by decide) (by decide) (by decide) (by decide) ?_
    intro v16 T16 h16 hq16 G16
    obtain ⟨rfl, K, B⟩ := hq16
    show ownGo _ _ _ _ _ _ _ T16 158 #[.val (.long q1), .second, .val (.long q2), .second, .val (.long q3), .second, .val (.long q4), .second, .val (.int p5), .val (.int (0 : Int32)), .val (.ref b6), .val (.ref b7)] []
    obtain ⟨u4, v4, R4, r1, r2⟩ := own_pair u3 v2
    replace A7 : ownArr Z h16 b7 .long 4 (fun j => .long (ownT u2 u4 v4 v3 j)) := B.congr fun j hj => by
      congr 1
      rw [← r1, ← r2]
      by_cases q : u3 < v2
      · simp only [ownCx, ownT, if_pos q]
        all_goals (rcases j with _ | _ | _ | _ | j <;> first | rfl | omega)
      · simp only [ownCx, ownT, if_neg q]
        all_goals (rcases j with _ | _ | _ | _ | j <;> first | rfl | omega)
    replace A6 := A6.keep K (ninS ne nin0)
    replace Y : n0 ≤ h16.size := Nat.le_trans Y K.1
    refine own_aload G16 at_158 rfl rfl ?_
    show ownGo _ _ _ _ _ _ _ T16 160 #[.val (.long q1), .second, .val (.long q2), .second, .val (.long q3), .second, .val (.long q4), .second, .val (.int p5), .val (.int (0 : Int32)), .val (.ref b6), .val (.ref b7)] [(.ref b6)]
    refine own_callS G16 at_160 (y := (⟨"org/matchwright/Instantiation", "sortNewestFirst", "([J)V"⟩ : MethodName)) (hw _ (List.mem_of_getElem? (i := 6) rfl)) (hw _ (List.mem_of_getElem? (i := 7) rfl)) (hw _ (List.mem_of_getElem? (i := 8) rfl)) (hw _ (List.mem_of_getElem? (i := 9) rfl)) (by decide) (argsL := [(.ref b6)]) (rest := []) (rmSort l Z a0 hw b6 (ownT q1 q2 q3 q4) 0 h16 n0 Y A6 (by decide) f1) rfl rfl rfl (lenOf pd_1 rfl) (W := 0) (Nat.le_of_eq rfl) (by decide) (by decide) (by decide) (by decide) ?_
    intro v17 T17 h17 hq17 G17
    obtain ⟨rfl, K, B⟩ := hq17
    show ownGo _ _ _ _ _ _ _ T17 163 #[.val (.long q1), .second, .val (.long q2), .second, .val (.long q3), .second, .val (.long q4), .second, .val (.int p5), .val (.int (0 : Int32)), .val (.ref b6), .val (.ref b7)] []
    replace A7 := A7.keep K (ninS ne.symm nin0)
    replace A6 := B
    replace Y : n0 ≤ h17.size := Nat.le_trans Y K.1
    refine own_aload G17 at_163 rfl rfl ?_
    show ownGo _ _ _ _ _ _ _ T17 165 #[.val (.long q1), .second, .val (.long q2), .second, .val (.long q3), .second, .val (.long q4), .second, .val (.int p5), .val (.int (0 : Int32)), .val (.ref b6), .val (.ref b7)] [(.ref b6)]
    refine own_arraylength G17 at_165 A6 ?_
    show ownGo _ _ _ _ _ _ _ T17 166 #[.val (.long q1), .second, .val (.long q2), .second, .val (.long q3), .second, .val (.long q4), .second, .val (.int p5), .val (.int (0 : Int32)), .val (.ref b6), .val (.ref b7)] [(.int (0 : Int32))]
    refine own_iload G17 at_166 rfl ?_
    show ownGo _ _ _ _ _ _ _ T17 168 #[.val (.long q1), .second, .val (.long q2), .second, .val (.long q3), .second, .val (.long q4), .second, .val (.int p5), .val (.int (0 : Int32)), .val (.ref b6), .val (.ref b7)] [(.int (0 : Int32)), (.int (0 : Int32))]
    refine own_icmp_ne G17 at_168 (pc' := 219) (by decide) (by decide) (fun hc => False.elim (hc rfl)) (fun hc => ?_)
    show ownGo _ _ _ _ _ _ _ T17 171 #[.val (.long q1), .second, .val (.long q2), .second, .val (.long q3), .second, .val (.long q4), .second, .val (.int p5), .val (.int (0 : Int32)), .val (.ref b6), .val (.ref b7)] []
    refine own_aload G17 at_171 rfl rfl ?_
    show ownGo _ _ _ _ _ _ _ T17 173 #[.val (.long q1), .second, .val (.long q2), .second, .val (.long q3), .second, .val (.long q4), .second, .val (.int p5), .val (.int (0 : Int32)), .val (.ref b6), .val (.ref b7)] [(.ref b6)]
    refine own_aload G17 at_173 rfl rfl ?_
    show ownGo _ _ _ _ _ _ _ T17 175 #[.val (.long q1), .second, .val (.long q2), .second, .val (.long q3), .second, .val (.long q4), .second, .val (.int p5), .val (.int (0 : Int32)), .val (.ref b6), .val (.ref b7)] [(.ref b7), (.ref b6)]
    refine own_iconst G17 at_175 ?_
    show ownGo _ _ _ _ _ _ _ T17 176 #[.val (.long q1), .second, .val (.long q2), .second, .val (.long q3), .second, .val (.long q4), .second, .val (.int p5), .val (.int (0 : Int32)), .val (.ref b6), .val (.ref b7)] [(.int (0 : Int32)), (.ref b7), (.ref b6)]
    refine own_callS G17 at_176 (y := (⟨"org/matchwright/InstantiationSortNewestFirstPinLaw", "same", "([J[JI)Z"⟩ : MethodName)) (hw _ (List.mem_of_getElem? (i := 10) rfl)) (hw _ (List.mem_of_getElem? (i := 11) rfl)) (hw _ (List.mem_of_getElem? (i := 4) rfl)) (hw _ (List.mem_of_getElem? (i := 12) rfl)) (by decide) (argsL := [(.ref b6), (.ref b7), (.int (0 : Int32))]) (rest := []) (rmSame l Z a0 hw b6 b7 _ (ownOuter (ownT q1 q2 q3 q4) (0 - 1) 1) (ownT u2 u4 v4 v3) 0 0 h17 n0 Y A6 A7 (by decide) (by decide) rfl (fun q => absurd q (by decide))) rfl rfl rfl (lenOf pd_2 rfl) (W := 0) (Nat.le_of_eq rfl) (by decide) (by decide) (by decide) (by decide) ?_
    intro v18 T18 h18 hq18 G18
    obtain ⟨rfl, rfl⟩ := hq18
    show ownGo _ _ _ _ _ _ _ T18 179 #[.val (.long q1), .second, .val (.long q2), .second, .val (.long q3), .second, .val (.long q4), .second, .val (.int p5), .val (.int (0 : Int32)), .val (.ref b6), .val (.ref b7)] [(.int (1 : Int32))]
    refine own_if_eq G18 at_179 (pc' := 219) (by decide) (by decide) (fun hc => False.elim (absurd hc (by decide))) (fun hc => ?_)
    show ownGo _ _ _ _ _ _ _ T18 182 #[.val (.long q1), .second, .val (.long q2), .second, .val (.long q3), .second, .val (.long q4), .second, .val (.int p5), .val (.int (0 : Int32)), .val (.ref b6), .val (.ref b7)] []
    refine own_aload G18 at_182 rfl rfl ?_
    show ownGo _ _ _ _ _ _ _ T18 184 #[.val (.long q1), .second, .val (.long q2), .second, .val (.long q3), .second, .val (.long q4), .second, .val (.int p5), .val (.int (0 : Int32)), .val (.ref b6), .val (.ref b7)] [(.ref b6)]
    refine own_aload G18 at_184 rfl rfl ?_
    show ownGo _ _ _ _ _ _ _ T18 186 #[.val (.long q1), .second, .val (.long q2), .second, .val (.long q3), .second, .val (.long q4), .second, .val (.int p5), .val (.int (0 : Int32)), .val (.ref b6), .val (.ref b7)] [(.ref b7), (.ref b6)]
    refine own_iconst G18 at_186 ?_
    show ownGo _ _ _ _ _ _ _ T18 187 #[.val (.long q1), .second, .val (.long q2), .second, .val (.long q3), .second, .val (.long q4), .second, .val (.int p5), .val (.int (0 : Int32)), .val (.ref b6), .val (.ref b7)] [(.int (1 : Int32)), (.ref b7), (.ref b6)]
    refine own_callS G18 at_187 (y := (⟨"org/matchwright/InstantiationSortNewestFirstPinLaw", "same", "([J[JI)Z"⟩ : MethodName)) (hw _ (List.mem_of_getElem? (i := 10) rfl)) (hw _ (List.mem_of_getElem? (i := 11) rfl)) (hw _ (List.mem_of_getElem? (i := 4) rfl)) (hw _ (List.mem_of_getElem? (i := 12) rfl)) (by decide) (argsL := [(.ref b6), (.ref b7), (.int (1 : Int32))]) (rest := []) (rmSame l Z a0 hw b6 b7 _ (ownOuter (ownT q1 q2 q3 q4) (0 - 1) 1) (ownT u2 u4 v4 v3) 0 1 h17 n0 Y A6 A7 (by decide) (by decide) rfl (fun q => absurd q (by decide))) rfl rfl rfl (lenOf pd_2 rfl) (W := 0) (Nat.le_of_eq rfl) (by decide) (by decide) (by decide) (by decide) ?_
    intro v19 T19 h19 hq19 G19
    obtain ⟨rfl, rfl⟩ := hq19
    show ownGo _ _ _ _ _ _ _ T19 190 #[.val (.long q1), .second, .val (.long q2), .second, .val (.long q3), .second, .val (.long q4), .second, .val (.int p5), .val (.int (0 : Int32)), .val (.ref b6), .val (.ref b7)] [(.int (1 : Int32))]
    refine own_if_eq G19 at_190 (pc' := 219) (by decide) (by decide) (fun hc => False.elim (absurd hc (by decide))) (fun hc => ?_)
    show ownGo _ _ _ _ _ _ _ T19 193 #[.val (.long q1), .second, .val (.long q2), .second, .val (.long q3), .second, .val (.long q4), .second, .val (.int p5), .val (.int (0 : Int32)), .val (.ref b6), .val (.ref b7)] []
    refine own_aload G19 at_193 rfl rfl ?_
    show ownGo _ _ _ _ _ _ _ T19 195 #[.val (.long q1), .second, .val (.long q2), .second, .val (.long q3), .second, .val (.long q4), .second, .val (.int p5), .val (.int (0 : Int32)), .val (.ref b6), .val (.ref b7)] [(.ref b6)]
    refine own_aload G19 at_195 rfl rfl ?_
    show ownGo _ _ _ _ _ _ _ T19 197 #[.val (.long q1), .second, .val (.long q2), .second, .val (.long q3), .second, .val (.long q4), .second, .val (.int p5), .val (.int (0 : Int32)), .val (.ref b6), .val (.ref b7)] [(.ref b7), (.ref b6)]
    refine own_iconst G19 at_197 ?_
    show ownGo _ _ _ _ _ _ _ T19 198 #[.val (.long q1), .second, .val (.long q2), .second, .val (.long q3), .second, .val (.long q4), .second, .val (.int p5), .val (.int (0 : Int32)), .val (.ref b6), .val (.ref b7)] [(.int (2 : Int32)), (.ref b7), (.ref b6)]
    refine own_callS G19 at_198 (y := (⟨"org/matchwright/InstantiationSortNewestFirstPinLaw", "same", "([J[JI)Z"⟩ : MethodName)) (hw _ (List.mem_of_getElem? (i := 10) rfl)) (hw _ (List.mem_of_getElem? (i := 11) rfl)) (hw _ (List.mem_of_getElem? (i := 4) rfl)) (hw _ (List.mem_of_getElem? (i := 12) rfl)) (by decide) (argsL := [(.ref b6), (.ref b7), (.int (2 : Int32))]) (rest := []) (rmSame l Z a0 hw b6 b7 _ (ownOuter (ownT q1 q2 q3 q4) (0 - 1) 1) (ownT u2 u4 v4 v3) 0 2 h17 n0 Y A6 A7 (by decide) (by decide) rfl (fun q => absurd q (by decide))) rfl rfl rfl (lenOf pd_2 rfl) (W := 0) (Nat.le_of_eq rfl) (by decide) (by decide) (by decide) (by decide) ?_
    intro v20 T20 h20 hq20 G20
    obtain ⟨rfl, rfl⟩ := hq20
    show ownGo _ _ _ _ _ _ _ T20 201 #[.val (.long q1), .second, .val (.long q2), .second, .val (.long q3), .second, .val (.long q4), .second, .val (.int p5), .val (.int (0 : Int32)), .val (.ref b6), .val (.ref b7)] [(.int (1 : Int32))]
    refine own_if_eq G20 at_201 (pc' := 219) (by decide) (by decide) (fun hc => False.elim (absurd hc (by decide))) (fun hc => ?_)
    show ownGo _ _ _ _ _ _ _ T20 204 #[.val (.long q1), .second, .val (.long q2), .second, .val (.long q3), .second, .val (.long q4), .second, .val (.int p5), .val (.int (0 : Int32)), .val (.ref b6), .val (.ref b7)] []
    refine own_aload G20 at_204 rfl rfl ?_
    show ownGo _ _ _ _ _ _ _ T20 206 #[.val (.long q1), .second, .val (.long q2), .second, .val (.long q3), .second, .val (.long q4), .second, .val (.int p5), .val (.int (0 : Int32)), .val (.ref b6), .val (.ref b7)] [(.ref b6)]
    refine own_aload G20 at_206 rfl rfl ?_
    show ownGo _ _ _ _ _ _ _ T20 208 #[.val (.long q1), .second, .val (.long q2), .second, .val (.long q3), .second, .val (.long q4), .second, .val (.int p5), .val (.int (0 : Int32)), .val (.ref b6), .val (.ref b7)] [(.ref b7), (.ref b6)]
    refine own_iconst G20 at_208 ?_
    show ownGo _ _ _ _ _ _ _ T20 209 #[.val (.long q1), .second, .val (.long q2), .second, .val (.long q3), .second, .val (.long q4), .second, .val (.int p5), .val (.int (0 : Int32)), .val (.ref b6), .val (.ref b7)] [(.int (3 : Int32)), (.ref b7), (.ref b6)]
    refine own_callS G20 at_209 (y := (⟨"org/matchwright/InstantiationSortNewestFirstPinLaw", "same", "([J[JI)Z"⟩ : MethodName)) (hw _ (List.mem_of_getElem? (i := 10) rfl)) (hw _ (List.mem_of_getElem? (i := 11) rfl)) (hw _ (List.mem_of_getElem? (i := 4) rfl)) (hw _ (List.mem_of_getElem? (i := 12) rfl)) (by decide) (argsL := [(.ref b6), (.ref b7), (.int (3 : Int32))]) (rest := []) (rmSame l Z a0 hw b6 b7 _ (ownOuter (ownT q1 q2 q3 q4) (0 - 1) 1) (ownT u2 u4 v4 v3) 0 3 h17 n0 Y A6 A7 (by decide) (by decide) rfl (fun q => absurd q (by decide))) rfl rfl rfl (lenOf pd_2 rfl) (W := 0) (Nat.le_of_eq rfl) (by decide) (by decide) (by decide) (by decide) ?_
    intro v21 T21 h21 hq21 G21
    obtain ⟨rfl, rfl⟩ := hq21
    show ownGo _ _ _ _ _ _ _ T21 212 #[.val (.long q1), .second, .val (.long q2), .second, .val (.long q3), .second, .val (.long q4), .second, .val (.int p5), .val (.int (0 : Int32)), .val (.ref b6), .val (.ref b7)] [(.int (1 : Int32))]
    refine own_if_eq G21 at_212 (pc' := 219) (by decide) (by decide) (fun hc => False.elim (absurd hc (by decide))) (fun hc => ?_)
    show ownGo _ _ _ _ _ _ _ T21 215 #[.val (.long q1), .second, .val (.long q2), .second, .val (.long q3), .second, .val (.long q4), .second, .val (.int p5), .val (.int (0 : Int32)), .val (.ref b6), .val (.ref b7)] []
    refine own_iconst G21 at_215 ?_
    show ownGo _ _ _ _ _ _ _ T21 216 #[.val (.long q1), .second, .val (.long q2), .second, .val (.long q3), .second, .val (.long q4), .second, .val (.int p5), .val (.int (0 : Int32)), .val (.ref b6), .val (.ref b7)] [(.int (1 : Int32))]
    refine own_goto G21 at_216 (pc' := 220) (by decide) (by decide) ?_
    show ownGo _ _ _ _ _ _ _ T21 220 #[.val (.long q1), .second, .val (.long q2), .second, .val (.long q3), .second, .val (.long q4), .second, .val (.int p5), .val (.int (0 : Int32)), .val (.ref b6), .val (.ref b7)] [(.int (1 : Int32))]
    exact own_zreturn G21 at_220 rfl (by decide) (by decide) rfl
  · rw [e]
    show ownGo _ _ _ _ _ _ _ T0 7 #[.val (.long q1), .second, .val (.long q2), .second, .val (.long q3), .second, .val (.long q4), .second, .val (.int p5), .unset, .unset, .unset] [(.int (1 : Int32))]
    refine own_istore G0 at_7 (L' := #[.val (.long q1), .second, .val (.long q2), .second, .val (.long q3), .second, .val (.long q4), .second, .val (.int p5), .val (.int (1 : Int32)), .unset, .unset]) rfl ?_
    show ownGo _ _ _ _ _ _ _ T0 9 #[.val (.long q1), .second, .val (.long q2), .second, .val (.long q3), .second, .val (.long q4), .second, .val (.int p5), .val (.int (1 : Int32)), .unset, .unset] []
    refine own_iload G0 at_9 rfl ?_
    show ownGo _ _ _ _ _ _ _ T0 11 #[.val (.long q1), .second, .val (.long q2), .second, .val (.long q3), .second, .val (.long q4), .second, .val (.int p5), .val (.int (1 : Int32)), .unset, .unset] [(.int (1 : Int32))]
    refine own_newarr G0 at_11 (hw _ (List.mem_of_getElem? (i := 0) rfl)) (by decide) (k := 1) (cap := 1) (by decide) (by decide) (by decide) (by decide) (by decide) ?_
    intro T22 h22 b22 g22 E22 A22 G22
    replace A22 : ownArr Z h22 b22 .long 1 (fun _ => .long 0) := A22
    show ownGo _ _ _ _ _ _ _ T22 13 #[.val (.long q1), .second, .val (.long q2), .second, .val (.long q3), .second, .val (.long q4), .second, .val (.int p5), .val (.int (1 : Int32)), .unset, .unset] [(.ref b22)]
    have f1 : n0 ≤ b22 := Nat.le_trans Z0 (Nat.le_of_eq g22.symm)
    have Y : n0 ≤ h22.size := Nat.le_trans Z0 E22.1
    refine own_astore G22 at_13 (L' := #[.val (.long q1), .second, .val (.long q2), .second, .val (.long q3), .second, .val (.long q4), .second, .val (.int p5), .val (.int (1 : Int32)), .val (.ref b22), .unset]) rfl rfl ?_
    show ownGo _ _ _ _ _ _ _ T22 15 #[.val (.long q1), .second, .val (.long q2), .second, .val (.long q3), .second, .val (.long q4), .second, .val (.int p5), .val (.int (1 : Int32)), .val (.ref b22), .unset] []
    refine own_iload G22 at_15 rfl ?_
    show ownGo _ _ _ _ _ _ _ T22 17 #[.val (.long q1), .second, .val (.long q2), .second, .val (.long q3), .second, .val (.long q4), .second, .val (.int p5), .val (.int (1 : Int32)), .val (.ref b22), .unset] [(.int (1 : Int32))]
    refine own_if_le G22 at_17 (pc' := 25) (by decide) (by decide) (fun hc => False.elim (absurd hc (by decide))) (fun hc => ?_)
    show ownGo _ _ _ _ _ _ _ T22 20 #[.val (.long q1), .second, .val (.long q2), .second, .val (.long q3), .second, .val (.long q4), .second, .val (.int p5), .val (.int (1 : Int32)), .val (.ref b22), .unset] []
    refine own_aload G22 at_20 rfl rfl ?_
    show ownGo _ _ _ _ _ _ _ T22 22 #[.val (.long q1), .second, .val (.long q2), .second, .val (.long q3), .second, .val (.long q4), .second, .val (.int p5), .val (.int (1 : Int32)), .val (.ref b22), .unset] [(.ref b22)]
    refine own_iconst G22 at_22 ?_
    show ownGo _ _ _ _ _ _ _ T22 23 #[.val (.long q1), .second, .val (.long q2), .second, .val (.long q3), .second, .val (.long q4), .second, .val (.int p5), .val (.int (1 : Int32)), .val (.ref b22), .unset] [(.int (0 : Int32)), (.ref b22)]
    refine own_lloadN G22 at_23 rfl ?_
    show ownGo _ _ _ _ _ _ _ T22 24 #[.val (.long q1), .second, .val (.long q2), .second, .val (.long q3), .second, .val (.long q4), .second, .val (.int p5), .val (.int (1 : Int32)), .val (.ref b22), .unset] [(.long q1), (.int (0 : Int32)), (.ref b22)]
    refine own_lastore G22 at_24 A22 (i := 0) (by decide) f1 ?_
    intro T23 h23 W23 G23
    show ownGo _ _ _ _ _ _ _ T23 25 #[.val (.long q1), .second, .val (.long q2), .second, .val (.long q3), .second, .val (.long q4), .second, .val (.int p5), .val (.int (1 : Int32)), .val (.ref b22), .unset] []
    replace A22 := A22.same W23
    replace Y : n0 ≤ h23.size := by rw [W23.size]; exact Y
    refine own_iload G23 at_25 rfl ?_
    show ownGo _ _ _ _ _ _ _ T23 27 #[.val (.long q1), .second, .val (.long q2), .second, .val (.long q3), .second, .val (.long q4), .second, .val (.int p5), .val (.int (1 : Int32)), .val (.ref b22), .unset] [(.int (1 : Int32))]
    refine own_iconst G23 at_27 ?_
    show ownGo _ _ _ _ _ _ _ T23 28 #[.val (.long q1), .second, .val (.long q2), .second, .val (.long q3), .second, .val (.long q4), .second, .val (.int p5), .val (.int (1 : Int32)), .val (.ref b22), .unset] [(.int (1 : Int32)), (.int (1 : Int32))]
    refine own_icmp_le G23 at_28 (pc' := 36) (by decide) (by decide) (fun hc => ?_) (fun hc => False.elim (absurd hc (by decide)))
    show ownGo _ _ _ _ _ _ _ T23 36 #[.val (.long q1), .second, .val (.long q2), .second, .val (.long q3), .second, .val (.long q4), .second, .val (.int p5), .val (.int (1 : Int32)), .val (.ref b22), .unset] []
    refine own_iload G23 at_36 rfl ?_
    show ownGo _ _ _ _ _ _ _ T23 38 #[.val (.long q1), .second, .val (.long q2), .second, .val (.long q3), .second, .val (.long q4), .second, .val (.int p5), .val (.int (1 : Int32)), .val (.ref b22), .unset] [(.int (1 : Int32))]
    refine own_iconst G23 at_38 ?_
    show ownGo _ _ _ _ _ _ _ T23 39 #[.val (.long q1), .second, .val (.long q2), .second, .val (.long q3), .second, .val (.long q4), .second, .val (.int p5), .val (.int (1 : Int32)), .val (.ref b22), .unset] [(.int (2 : Int32)), (.int (1 : Int32))]
    refine own_icmp_le G23 at_39 (pc' := 48) (by decide) (by decide) (fun hc => ?_) (fun hc => False.elim (absurd hc (by decide)))
    show ownGo _ _ _ _ _ _ _ T23 48 #[.val (.long q1), .second, .val (.long q2), .second, .val (.long q3), .second, .val (.long q4), .second, .val (.int p5), .val (.int (1 : Int32)), .val (.ref b22), .unset] []
    refine own_iload G23 at_48 rfl ?_
    show ownGo _ _ _ _ _ _ _ T23 50 #[.val (.long q1), .second, .val (.long q2), .second, .val (.long q3), .second, .val (.long q4), .second, .val (.int p5), .val (.int (1 : Int32)), .val (.ref b22), .unset] [(.int (1 : Int32))]
    refine own_iconst G23 at_50 ?_
    show ownGo _ _ _ _ _ _ _ T23 51 #[.val (.long q1), .second, .val (.long q2), .second, .val (.long q3), .second, .val (.long q4), .second, .val (.int p5), .val (.int (1 : Int32)), .val (.ref b22), .unset] [(.int (3 : Int32)), (.int (1 : Int32))]
    refine own_icmp_le G23 at_51 (pc' := 60) (by decide) (by decide) (fun hc => ?_) (fun hc => False.elim (absurd hc (by decide)))
    show ownGo _ _ _ _ _ _ _ T23 60 #[.val (.long q1), .second, .val (.long q2), .second, .val (.long q3), .second, .val (.long q4), .second, .val (.int p5), .val (.int (1 : Int32)), .val (.ref b22), .unset] []
    refine own_iconst G23 at_60 ?_
    show ownGo _ _ _ _ _ _ _ T23 61 #[.val (.long q1), .second, .val (.long q2), .second, .val (.long q3), .second, .val (.long q4), .second, .val (.int p5), .val (.int (1 : Int32)), .val (.ref b22), .unset] [(.int (4 : Int32))]
    replace A22 : ownArr Z h23 b22 .long 1 (fun j => .long (ownT q1 q2 q3 q4 j)) := A22.congr fun j hj => by
      rcases j with _ | j
      · rfl
      · omega
    refine own_newarr G23 at_61 (hw _ (List.mem_of_getElem? (i := 0) rfl)) (by decide) (k := 4) (cap := 4) (by decide) (by decide) (by decide) (by decide) (by decide) ?_
    intro T24 h24 b24 g24 E24 A24 G24
    replace A24 : ownArr Z h24 b24 .long 4 (fun _ => .long 0) := A24
    show ownGo _ _ _ _ _ _ _ T24 63 #[.val (.long q1), .second, .val (.long q2), .second, .val (.long q3), .second, .val (.long q4), .second, .val (.int p5), .val (.int (1 : Int32)), .val (.ref b22), .unset] [(.ref b24)]
    have f2 : n0 ≤ b24 := Nat.le_trans Y (Nat.le_of_eq g24.symm)
    have ne : b22 ≠ b24 := Nat.ne_of_lt (Nat.lt_of_lt_of_le A22.lt (Nat.le_of_eq g24.symm))
    replace A22 := A22.ext E24
    replace Y : n0 ≤ h24.size := Nat.le_trans Y E24.1
    refine own_astore G24 at_63 (L' := #[.val (.long q1), .second, .val (.long q2), .second, .val (.long q3), .second, .val (.long q4), .second, .val (.int p5), .val (.int (1 : Int32)), .val (.ref b22), .val (.ref b24)]) rfl rfl ?_
    show ownGo _ _ _ _ _ _ _ T24 65 #[.val (.long q1), .second, .val (.long q2), .second, .val (.long q3), .second, .val (.long q4), .second, .val (.int p5), .val (.int (1 : Int32)), .val (.ref b22), .val (.ref b24)] []
    refine own_aload G24 at_65 rfl rfl ?_
    show ownGo _ _ _ _ _ _ _ T24 67 #[.val (.long q1), .second, .val (.long q2), .second, .val (.long q3), .second, .val (.long q4), .second, .val (.int p5), .val (.int (1 : Int32)), .val (.ref b22), .val (.ref b24)] [(.ref b24)]
    refine own_iconst G24 at_67 ?_
    show ownGo _ _ _ _ _ _ _ T24 68 #[.val (.long q1), .second, .val (.long q2), .second, .val (.long q3), .second, .val (.long q4), .second, .val (.int p5), .val (.int (1 : Int32)), .val (.ref b22), .val (.ref b24)] [(.int (0 : Int32)), (.ref b24)]
    refine own_lloadN G24 at_68 rfl ?_
    show ownGo _ _ _ _ _ _ _ T24 69 #[.val (.long q1), .second, .val (.long q2), .second, .val (.long q3), .second, .val (.long q4), .second, .val (.int p5), .val (.int (1 : Int32)), .val (.ref b22), .val (.ref b24)] [(.long q1), (.int (0 : Int32)), (.ref b24)]
    refine own_lastore G24 at_69 A24 (i := 0) (by decide) f2 ?_
    intro T25 h25 W25 G25
    show ownGo _ _ _ _ _ _ _ T25 70 #[.val (.long q1), .second, .val (.long q2), .second, .val (.long q3), .second, .val (.long q4), .second, .val (.int p5), .val (.int (1 : Int32)), .val (.ref b22), .val (.ref b24)] []
    replace A24 := A24.same W25
    replace A22 := A22.other W25 ne
    replace Y : n0 ≤ h25.size := by rw [W25.size]; exact Y
    refine own_aload G25 at_70 rfl rfl ?_
    show ownGo _ _ _ _ _ _ _ T25 72 #[.val (.long q1), .second, .val (.long q2), .second, .val (.long q3), .second, .val (.long q4), .second, .val (.int p5), .val (.int (1 : Int32)), .val (.ref b22), .val (.ref b24)] [(.ref b24)]
    refine own_iconst G25 at_72 ?_
    show ownGo _ _ _ _ _ _ _ T25 73 #[.val (.long q1), .second, .val (.long q2), .second, .val (.long q3), .second, .val (.long q4), .second, .val (.int p5), .val (.int (1 : Int32)), .val (.ref b22), .val (.ref b24)] [(.int (1 : Int32)), (.ref b24)]
    refine own_iload G25 at_73 rfl ?_
    show ownGo _ _ _ _ _ _ _ T25 75 #[.val (.long q1), .second, .val (.long q2), .second, .val (.long q3), .second, .val (.long q4), .second, .val (.int p5), .val (.int (1 : Int32)), .val (.ref b22), .val (.ref b24)] [(.int (1 : Int32)), (.int (1 : Int32)), (.ref b24)]
    refine own_iconst G25 at_75 ?_
    show ownGo _ _ _ _ _ _ _ T25 76 #[.val (.long q1), .second, .val (.long q2), .second, .val (.long q3), .second, .val (.long q4), .second, .val (.int p5), .val (.int (1 : Int32)), .val (.ref b22), .val (.ref b24)] [(.int (1 : Int32)), (.int (1 : Int32)), (.int (1 : Int32)), (.ref b24)]
    refine own_icmp_le G25 at_76 (pc' := 83) (by decide) (by decide) (fun hc => ?_) (fun hc => False.elim (absurd hc (by decide)))
    show ownGo _ _ _ _ _ _ _ T25 83 #[.val (.long q1), .second, .val (.long q2), .second, .val (.long q3), .second, .val (.long q4), .second, .val (.int p5), .val (.int (1 : Int32)), .val (.ref b22), .val (.ref b24)] [(.int (1 : Int32)), (.ref b24)]
    refine own_ldc2 G25 at_83 (hw _ (List.mem_of_getElem? (i := 1) rfl)) ?_
    show ownGo _ _ _ _ _ _ _ T25 86 #[.val (.long q1), .second, .val (.long q2), .second, .val (.long q3), .second, .val (.long q4), .second, .val (.int p5), .val (.int (1 : Int32)), .val (.ref b22), .val (.ref b24)] [(.long (-9223372036854775808 : Int64)), (.int (1 : Int32)), (.ref b24)]
    refine own_lastore G25 at_86 A24 (i := 1) (by decide) f2 ?_
    intro T26 h26 W26 G26
    show ownGo _ _ _ _ _ _ _ T26 87 #[.val (.long q1), .second, .val (.long q2), .second, .val (.long q3), .second, .val (.long q4), .second, .val (.int p5), .val (.int (1 : Int32)), .val (.ref b22), .val (.ref b24)] []
    replace A24 := A24.same W26
    replace A22 := A22.other W26 ne
    replace Y : n0 ≤ h26.size := by rw [W26.size]; exact Y
    refine own_aload G26 at_87 rfl rfl ?_
    show ownGo _ _ _ _ _ _ _ T26 89 #[.val (.long q1), .second, .val (.long q2), .second, .val (.long q3), .second, .val (.long q4), .second, .val (.int p5), .val (.int (1 : Int32)), .val (.ref b22), .val (.ref b24)] [(.ref b24)]
    refine own_iconst G26 at_89 ?_
    show ownGo _ _ _ _ _ _ _ T26 90 #[.val (.long q1), .second, .val (.long q2), .second, .val (.long q3), .second, .val (.long q4), .second, .val (.int p5), .val (.int (1 : Int32)), .val (.ref b22), .val (.ref b24)] [(.int (2 : Int32)), (.ref b24)]
    refine own_iload G26 at_90 rfl ?_
    show ownGo _ _ _ _ _ _ _ T26 92 #[.val (.long q1), .second, .val (.long q2), .second, .val (.long q3), .second, .val (.long q4), .second, .val (.int p5), .val (.int (1 : Int32)), .val (.ref b22), .val (.ref b24)] [(.int (1 : Int32)), (.int (2 : Int32)), (.ref b24)]
    refine own_iconst G26 at_92 ?_
    show ownGo _ _ _ _ _ _ _ T26 93 #[.val (.long q1), .second, .val (.long q2), .second, .val (.long q3), .second, .val (.long q4), .second, .val (.int p5), .val (.int (1 : Int32)), .val (.ref b22), .val (.ref b24)] [(.int (2 : Int32)), (.int (1 : Int32)), (.int (2 : Int32)), (.ref b24)]
    refine own_icmp_le G26 at_93 (pc' := 101) (by decide) (by decide) (fun hc => ?_) (fun hc => False.elim (absurd hc (by decide)))
    show ownGo _ _ _ _ _ _ _ T26 101 #[.val (.long q1), .second, .val (.long q2), .second, .val (.long q3), .second, .val (.long q4), .second, .val (.int p5), .val (.int (1 : Int32)), .val (.ref b22), .val (.ref b24)] [(.int (2 : Int32)), (.ref b24)]
    refine own_ldc2 G26 at_101 (hw _ (List.mem_of_getElem? (i := 1) rfl)) ?_
    show ownGo _ _ _ _ _ _ _ T26 104 #[.val (.long q1), .second, .val (.long q2), .second, .val (.long q3), .second, .val (.long q4), .second, .val (.int p5), .val (.int (1 : Int32)), .val (.ref b22), .val (.ref b24)] [(.long (-9223372036854775808 : Int64)), (.int (2 : Int32)), (.ref b24)]
    refine own_lastore G26 at_104 A24 (i := 2) (by decide) f2 ?_
    intro T27 h27 W27 G27
    show ownGo _ _ _ _ _ _ _ T27 105 #[.val (.long q1), .second, .val (.long q2), .second, .val (.long q3), .second, .val (.long q4), .second, .val (.int p5), .val (.int (1 : Int32)), .val (.ref b22), .val (.ref b24)] []
    replace A24 := A24.same W27
    replace A22 := A22.other W27 ne
    replace Y : n0 ≤ h27.size := by rw [W27.size]; exact Y
    refine own_aload G27 at_105 rfl rfl ?_
    show ownGo _ _ _ _ _ _ _ T27 107 #[.val (.long q1), .second, .val (.long q2), .second, .val (.long q3), .second, .val (.long q4), .second, .val (.int p5), .val (.int (1 : Int32)), .val (.ref b22), .val (.ref b24)] [(.ref b24)]
    refine own_iconst G27 at_107 ?_
    show ownGo _ _ _ _ _ _ _ T27 108 #[.val (.long q1), .second, .val (.long q2), .second, .val (.long q3), .second, .val (.long q4), .second, .val (.int p5), .val (.int (1 : Int32)), .val (.ref b22), .val (.ref b24)] [(.int (3 : Int32)), (.ref b24)]
    refine own_iload G27 at_108 rfl ?_
    show ownGo _ _ _ _ _ _ _ T27 110 #[.val (.long q1), .second, .val (.long q2), .second, .val (.long q3), .second, .val (.long q4), .second, .val (.int p5), .val (.int (1 : Int32)), .val (.ref b22), .val (.ref b24)] [(.int (1 : Int32)), (.int (3 : Int32)), (.ref b24)]
    refine own_iconst G27 at_110 ?_
    show ownGo _ _ _ _ _ _ _ T27 111 #[.val (.long q1), .second, .val (.long q2), .second, .val (.long q3), .second, .val (.long q4), .second, .val (.int p5), .val (.int (1 : Int32)), .val (.ref b22), .val (.ref b24)] [(.int (3 : Int32)), (.int (1 : Int32)), (.int (3 : Int32)), (.ref b24)]
    refine own_icmp_le G27 at_111 (pc' := 119) (by decide) (by decide) (fun hc => ?_) (fun hc => False.elim (absurd hc (by decide)))
    show ownGo _ _ _ _ _ _ _ T27 119 #[.val (.long q1), .second, .val (.long q2), .second, .val (.long q3), .second, .val (.long q4), .second, .val (.int p5), .val (.int (1 : Int32)), .val (.ref b22), .val (.ref b24)] [(.int (3 : Int32)), (.ref b24)]
    refine own_ldc2 G27 at_119 (hw _ (List.mem_of_getElem? (i := 1) rfl)) ?_
    show ownGo _ _ _ _ _ _ _ T27 122 #[.val (.long q1), .second, .val (.long q2), .second, .val (.long q3), .second, .val (.long q4), .second, .val (.int p5), .val (.int (1 : Int32)), .val (.ref b22), .val (.ref b24)] [(.long (-9223372036854775808 : Int64)), (.int (3 : Int32)), (.ref b24)]
    refine own_lastore G27 at_122 A24 (i := 3) (by decide) f2 ?_
    intro T28 h28 W28 G28
    show ownGo _ _ _ _ _ _ _ T28 123 #[.val (.long q1), .second, .val (.long q2), .second, .val (.long q3), .second, .val (.long q4), .second, .val (.int p5), .val (.int (1 : Int32)), .val (.ref b22), .val (.ref b24)] []
    replace A24 := A24.same W28
    replace A22 := A22.other W28 ne
    replace Y : n0 ≤ h28.size := by rw [W28.size]; exact Y
    replace A24 : ownArr Z h28 b24 .long 4 (fun j => .long (ownT q1 (-9223372036854775808 : Int64) (-9223372036854775808 : Int64) (-9223372036854775808 : Int64) j)) := A24.congr fun j hj => by
      rcases j with _ | _ | _ | _ | j
      · rfl
      · rfl
      · rfl
      · rfl
      · omega
    refine own_aload G28 at_123 rfl rfl ?_
    show ownGo _ _ _ _ _ _ _ T28 125 #[.val (.long q1), .second, .val (.long q2), .second, .val (.long q3), .second, .val (.long q4), .second, .val (.int p5), .val (.int (1 : Int32)), .val (.ref b22), .val (.ref b24)] [(.ref b24)]
    refine own_iconst G28 at_125 ?_
    show ownGo _ _ _ _ _ _ _ T28 126 #[.val (.long q1), .second, .val (.long q2), .second, .val (.long q3), .second, .val (.long q4), .second, .val (.int p5), .val (.int (1 : Int32)), .val (.ref b22), .val (.ref b24)] [(.int (0 : Int32)), (.ref b24)]
    refine own_iconst G28 at_126 ?_
    show ownGo _ _ _ _ _ _ _ T28 127 #[.val (.long q1), .second, .val (.long q2), .second, .val (.long q3), .second, .val (.long q4), .second, .val (.int p5), .val (.int (1 : Int32)), .val (.ref b22), .val (.ref b24)] [(.int (1 : Int32)), (.int (0 : Int32)), (.ref b24)]
    refine own_callS G28 at_127 (y := (⟨"org/matchwright/InstantiationSortNewestFirstPinLaw", "cx", "([JII)V"⟩ : MethodName)) (hw _ (List.mem_of_getElem? (i := 2) rfl)) (hw _ (List.mem_of_getElem? (i := 3) rfl)) (hw _ (List.mem_of_getElem? (i := 4) rfl)) (hw _ (List.mem_of_getElem? (i := 5) rfl)) (by decide) (argsL := [(.ref b24), (.int (0 : Int32)), (.int (1 : Int32))]) (rest := []) (rmCx l Z a0 hw b24 _ _ (ownT q1 (-9223372036854775808 : Int64) (-9223372036854775808 : Int64) (-9223372036854775808 : Int64)) 0 1 h28 n0 Y A24 (by decide) (by decide) rfl rfl f2) rfl rfl rfl (lenOf pd_0 rfl) (W := 0) (Nat.le_of_eq rfl) (by decide) (by decide) (by decide) (by decide) ?_
    intro v29 T29 h29 hq29 G29
    obtain ⟨rfl, K, B⟩ := hq29
    show ownGo _ _ _ _ _ _ _ T29 130 #[.val (.long q1), .second, .val (.long q2), .second, .val (.long q3), .second, .val (.long q4), .second, .val (.int p5), .val (.int (1 : Int32)), .val (.ref b22), .val (.ref b24)] []
    obtain ⟨u0, v0, R0, r1, r2⟩ := own_pair q1 (-9223372036854775808 : Int64)
    replace A24 : ownArr Z h29 b24 .long 4 (fun j => .long (ownT u0 v0 (-9223372036854775808 : Int64) (-9223372036854775808 : Int64) j)) := B.congr fun j hj => by
      congr 1
      rw [← r1, ← r2]
      by_cases q : q1 < (-9223372036854775808 : Int64)
      · simp only [ownCx, ownT, if_pos q]
        all_goals (rcases j with _ | _ | _ | _ | j <;> first | rfl | omega)
      · simp only [ownCx, ownT, if_neg q]
        all_goals (rcases j with _ | _ | _ | _ | j <;> first | rfl | omega)
    replace A22 := A22.keep K (ninS ne nin0)
    replace Y : n0 ≤ h29.size := Nat.le_trans Y K.1
    refine own_aload G29 at_130 rfl rfl ?_
    show ownGo _ _ _ _ _ _ _ T29 132 #[.val (.long q1), .second, .val (.long q2), .second, .val (.long q3), .second, .val (.long q4), .second, .val (.int p5), .val (.int (1 : Int32)), .val (.ref b22), .val (.ref b24)] [(.ref b24)]
    refine own_iconst G29 at_132 ?_
    show ownGo _ _ _ _ _ _ _ T29 133 #[.val (.long q1), .second, .val (.long q2), .second, .val (.long q3), .second, .val (.long q4), .second, .val (.int p5), .val (.int (1 : Int32)), .val (.ref b22), .val (.ref b24)] [(.int (2 : Int32)), (.ref b24)]
    refine own_iconst G29 at_133 ?_
    show ownGo _ _ _ _ _ _ _ T29 134 #[.val (.long q1), .second, .val (.long q2), .second, .val (.long q3), .second, .val (.long q4), .second, .val (.int p5), .val (.int (1 : Int32)), .val (.ref b22), .val (.ref b24)] [(.int (3 : Int32)), (.int (2 : Int32)), (.ref b24)]
    refine own_callS G29 at_134 (y := (⟨"org/matchwright/InstantiationSortNewestFirstPinLaw", "cx", "([JII)V"⟩ : MethodName)) (hw _ (List.mem_of_getElem? (i := 2) rfl)) (hw _ (List.mem_of_getElem? (i := 3) rfl)) (hw _ (List.mem_of_getElem? (i := 4) rfl)) (hw _ (List.mem_of_getElem? (i := 5) rfl)) (by decide) (argsL := [(.ref b24), (.int (2 : Int32)), (.int (3 : Int32))]) (rest := []) (rmCx l Z a0 hw b24 _ _ (ownT u0 v0 (-9223372036854775808 : Int64) (-9223372036854775808 : Int64)) 2 3 h29 n0 Y A24 (by decide) (by decide) rfl rfl f2) rfl rfl rfl (lenOf pd_0 rfl) (W := 0) (Nat.le_of_eq rfl) (by decide) (by decide) (by decide) (by decide) ?_
    intro v30 T30 h30 hq30 G30
    obtain ⟨rfl, K, B⟩ := hq30
    show ownGo _ _ _ _ _ _ _ T30 137 #[.val (.long q1), .second, .val (.long q2), .second, .val (.long q3), .second, .val (.long q4), .second, .val (.int p5), .val (.int (1 : Int32)), .val (.ref b22), .val (.ref b24)] []
    obtain ⟨u1, v1, R1, r1, r2⟩ := own_pair (-9223372036854775808 : Int64) (-9223372036854775808 : Int64)
    replace A24 : ownArr Z h30 b24 .long 4 (fun j => .long (ownT u0 v0 u1 v1 j)) := B.congr fun j hj => by
      congr 1
      rw [← r1, ← r2]
      by_cases q : (-9223372036854775808 : Int64) < (-9223372036854775808 : Int64)
      · simp only [ownCx, ownT, if_pos q]
        all_goals (rcases j with _ | _ | _ | _ | j <;> first | rfl | omega)
      · simp only [ownCx, ownT, if_neg q]
        all_goals (rcases j with _ | _ | _ | _ | j <;> first | rfl | omega)
    replace A22 := A22.keep K (ninS ne nin0)
    replace Y : n0 ≤ h30.size := Nat.le_trans Y K.1
    refine own_aload G30 at_137 rfl rfl ?_
    show ownGo _ _ _ _ _ _ _ T30 139 #[.val (.long q1), .second, .val (.long q2), .second, .val (.long q3), .second, .val (.long q4), .second, .val (.int p5), .val (.int (1 : Int32)), .val (.ref b22), .val (.ref b24)] [(.ref b24)]
    refine own_iconst G30 at_139 ?_
    show ownGo _ _ _ _ _ _ _ T30 140 #[.val (.long q1), .second, .val (.long q2), .second, .val (.long q3), .second, .val (.long q4), .second, .val (.int p5), .val (.int (1 : Int32)), .val (.ref b22), .val (.ref b24)] [(.int (0 : Int32)), (.ref b24)]
    refine own_iconst G30 at_140 ?_
    show ownGo _ _ _ _ _ _ _ T30 141 #[.val (.long q1), .second, .val (.long q2), .second, .val (.long q3), .second, .val (.long q4), .second, .val (.int p5), .val (.int (1 : Int32)), .val (.ref b22), .val (.ref b24)] [(.int (2 : Int32)), (.int (0 : Int32)), (.ref b24)]
    refine own_callS G30 at_141 (y := (⟨"org/matchwright/InstantiationSortNewestFirstPinLaw", "cx", "([JII)V"⟩ : MethodName)) (hw _ (List.mem_of_getElem? (i := 2) rfl)) (hw _ (List.mem_of_getElem? (i := 3) rfl)) (hw _ (List.mem_of_getElem? (i := 4) rfl)) (hw _ (List.mem_of_getElem? (i := 5) rfl)) (by decide) (argsL := [(.ref b24), (.int (0 : Int32)), (.int (2 : Int32))]) (rest := []) (rmCx l Z a0 hw b24 _ _ (ownT u0 v0 u1 v1) 0 2 h30 n0 Y A24 (by decide) (by decide) rfl rfl f2) rfl rfl rfl (lenOf pd_0 rfl) (W := 0) (Nat.le_of_eq rfl) (by decide) (by decide) (by decide) (by decide) ?_
    intro v31 T31 h31 hq31 G31
    obtain ⟨rfl, K, B⟩ := hq31
    show ownGo _ _ _ _ _ _ _ T31 144 #[.val (.long q1), .second, .val (.long q2), .second, .val (.long q3), .second, .val (.long q4), .second, .val (.int p5), .val (.int (1 : Int32)), .val (.ref b22), .val (.ref b24)] []
    obtain ⟨u2, v2, R2, r1, r2⟩ := own_pair u0 u1
    replace A24 : ownArr Z h31 b24 .long 4 (fun j => .long (ownT u2 v0 v2 v1 j)) := B.congr fun j hj => by
      congr 1
      rw [← r1, ← r2]
      by_cases q : u0 < u1
      · simp only [ownCx, ownT, if_pos q]
        all_goals (rcases j with _ | _ | _ | _ | j <;> first | rfl | omega)
      · simp only [ownCx, ownT, if_neg q]
        all_goals (rcases j with _ | _ | _ | _ | j <;> first | rfl | omega)
    replace A22 := A22.keep K (ninS ne nin0)
    replace Y : n0 ≤ h31.size := Nat.le_trans Y K.1
    refine own_aload G31 at_144 rfl rfl ?_
    show ownGo _ _ _ _ _ _ _ T31 146 #[.val (.long q1), .second, .val (.long q2), .second, .val (.long q3), .second, .val (.long q4), .second, .val (.int p5), .val (.int (1 : Int32)), .val (.ref b22), .val (.ref b24)] [(.ref b24)]
    refine own_iconst G31 at_146 ?_
    show ownGo _ _ _ _ _ _ _ T31 147 #[.val (.long q1), .second, .val (.long q2), .second, .val (.long q3), .second, .val (.long q4), .second, .val (.int p5), .val (.int (1 : Int32)), .val (.ref b22), .val (.ref b24)] [(.int (1 : Int32)), (.ref b24)]
    refine own_iconst G31 at_147 ?_
    show ownGo _ _ _ _ _ _ _ T31 148 #[.val (.long q1), .second, .val (.long q2), .second, .val (.long q3), .second, .val (.long q4), .second, .val (.int p5), .val (.int (1 : Int32)), .val (.ref b22), .val (.ref b24)] [(.int (3 : Int32)), (.int (1 : Int32)), (.ref b24)]
    refine own_callS G31 at_148 (y := (⟨"org/matchwright/InstantiationSortNewestFirstPinLaw", "cx", "([JII)V"⟩ : MethodName)) (hw _ (List.mem_of_getElem? (i := 2) rfl)) (hw _ (List.mem_of_getElem? (i := 3) rfl)) (hw _ (List.mem_of_getElem? (i := 4) rfl)) (hw _ (List.mem_of_getElem? (i := 5) rfl)) (by decide) (argsL := [(.ref b24), (.int (1 : Int32)), (.int (3 : Int32))]) (rest := []) (rmCx l Z a0 hw b24 _ _ (ownT u2 v0 v2 v1) 1 3 h31 n0 Y A24 (by decide) (by decide) rfl rfl f2) rfl rfl rfl (lenOf pd_0 rfl) (W := 0) (Nat.le_of_eq rfl) (by decide) (by decide) (by decide) (by decide) ?_
    intro v32 T32 h32 hq32 G32
    obtain ⟨rfl, K, B⟩ := hq32
    show ownGo _ _ _ _ _ _ _ T32 151 #[.val (.long q1), .second, .val (.long q2), .second, .val (.long q3), .second, .val (.long q4), .second, .val (.int p5), .val (.int (1 : Int32)), .val (.ref b22), .val (.ref b24)] []
    obtain ⟨u3, v3, R3, r1, r2⟩ := own_pair v0 v1
    replace A24 : ownArr Z h32 b24 .long 4 (fun j => .long (ownT u2 u3 v2 v3 j)) := B.congr fun j hj => by
      congr 1
      rw [← r1, ← r2]
      by_cases q : v0 < v1
      · simp only [ownCx, ownT, if_pos q]
        all_goals (rcases j with _ | _ | _ | _ | j <;> first | rfl | omega)
      · simp only [ownCx, ownT, if_neg q]
        all_goals (rcases j with _ | _ | _ | _ | j <;> first | rfl | omega)
    replace A22 := A22.keep K (ninS ne nin0)
    replace Y : n0 ≤ h32.size := Nat.le_trans Y K.1
    refine own_aload G32 at_151 rfl rfl ?_
    show ownGo _ _ _ _ _ _ _ T32 153 #[.val (.long q1), .second, .val (.long q2), .second, .val (.long q3), .second, .val (.long q4), .second, .val (.int p5), .val (.int (1 : Int32)), .val (.ref b22), .val (.ref b24)] [(.ref b24)]
    refine own_iconst G32 at_153 ?_
    show ownGo _ _ _ _ _ _ _ T32 154 #[.val (.long q1), .second, .val (.long q2), .second, .val (.long q3), .second, .val (.long q4), .second, .val (.int p5), .val (.int (1 : Int32)), .val (.ref b22), .val (.ref b24)] [(.int (1 : Int32)), (.ref b24)]
    refine own_iconst G32 at_154 ?_
    show ownGo _ _ _ _ _ _ _ T32 155 #[.val (.long q1), .second, .val (.long q2), .second, .val (.long q3), .second, .val (.long q4), .second, .val (.int p5), .val (.int (1 : Int32)), .val (.ref b22), .val (.ref b24)] [(.int (2 : Int32)), (.int (1 : Int32)), (.ref b24)]
    refine own_callS G32 at_155 (y := (⟨"org/matchwright/InstantiationSortNewestFirstPinLaw", "cx", "([JII)V"⟩ : MethodName)) (hw _ (List.mem_of_getElem? (i := 2) rfl)) (hw _ (List.mem_of_getElem? (i := 3) rfl)) (hw _ (List.mem_of_getElem? (i := 4) rfl)) (hw _ (List.mem_of_getElem? (i := 5) rfl)) (by decide) (argsL := [(.ref b24), (.int (1 : Int32)), (.int (2 : Int32))]) (rest := []) (rmCx l Z a0 hw b24 _ _ (ownT u2 u3 v2 v3) 1 2 h32 n0 Y A24 (by decide) (by decide) rfl rfl f2) rfl rfl rfl (lenOf pd_0 rfl) (W := 0) (Nat.le_of_eq rfl) (by decide) (by decide) (by decide) (by decide) ?_
    intro v33 T33 h33 hq33 G33
    obtain ⟨rfl, K, B⟩ := hq33
    show ownGo _ _ _ _ _ _ _ T33 158 #[.val (.long q1), .second, .val (.long q2), .second, .val (.long q3), .second, .val (.long q4), .second, .val (.int p5), .val (.int (1 : Int32)), .val (.ref b22), .val (.ref b24)] []
    obtain ⟨u4, v4, R4, r1, r2⟩ := own_pair u3 v2
    replace A24 : ownArr Z h33 b24 .long 4 (fun j => .long (ownT u2 u4 v4 v3 j)) := B.congr fun j hj => by
      congr 1
      rw [← r1, ← r2]
      by_cases q : u3 < v2
      · simp only [ownCx, ownT, if_pos q]
        all_goals (rcases j with _ | _ | _ | _ | j <;> first | rfl | omega)
      · simp only [ownCx, ownT, if_neg q]
        all_goals (rcases j with _ | _ | _ | _ | j <;> first | rfl | omega)
    replace A22 := A22.keep K (ninS ne nin0)
    replace Y : n0 ≤ h33.size := Nat.le_trans Y K.1
    refine own_aload G33 at_158 rfl rfl ?_
    show ownGo _ _ _ _ _ _ _ T33 160 #[.val (.long q1), .second, .val (.long q2), .second, .val (.long q3), .second, .val (.long q4), .second, .val (.int p5), .val (.int (1 : Int32)), .val (.ref b22), .val (.ref b24)] [(.ref b22)]
    refine own_callS G33 at_160 (y := (⟨"org/matchwright/Instantiation", "sortNewestFirst", "([J)V"⟩ : MethodName)) (hw _ (List.mem_of_getElem? (i := 6) rfl)) (hw _ (List.mem_of_getElem? (i := 7) rfl)) (hw _ (List.mem_of_getElem? (i := 8) rfl)) (hw _ (List.mem_of_getElem? (i := 9) rfl)) (by decide) (argsL := [(.ref b22)]) (rest := []) (rmSort l Z a0 hw b22 (ownT q1 q2 q3 q4) 1 h33 n0 Y A22 (by decide) f1) rfl rfl rfl (lenOf pd_1 rfl) (W := 0) (Nat.le_of_eq rfl) (by decide) (by decide) (by decide) (by decide) ?_
    intro v34 T34 h34 hq34 G34
    obtain ⟨rfl, K, B⟩ := hq34
    show ownGo _ _ _ _ _ _ _ T34 163 #[.val (.long q1), .second, .val (.long q2), .second, .val (.long q3), .second, .val (.long q4), .second, .val (.int p5), .val (.int (1 : Int32)), .val (.ref b22), .val (.ref b24)] []
    replace A24 := A24.keep K (ninS ne.symm nin0)
    replace A22 := B
    replace Y : n0 ≤ h34.size := Nat.le_trans Y K.1
    have LW := own_law1 rfl rfl rfl R0 R1 R2 R3 R4 q2 q3 q4
    refine own_aload G34 at_163 rfl rfl ?_
    show ownGo _ _ _ _ _ _ _ T34 165 #[.val (.long q1), .second, .val (.long q2), .second, .val (.long q3), .second, .val (.long q4), .second, .val (.int p5), .val (.int (1 : Int32)), .val (.ref b22), .val (.ref b24)] [(.ref b22)]
    refine own_arraylength G34 at_165 A22 ?_
    show ownGo _ _ _ _ _ _ _ T34 166 #[.val (.long q1), .second, .val (.long q2), .second, .val (.long q3), .second, .val (.long q4), .second, .val (.int p5), .val (.int (1 : Int32)), .val (.ref b22), .val (.ref b24)] [(.int (1 : Int32))]
    refine own_iload G34 at_166 rfl ?_
    show ownGo _ _ _ _ _ _ _ T34 168 #[.val (.long q1), .second, .val (.long q2), .second, .val (.long q3), .second, .val (.long q4), .second, .val (.int p5), .val (.int (1 : Int32)), .val (.ref b22), .val (.ref b24)] [(.int (1 : Int32)), (.int (1 : Int32))]
    refine own_icmp_ne G34 at_168 (pc' := 219) (by decide) (by decide) (fun hc => False.elim (hc rfl)) (fun hc => ?_)
    show ownGo _ _ _ _ _ _ _ T34 171 #[.val (.long q1), .second, .val (.long q2), .second, .val (.long q3), .second, .val (.long q4), .second, .val (.int p5), .val (.int (1 : Int32)), .val (.ref b22), .val (.ref b24)] []
    refine own_aload G34 at_171 rfl rfl ?_
    show ownGo _ _ _ _ _ _ _ T34 173 #[.val (.long q1), .second, .val (.long q2), .second, .val (.long q3), .second, .val (.long q4), .second, .val (.int p5), .val (.int (1 : Int32)), .val (.ref b22), .val (.ref b24)] [(.ref b22)]
    refine own_aload G34 at_173 rfl rfl ?_
    show ownGo _ _ _ _ _ _ _ T34 175 #[.val (.long q1), .second, .val (.long q2), .second, .val (.long q3), .second, .val (.long q4), .second, .val (.int p5), .val (.int (1 : Int32)), .val (.ref b22), .val (.ref b24)] [(.ref b24), (.ref b22)]
    refine own_iconst G34 at_175 ?_
    show ownGo _ _ _ _ _ _ _ T34 176 #[.val (.long q1), .second, .val (.long q2), .second, .val (.long q3), .second, .val (.long q4), .second, .val (.int p5), .val (.int (1 : Int32)), .val (.ref b22), .val (.ref b24)] [(.int (0 : Int32)), (.ref b24), (.ref b22)]
    refine own_callS G34 at_176 (y := (⟨"org/matchwright/InstantiationSortNewestFirstPinLaw", "same", "([J[JI)Z"⟩ : MethodName)) (hw _ (List.mem_of_getElem? (i := 10) rfl)) (hw _ (List.mem_of_getElem? (i := 11) rfl)) (hw _ (List.mem_of_getElem? (i := 4) rfl)) (hw _ (List.mem_of_getElem? (i := 12) rfl)) (by decide) (argsL := [(.ref b22), (.ref b24), (.int (0 : Int32))]) (rest := []) (rmSame l Z a0 hw b22 b24 _ (ownOuter (ownT q1 q2 q3 q4) (1 - 1) 1) (ownT u2 u4 v4 v3) 1 0 h34 n0 Y A22 A24 (by decide) (by decide) rfl (fun _ => LW)) rfl rfl rfl (lenOf pd_2 rfl) (W := 0) (Nat.le_of_eq rfl) (by decide) (by decide) (by decide) (by decide) ?_
    intro v35 T35 h35 hq35 G35
    obtain ⟨rfl, rfl⟩ := hq35
    show ownGo _ _ _ _ _ _ _ T35 179 #[.val (.long q1), .second, .val (.long q2), .second, .val (.long q3), .second, .val (.long q4), .second, .val (.int p5), .val (.int (1 : Int32)), .val (.ref b22), .val (.ref b24)] [(.int (1 : Int32))]
    refine own_if_eq G35 at_179 (pc' := 219) (by decide) (by decide) (fun hc => False.elim (absurd hc (by decide))) (fun hc => ?_)
    show ownGo _ _ _ _ _ _ _ T35 182 #[.val (.long q1), .second, .val (.long q2), .second, .val (.long q3), .second, .val (.long q4), .second, .val (.int p5), .val (.int (1 : Int32)), .val (.ref b22), .val (.ref b24)] []
    refine own_aload G35 at_182 rfl rfl ?_
    show ownGo _ _ _ _ _ _ _ T35 184 #[.val (.long q1), .second, .val (.long q2), .second, .val (.long q3), .second, .val (.long q4), .second, .val (.int p5), .val (.int (1 : Int32)), .val (.ref b22), .val (.ref b24)] [(.ref b22)]
    refine own_aload G35 at_184 rfl rfl ?_
    show ownGo _ _ _ _ _ _ _ T35 186 #[.val (.long q1), .second, .val (.long q2), .second, .val (.long q3), .second, .val (.long q4), .second, .val (.int p5), .val (.int (1 : Int32)), .val (.ref b22), .val (.ref b24)] [(.ref b24), (.ref b22)]
    refine own_iconst G35 at_186 ?_
    show ownGo _ _ _ _ _ _ _ T35 187 #[.val (.long q1), .second, .val (.long q2), .second, .val (.long q3), .second, .val (.long q4), .second, .val (.int p5), .val (.int (1 : Int32)), .val (.ref b22), .val (.ref b24)] [(.int (1 : Int32)), (.ref b24), (.ref b22)]
    refine own_callS G35 at_187 (y := (⟨"org/matchwright/InstantiationSortNewestFirstPinLaw", "same", "([J[JI)Z"⟩ : MethodName)) (hw _ (List.mem_of_getElem? (i := 10) rfl)) (hw _ (List.mem_of_getElem? (i := 11) rfl)) (hw _ (List.mem_of_getElem? (i := 4) rfl)) (hw _ (List.mem_of_getElem? (i := 12) rfl)) (by decide) (argsL := [(.ref b22), (.ref b24), (.int (1 : Int32))]) (rest := []) (rmSame l Z a0 hw b22 b24 _ (ownOuter (ownT q1 q2 q3 q4) (1 - 1) 1) (ownT u2 u4 v4 v3) 1 1 h34 n0 Y A22 A24 (by decide) (by decide) rfl (fun q => absurd q (by decide))) rfl rfl rfl (lenOf pd_2 rfl) (W := 0) (Nat.le_of_eq rfl) (by decide) (by decide) (by decide) (by decide) ?_
    intro v36 T36 h36 hq36 G36
    obtain ⟨rfl, rfl⟩ := hq36
    show ownGo _ _ _ _ _ _ _ T36 190 #[.val (.long q1), .second, .val (.long q2), .second, .val (.long q3), .second, .val (.long q4), .second, .val (.int p5), .val (.int (1 : Int32)), .val (.ref b22), .val (.ref b24)] [(.int (1 : Int32))]
    refine own_if_eq G36 at_190 (pc' := 219) (by decide) (by decide) (fun hc => False.elim (absurd hc (by decide))) (fun hc => ?_)
    show ownGo _ _ _ _ _ _ _ T36 193 #[.val (.long q1), .second, .val (.long q2), .second, .val (.long q3), .second, .val (.long q4), .second, .val (.int p5), .val (.int (1 : Int32)), .val (.ref b22), .val (.ref b24)] []
    refine own_aload G36 at_193 rfl rfl ?_
    show ownGo _ _ _ _ _ _ _ T36 195 #[.val (.long q1), .second, .val (.long q2), .second, .val (.long q3), .second, .val (.long q4), .second, .val (.int p5), .val (.int (1 : Int32)), .val (.ref b22), .val (.ref b24)] [(.ref b22)]
    refine own_aload G36 at_195 rfl rfl ?_
    show ownGo _ _ _ _ _ _ _ T36 197 #[.val (.long q1), .second, .val (.long q2), .second, .val (.long q3), .second, .val (.long q4), .second, .val (.int p5), .val (.int (1 : Int32)), .val (.ref b22), .val (.ref b24)] [(.ref b24), (.ref b22)]
    refine own_iconst G36 at_197 ?_
    show ownGo _ _ _ _ _ _ _ T36 198 #[.val (.long q1), .second, .val (.long q2), .second, .val (.long q3), .second, .val (.long q4), .second, .val (.int p5), .val (.int (1 : Int32)), .val (.ref b22), .val (.ref b24)] [(.int (2 : Int32)), (.ref b24), (.ref b22)]
    refine own_callS G36 at_198 (y := (⟨"org/matchwright/InstantiationSortNewestFirstPinLaw", "same", "([J[JI)Z"⟩ : MethodName)) (hw _ (List.mem_of_getElem? (i := 10) rfl)) (hw _ (List.mem_of_getElem? (i := 11) rfl)) (hw _ (List.mem_of_getElem? (i := 4) rfl)) (hw _ (List.mem_of_getElem? (i := 12) rfl)) (by decide) (argsL := [(.ref b22), (.ref b24), (.int (2 : Int32))]) (rest := []) (rmSame l Z a0 hw b22 b24 _ (ownOuter (ownT q1 q2 q3 q4) (1 - 1) 1) (ownT u2 u4 v4 v3) 1 2 h34 n0 Y A22 A24 (by decide) (by decide) rfl (fun q => absurd q (by decide))) rfl rfl rfl (lenOf pd_2 rfl) (W := 0) (Nat.le_of_eq rfl) (by decide) (by decide) (by decide) (by decide) ?_
    intro v37 T37 h37 hq37 G37
    obtain ⟨rfl, rfl⟩ := hq37
    show ownGo _ _ _ _ _ _ _ T37 201 #[.val (.long q1), .second, .val (.long q2), .second, .val (.long q3), .second, .val (.long q4), .second, .val (.int p5), .val (.int (1 : Int32)), .val (.ref b22), .val (.ref b24)] [(.int (1 : Int32))]
    refine own_if_eq G37 at_201 (pc' := 219) (by decide) (by decide) (fun hc => False.elim (absurd hc (by decide))) (fun hc => ?_)
    show ownGo _ _ _ _ _ _ _ T37 204 #[.val (.long q1), .second, .val (.long q2), .second, .val (.long q3), .second, .val (.long q4), .second, .val (.int p5), .val (.int (1 : Int32)), .val (.ref b22), .val (.ref b24)] []
    refine own_aload G37 at_204 rfl rfl ?_
    show ownGo _ _ _ _ _ _ _ T37 206 #[.val (.long q1), .second, .val (.long q2), .second, .val (.long q3), .second, .val (.long q4), .second, .val (.int p5), .val (.int (1 : Int32)), .val (.ref b22), .val (.ref b24)] [(.ref b22)]
    refine own_aload G37 at_206 rfl rfl ?_
    show ownGo _ _ _ _ _ _ _ T37 208 #[.val (.long q1), .second, .val (.long q2), .second, .val (.long q3), .second, .val (.long q4), .second, .val (.int p5), .val (.int (1 : Int32)), .val (.ref b22), .val (.ref b24)] [(.ref b24), (.ref b22)]
    refine own_iconst G37 at_208 ?_
    show ownGo _ _ _ _ _ _ _ T37 209 #[.val (.long q1), .second, .val (.long q2), .second, .val (.long q3), .second, .val (.long q4), .second, .val (.int p5), .val (.int (1 : Int32)), .val (.ref b22), .val (.ref b24)] [(.int (3 : Int32)), (.ref b24), (.ref b22)]
    refine own_callS G37 at_209 (y := (⟨"org/matchwright/InstantiationSortNewestFirstPinLaw", "same", "([J[JI)Z"⟩ : MethodName)) (hw _ (List.mem_of_getElem? (i := 10) rfl)) (hw _ (List.mem_of_getElem? (i := 11) rfl)) (hw _ (List.mem_of_getElem? (i := 4) rfl)) (hw _ (List.mem_of_getElem? (i := 12) rfl)) (by decide) (argsL := [(.ref b22), (.ref b24), (.int (3 : Int32))]) (rest := []) (rmSame l Z a0 hw b22 b24 _ (ownOuter (ownT q1 q2 q3 q4) (1 - 1) 1) (ownT u2 u4 v4 v3) 1 3 h34 n0 Y A22 A24 (by decide) (by decide) rfl (fun q => absurd q (by decide))) rfl rfl rfl (lenOf pd_2 rfl) (W := 0) (Nat.le_of_eq rfl) (by decide) (by decide) (by decide) (by decide) ?_
    intro v38 T38 h38 hq38 G38
    obtain ⟨rfl, rfl⟩ := hq38
    show ownGo _ _ _ _ _ _ _ T38 212 #[.val (.long q1), .second, .val (.long q2), .second, .val (.long q3), .second, .val (.long q4), .second, .val (.int p5), .val (.int (1 : Int32)), .val (.ref b22), .val (.ref b24)] [(.int (1 : Int32))]
    refine own_if_eq G38 at_212 (pc' := 219) (by decide) (by decide) (fun hc => False.elim (absurd hc (by decide))) (fun hc => ?_)
    show ownGo _ _ _ _ _ _ _ T38 215 #[.val (.long q1), .second, .val (.long q2), .second, .val (.long q3), .second, .val (.long q4), .second, .val (.int p5), .val (.int (1 : Int32)), .val (.ref b22), .val (.ref b24)] []
    refine own_iconst G38 at_215 ?_
    show ownGo _ _ _ _ _ _ _ T38 216 #[.val (.long q1), .second, .val (.long q2), .second, .val (.long q3), .second, .val (.long q4), .second, .val (.int p5), .val (.int (1 : Int32)), .val (.ref b22), .val (.ref b24)] [(.int (1 : Int32))]
    refine own_goto G38 at_216 (pc' := 220) (by decide) (by decide) ?_
    show ownGo _ _ _ _ _ _ _ T38 220 #[.val (.long q1), .second, .val (.long q2), .second, .val (.long q3), .second, .val (.long q4), .second, .val (.int p5), .val (.int (1 : Int32)), .val (.ref b22), .val (.ref b24)] [(.int (1 : Int32))]
    exact own_zreturn G38 at_220 rfl (by decide) (by decide) rfl
  · rw [e]
    show ownGo _ _ _ _ _ _ _ T0 7 #[.val (.long q1), .second, .val (.long q2), .second, .val (.long q3), .second, .val (.long q4), .second, .val (.int p5), .unset, .unset, .unset] [(.int (2 : Int32))]
    refine own_istore G0 at_7 (L' := #[.val (.long q1), .second, .val (.long q2), .second, .val (.long q3), .second, .val (.long q4), .second, .val (.int p5), .val (.int (2 : Int32)), .unset, .unset]) rfl ?_
    show ownGo _ _ _ _ _ _ _ T0 9 #[.val (.long q1), .second, .val (.long q2), .second, .val (.long q3), .second, .val (.long q4), .second, .val (.int p5), .val (.int (2 : Int32)), .unset, .unset] []
    refine own_iload G0 at_9 rfl ?_
    show ownGo _ _ _ _ _ _ _ T0 11 #[.val (.long q1), .second, .val (.long q2), .second, .val (.long q3), .second, .val (.long q4), .second, .val (.int p5), .val (.int (2 : Int32)), .unset, .unset] [(.int (2 : Int32))]
    refine own_newarr G0 at_11 (hw _ (List.mem_of_getElem? (i := 0) rfl)) (by decide) (k := 2) (cap := 2) (by decide) (by decide) (by decide) (by decide) (by decide) ?_
    intro T39 h39 b39 g39 E39 A39 G39
    replace A39 : ownArr Z h39 b39 .long 2 (fun _ => .long 0) := A39
    show ownGo _ _ _ _ _ _ _ T39 13 #[.val (.long q1), .second, .val (.long q2), .second, .val (.long q3), .second, .val (.long q4), .second, .val (.int p5), .val (.int (2 : Int32)), .unset, .unset] [(.ref b39)]
    have f1 : n0 ≤ b39 := Nat.le_trans Z0 (Nat.le_of_eq g39.symm)
    have Y : n0 ≤ h39.size := Nat.le_trans Z0 E39.1
    refine own_astore G39 at_13 (L' := #[.val (.long q1), .second, .val (.long q2), .second, .val (.long q3), .second, .val (.long q4), .second, .val (.int p5), .val (.int (2 : Int32)), .val (.ref b39), .unset]) rfl rfl ?_
    show ownGo _ _ _ _ _ _ _ T39 15 #[.val (.long q1), .second, .val (.long q2), .second, .val (.long q3), .second, .val (.long q4), .second, .val (.int p5), .val (.int (2 : Int32)), .val (.ref b39), .unset] []
    refine own_iload G39 at_15 rfl ?_
    show ownGo _ _ _ _ _ _ _ T39 17 #[.val (.long q1), .second, .val (.long q2), .second, .val (.long q3), .second, .val (.long q4), .second, .val (.int p5), .val (.int (2 : Int32)), .val (.ref b39), .unset] [(.int (2 : Int32))]
    refine own_if_le G39 at_17 (pc' := 25) (by decide) (by decide) (fun hc => False.elim (absurd hc (by decide))) (fun hc => ?_)
    show ownGo _ _ _ _ _ _ _ T39 20 #[.val (.long q1), .second, .val (.long q2), .second, .val (.long q3), .second, .val (.long q4), .second, .val (.int p5), .val (.int (2 : Int32)), .val (.ref b39), .unset] []
    refine own_aload G39 at_20 rfl rfl ?_
    show ownGo _ _ _ _ _ _ _ T39 22 #[.val (.long q1), .second, .val (.long q2), .second, .val (.long q3), .second, .val (.long q4), .second, .val (.int p5), .val (.int (2 : Int32)), .val (.ref b39), .unset] [(.ref b39)]
    refine own_iconst G39 at_22 ?_
    show ownGo _ _ _ _ _ _ _ T39 23 #[.val (.long q1), .second, .val (.long q2), .second, .val (.long q3), .second, .val (.long q4), .second, .val (.int p5), .val (.int (2 : Int32)), .val (.ref b39), .unset] [(.int (0 : Int32)), (.ref b39)]
    refine own_lloadN G39 at_23 rfl ?_
    show ownGo _ _ _ _ _ _ _ T39 24 #[.val (.long q1), .second, .val (.long q2), .second, .val (.long q3), .second, .val (.long q4), .second, .val (.int p5), .val (.int (2 : Int32)), .val (.ref b39), .unset] [(.long q1), (.int (0 : Int32)), (.ref b39)]
    refine own_lastore G39 at_24 A39 (i := 0) (by decide) f1 ?_
    intro T40 h40 W40 G40
    show ownGo _ _ _ _ _ _ _ T40 25 #[.val (.long q1), .second, .val (.long q2), .second, .val (.long q3), .second, .val (.long q4), .second, .val (.int p5), .val (.int (2 : Int32)), .val (.ref b39), .unset] []
    replace A39 := A39.same W40
    replace Y : n0 ≤ h40.size := by rw [W40.size]; exact Y
    refine own_iload G40 at_25 rfl ?_
    show ownGo _ _ _ _ _ _ _ T40 27 #[.val (.long q1), .second, .val (.long q2), .second, .val (.long q3), .second, .val (.long q4), .second, .val (.int p5), .val (.int (2 : Int32)), .val (.ref b39), .unset] [(.int (2 : Int32))]
    refine own_iconst G40 at_27 ?_
    show ownGo _ _ _ _ _ _ _ T40 28 #[.val (.long q1), .second, .val (.long q2), .second, .val (.long q3), .second, .val (.long q4), .second, .val (.int p5), .val (.int (2 : Int32)), .val (.ref b39), .unset] [(.int (1 : Int32)), (.int (2 : Int32))]
    refine own_icmp_le G40 at_28 (pc' := 36) (by decide) (by decide) (fun hc => False.elim (absurd hc (by decide))) (fun hc => ?_)
    show ownGo _ _ _ _ _ _ _ T40 31 #[.val (.long q1), .second, .val (.long q2), .second, .val (.long q3), .second, .val (.long q4), .second, .val (.int p5), .val (.int (2 : Int32)), .val (.ref b39), .unset] []
    refine own_aload G40 at_31 rfl rfl ?_
    show ownGo _ _ _ _ _ _ _ T40 33 #[.val (.long q1), .second, .val (.long q2), .second, .val (.long q3), .second, .val (.long q4), .second, .val (.int p5), .val (.int (2 : Int32)), .val (.ref b39), .unset] [(.ref b39)]
    refine own_iconst G40 at_33 ?_
    show ownGo _ _ _ _ _ _ _ T40 34 #[.val (.long q1), .second, .val (.long q2), .second, .val (.long q3), .second, .val (.long q4), .second, .val (.int p5), .val (.int (2 : Int32)), .val (.ref b39), .unset] [(.int (1 : Int32)), (.ref b39)]
    refine own_lloadN G40 at_34 rfl ?_
    show ownGo _ _ _ _ _ _ _ T40 35 #[.val (.long q1), .second, .val (.long q2), .second, .val (.long q3), .second, .val (.long q4), .second, .val (.int p5), .val (.int (2 : Int32)), .val (.ref b39), .unset] [(.long q2), (.int (1 : Int32)), (.ref b39)]
    refine own_lastore G40 at_35 A39 (i := 1) (by decide) f1 ?_
    intro T41 h41 W41 G41
    show ownGo _ _ _ _ _ _ _ T41 36 #[.val (.long q1), .second, .val (.long q2), .second, .val (.long q3), .second, .val (.long q4), .second, .val (.int p5), .val (.int (2 : Int32)), .val (.ref b39), .unset] []
    replace A39 := A39.same W41
    replace Y : n0 ≤ h41.size := by rw [W41.size]; exact Y
    refine own_iload G41 at_36 rfl ?_
    show ownGo _ _ _ _ _ _ _ T41 38 #[.val (.long q1), .second, .val (.long q2), .second, .val (.long q3), .second, .val (.long q4), .second, .val (.int p5), .val (.int (2 : Int32)), .val (.ref b39), .unset] [(.int (2 : Int32))]
    refine own_iconst G41 at_38 ?_
    show ownGo _ _ _ _ _ _ _ T41 39 #[.val (.long q1), .second, .val (.long q2), .second, .val (.long q3), .second, .val (.long q4), .second, .val (.int p5), .val (.int (2 : Int32)), .val (.ref b39), .unset] [(.int (2 : Int32)), (.int (2 : Int32))]
    refine own_icmp_le G41 at_39 (pc' := 48) (by decide) (by decide) (fun hc => ?_) (fun hc => False.elim (absurd hc (by decide)))
    show ownGo _ _ _ _ _ _ _ T41 48 #[.val (.long q1), .second, .val (.long q2), .second, .val (.long q3), .second, .val (.long q4), .second, .val (.int p5), .val (.int (2 : Int32)), .val (.ref b39), .unset] []
    refine own_iload G41 at_48 rfl ?_
    show ownGo _ _ _ _ _ _ _ T41 50 #[.val (.long q1), .second, .val (.long q2), .second, .val (.long q3), .second, .val (.long q4), .second, .val (.int p5), .val (.int (2 : Int32)), .val (.ref b39), .unset] [(.int (2 : Int32))]
    refine own_iconst G41 at_50 ?_
    show ownGo _ _ _ _ _ _ _ T41 51 #[.val (.long q1), .second, .val (.long q2), .second, .val (.long q3), .second, .val (.long q4), .second, .val (.int p5), .val (.int (2 : Int32)), .val (.ref b39), .unset] [(.int (3 : Int32)), (.int (2 : Int32))]
    refine own_icmp_le G41 at_51 (pc' := 60) (by decide) (by decide) (fun hc => ?_) (fun hc => False.elim (absurd hc (by decide)))
    show ownGo _ _ _ _ _ _ _ T41 60 #[.val (.long q1), .second, .val (.long q2), .second, .val (.long q3), .second, .val (.long q4), .second, .val (.int p5), .val (.int (2 : Int32)), .val (.ref b39), .unset] []
    refine own_iconst G41 at_60 ?_
    show ownGo _ _ _ _ _ _ _ T41 61 #[.val (.long q1), .second, .val (.long q2), .second, .val (.long q3), .second, .val (.long q4), .second, .val (.int p5), .val (.int (2 : Int32)), .val (.ref b39), .unset] [(.int (4 : Int32))]
    replace A39 : ownArr Z h41 b39 .long 2 (fun j => .long (ownT q1 q2 q3 q4 j)) := A39.congr fun j hj => by
      rcases j with _ | _ | j
      · rfl
      · rfl
      · omega
    refine own_newarr G41 at_61 (hw _ (List.mem_of_getElem? (i := 0) rfl)) (by decide) (k := 4) (cap := 4) (by decide) (by decide) (by decide) (by decide) (by decide) ?_
    intro T42 h42 b42 g42 E42 A42 G42
    replace A42 : ownArr Z h42 b42 .long 4 (fun _ => .long 0) := A42
    show ownGo _ _ _ _ _ _ _ T42 63 #[.val (.long q1), .second, .val (.long q2), .second, .val (.long q3), .second, .val (.long q4), .second, .val (.int p5), .val (.int (2 : Int32)), .val (.ref b39), .unset] [(.ref b42)]
    have f2 : n0 ≤ b42 := Nat.le_trans Y (Nat.le_of_eq g42.symm)
    have ne : b39 ≠ b42 := Nat.ne_of_lt (Nat.lt_of_lt_of_le A39.lt (Nat.le_of_eq g42.symm))
    replace A39 := A39.ext E42
    replace Y : n0 ≤ h42.size := Nat.le_trans Y E42.1
    refine own_astore G42 at_63 (L' := #[.val (.long q1), .second, .val (.long q2), .second, .val (.long q3), .second, .val (.long q4), .second, .val (.int p5), .val (.int (2 : Int32)), .val (.ref b39), .val (.ref b42)]) rfl rfl ?_
    show ownGo _ _ _ _ _ _ _ T42 65 #[.val (.long q1), .second, .val (.long q2), .second, .val (.long q3), .second, .val (.long q4), .second, .val (.int p5), .val (.int (2 : Int32)), .val (.ref b39), .val (.ref b42)] []
    refine own_aload G42 at_65 rfl rfl ?_
    show ownGo _ _ _ _ _ _ _ T42 67 #[.val (.long q1), .second, .val (.long q2), .second, .val (.long q3), .second, .val (.long q4), .second, .val (.int p5), .val (.int (2 : Int32)), .val (.ref b39), .val (.ref b42)] [(.ref b42)]
    refine own_iconst G42 at_67 ?_
    show ownGo _ _ _ _ _ _ _ T42 68 #[.val (.long q1), .second, .val (.long q2), .second, .val (.long q3), .second, .val (.long q4), .second, .val (.int p5), .val (.int (2 : Int32)), .val (.ref b39), .val (.ref b42)] [(.int (0 : Int32)), (.ref b42)]
    refine own_lloadN G42 at_68 rfl ?_
    show ownGo _ _ _ _ _ _ _ T42 69 #[.val (.long q1), .second, .val (.long q2), .second, .val (.long q3), .second, .val (.long q4), .second, .val (.int p5), .val (.int (2 : Int32)), .val (.ref b39), .val (.ref b42)] [(.long q1), (.int (0 : Int32)), (.ref b42)]
    refine own_lastore G42 at_69 A42 (i := 0) (by decide) f2 ?_
    intro T43 h43 W43 G43
    show ownGo _ _ _ _ _ _ _ T43 70 #[.val (.long q1), .second, .val (.long q2), .second, .val (.long q3), .second, .val (.long q4), .second, .val (.int p5), .val (.int (2 : Int32)), .val (.ref b39), .val (.ref b42)] []
    replace A42 := A42.same W43
    replace A39 := A39.other W43 ne
    replace Y : n0 ≤ h43.size := by rw [W43.size]; exact Y
    refine own_aload G43 at_70 rfl rfl ?_
    show ownGo _ _ _ _ _ _ _ T43 72 #[.val (.long q1), .second, .val (.long q2), .second, .val (.long q3), .second, .val (.long q4), .second, .val (.int p5), .val (.int (2 : Int32)), .val (.ref b39), .val (.ref b42)] [(.ref b42)]
    refine own_iconst G43 at_72 ?_
    show ownGo _ _ _ _ _ _ _ T43 73 #[.val (.long q1), .second, .val (.long q2), .second, .val (.long q3), .second, .val (.long q4), .second, .val (.int p5), .val (.int (2 : Int32)), .val (.ref b39), .val (.ref b42)] [(.int (1 : Int32)), (.ref b42)]
    refine own_iload G43 at_73 rfl ?_
    show ownGo _ _ _ _ _ _ _ T43 75 #[.val (.long q1), .second, .val (.long q2), .second, .val (.long q3), .second, .val (.long q4), .second, .val (.int p5), .val (.int (2 : Int32)), .val (.ref b39), .val (.ref b42)] [(.int (2 : Int32)), (.int (1 : Int32)), (.ref b42)]
    refine own_iconst G43 at_75 ?_
    show ownGo _ _ _ _ _ _ _ T43 76 #[.val (.long q1), .second, .val (.long q2), .second, .val (.long q3), .second, .val (.long q4), .second, .val (.int p5), .val (.int (2 : Int32)), .val (.ref b39), .val (.ref b42)] [(.int (1 : Int32)), (.int (2 : Int32)), (.int (1 : Int32)), (.ref b42)]
    refine own_icmp_le G43 at_76 (pc' := 83) (by decide) (by decide) (fun hc => False.elim (absurd hc (by decide))) (fun hc => ?_)
    show ownGo _ _ _ _ _ _ _ T43 79 #[.val (.long q1), .second, .val (.long q2), .second, .val (.long q3), .second, .val (.long q4), .second, .val (.int p5), .val (.int (2 : Int32)), .val (.ref b39), .val (.ref b42)] [(.int (1 : Int32)), (.ref b42)]
    refine own_lloadN G43 at_79 rfl ?_
    show ownGo _ _ _ _ _ _ _ T43 80 #[.val (.long q1), .second, .val (.long q2), .second, .val (.long q3), .second, .val (.long q4), .second, .val (.int p5), .val (.int (2 : Int32)), .val (.ref b39), .val (.ref b42)] [(.long q2), (.int (1 : Int32)), (.ref b42)]
    refine own_goto G43 at_80 (pc' := 86) (by decide) (by decide) ?_
    show ownGo _ _ _ _ _ _ _ T43 86 #[.val (.long q1), .second, .val (.long q2), .second, .val (.long q3), .second, .val (.long q4), .second, .val (.int p5), .val (.int (2 : Int32)), .val (.ref b39), .val (.ref b42)] [(.long q2), (.int (1 : Int32)), (.ref b42)]
    refine own_lastore G43 at_86 A42 (i := 1) (by decide) f2 ?_
    intro T44 h44 W44 G44
    show ownGo _ _ _ _ _ _ _ T44 87 #[.val (.long q1), .second, .val (.long q2), .second, .val (.long q3), .second, .val (.long q4), .second, .val (.int p5), .val (.int (2 : Int32)), .val (.ref b39), .val (.ref b42)] []
    replace A42 := A42.same W44
    replace A39 := A39.other W44 ne
    replace Y : n0 ≤ h44.size := by rw [W44.size]; exact Y
    refine own_aload G44 at_87 rfl rfl ?_
    show ownGo _ _ _ _ _ _ _ T44 89 #[.val (.long q1), .second, .val (.long q2), .second, .val (.long q3), .second, .val (.long q4), .second, .val (.int p5), .val (.int (2 : Int32)), .val (.ref b39), .val (.ref b42)] [(.ref b42)]
    refine own_iconst G44 at_89 ?_
    show ownGo _ _ _ _ _ _ _ T44 90 #[.val (.long q1), .second, .val (.long q2), .second, .val (.long q3), .second, .val (.long q4), .second, .val (.int p5), .val (.int (2 : Int32)), .val (.ref b39), .val (.ref b42)] [(.int (2 : Int32)), (.ref b42)]
    refine own_iload G44 at_90 rfl ?_
    show ownGo _ _ _ _ _ _ _ T44 92 #[.val (.long q1), .second, .val (.long q2), .second, .val (.long q3), .second, .val (.long q4), .second, .val (.int p5), .val (.int (2 : Int32)), .val (.ref b39), .val (.ref b42)] [(.int (2 : Int32)), (.int (2 : Int32)), (.ref b42)]
    refine own_iconst G44 at_92 ?_
    show ownGo _ _ _ _ _ _ _ T44 93 #[.val (.long q1), .second, .val (.long q2), .second, .val (.long q3), .second, .val (.long q4), .second, .val (.int p5), .val (.int (2 : Int32)), .val (.ref b39), .val (.ref b42)] [(.int (2 : Int32)), (.int (2 : Int32)), (.int (2 : Int32)), (.ref b42)]
    refine own_icmp_le G44 at_93 (pc' := 101) (by decide) (by decide) (fun hc => ?_) (fun hc => False.elim (absurd hc (by decide)))
    show ownGo _ _ _ _ _ _ _ T44 101 #[.val (.long q1), .second, .val (.long q2), .second, .val (.long q3), .second, .val (.long q4), .second, .val (.int p5), .val (.int (2 : Int32)), .val (.ref b39), .val (.ref b42)] [(.int (2 : Int32)), (.ref b42)]
    refine own_ldc2 G44 at_101 (hw _ (List.mem_of_getElem? (i := 1) rfl)) ?_
    show ownGo _ _ _ _ _ _ _ T44 104 #[.val (.long q1), .second, .val (.long q2), .second, .val (.long q3), .second, .val (.long q4), .second, .val (.int p5), .val (.int (2 : Int32)), .val (.ref b39), .val (.ref b42)] [(.long (-9223372036854775808 : Int64)), (.int (2 : Int32)), (.ref b42)]
    refine own_lastore G44 at_104 A42 (i := 2) (by decide) f2 ?_
    intro T45 h45 W45 G45
    show ownGo _ _ _ _ _ _ _ T45 105 #[.val (.long q1), .second, .val (.long q2), .second, .val (.long q3), .second, .val (.long q4), .second, .val (.int p5), .val (.int (2 : Int32)), .val (.ref b39), .val (.ref b42)] []
    replace A42 := A42.same W45
    replace A39 := A39.other W45 ne
    replace Y : n0 ≤ h45.size := by rw [W45.size]; exact Y
    refine own_aload G45 at_105 rfl rfl ?_
    show ownGo _ _ _ _ _ _ _ T45 107 #[.val (.long q1), .second, .val (.long q2), .second, .val (.long q3), .second, .val (.long q4), .second, .val (.int p5), .val (.int (2 : Int32)), .val (.ref b39), .val (.ref b42)] [(.ref b42)]
    refine own_iconst G45 at_107 ?_
    show ownGo _ _ _ _ _ _ _ T45 108 #[.val (.long q1), .second, .val (.long q2), .second, .val (.long q3), .second, .val (.long q4), .second, .val (.int p5), .val (.int (2 : Int32)), .val (.ref b39), .val (.ref b42)] [(.int (3 : Int32)), (.ref b42)]
    refine own_iload G45 at_108 rfl ?_
    show ownGo _ _ _ _ _ _ _ T45 110 #[.val (.long q1), .second, .val (.long q2), .second, .val (.long q3), .second, .val (.long q4), .second, .val (.int p5), .val (.int (2 : Int32)), .val (.ref b39), .val (.ref b42)] [(.int (2 : Int32)), (.int (3 : Int32)), (.ref b42)]
    refine own_iconst G45 at_110 ?_
    show ownGo _ _ _ _ _ _ _ T45 111 #[.val (.long q1), .second, .val (.long q2), .second, .val (.long q3), .second, .val (.long q4), .second, .val (.int p5), .val (.int (2 : Int32)), .val (.ref b39), .val (.ref b42)] [(.int (3 : Int32)), (.int (2 : Int32)), (.int (3 : Int32)), (.ref b42)]
    refine own_icmp_le G45 at_111 (pc' := 119) (by decide) (by decide) (fun hc => ?_) (fun hc => False.elim (absurd hc (by decide)))
    show ownGo _ _ _ _ _ _ _ T45 119 #[.val (.long q1), .second, .val (.long q2), .second, .val (.long q3), .second, .val (.long q4), .second, .val (.int p5), .val (.int (2 : Int32)), .val (.ref b39), .val (.ref b42)] [(.int (3 : Int32)), (.ref b42)]
    refine own_ldc2 G45 at_119 (hw _ (List.mem_of_getElem? (i := 1) rfl)) ?_
    show ownGo _ _ _ _ _ _ _ T45 122 #[.val (.long q1), .second, .val (.long q2), .second, .val (.long q3), .second, .val (.long q4), .second, .val (.int p5), .val (.int (2 : Int32)), .val (.ref b39), .val (.ref b42)] [(.long (-9223372036854775808 : Int64)), (.int (3 : Int32)), (.ref b42)]
    refine own_lastore G45 at_122 A42 (i := 3) (by decide) f2 ?_
    intro T46 h46 W46 G46
    show ownGo _ _ _ _ _ _ _ T46 123 #[.val (.long q1), .second, .val (.long q2), .second, .val (.long q3), .second, .val (.long q4), .second, .val (.int p5), .val (.int (2 : Int32)), .val (.ref b39), .val (.ref b42)] []
    replace A42 := A42.same W46
    replace A39 := A39.other W46 ne
    replace Y : n0 ≤ h46.size := by rw [W46.size]; exact Y
    replace A42 : ownArr Z h46 b42 .long 4 (fun j => .long (ownT q1 q2 (-9223372036854775808 : Int64) (-9223372036854775808 : Int64) j)) := A42.congr fun j hj => by
      rcases j with _ | _ | _ | _ | j
      · rfl
      · rfl
      · rfl
      · rfl
      · omega
    refine own_aload G46 at_123 rfl rfl ?_
    show ownGo _ _ _ _ _ _ _ T46 125 #[.val (.long q1), .second, .val (.long q2), .second, .val (.long q3), .second, .val (.long q4), .second, .val (.int p5), .val (.int (2 : Int32)), .val (.ref b39), .val (.ref b42)] [(.ref b42)]
    refine own_iconst G46 at_125 ?_
    show ownGo _ _ _ _ _ _ _ T46 126 #[.val (.long q1), .second, .val (.long q2), .second, .val (.long q3), .second, .val (.long q4), .second, .val (.int p5), .val (.int (2 : Int32)), .val (.ref b39), .val (.ref b42)] [(.int (0 : Int32)), (.ref b42)]
    refine own_iconst G46 at_126 ?_
    show ownGo _ _ _ _ _ _ _ T46 127 #[.val (.long q1), .second, .val (.long q2), .second, .val (.long q3), .second, .val (.long q4), .second, .val (.int p5), .val (.int (2 : Int32)), .val (.ref b39), .val (.ref b42)] [(.int (1 : Int32)), (.int (0 : Int32)), (.ref b42)]
    refine own_callS G46 at_127 (y := (⟨"org/matchwright/InstantiationSortNewestFirstPinLaw", "cx", "([JII)V"⟩ : MethodName)) (hw _ (List.mem_of_getElem? (i := 2) rfl)) (hw _ (List.mem_of_getElem? (i := 3) rfl)) (hw _ (List.mem_of_getElem? (i := 4) rfl)) (hw _ (List.mem_of_getElem? (i := 5) rfl)) (by decide) (argsL := [(.ref b42), (.int (0 : Int32)), (.int (1 : Int32))]) (rest := []) (rmCx l Z a0 hw b42 _ _ (ownT q1 q2 (-9223372036854775808 : Int64) (-9223372036854775808 : Int64)) 0 1 h46 n0 Y A42 (by decide) (by decide) rfl rfl f2) rfl rfl rfl (lenOf pd_0 rfl) (W := 0) (Nat.le_of_eq rfl) (by decide) (by decide) (by decide) (by decide) ?_
    intro v47 T47 h47 hq47 G47
    obtain ⟨rfl, K, B⟩ := hq47
    show ownGo _ _ _ _ _ _ _ T47 130 #[.val (.long q1), .second, .val (.long q2), .second, .val (.long q3), .second, .val (.long q4), .second, .val (.int p5), .val (.int (2 : Int32)), .val (.ref b39), .val (.ref b42)] []
    obtain ⟨u0, v0, R0, r1, r2⟩ := own_pair q1 q2
    replace A42 : ownArr Z h47 b42 .long 4 (fun j => .long (ownT u0 v0 (-9223372036854775808 : Int64) (-9223372036854775808 : Int64) j)) := B.congr fun j hj => by
      congr 1
      rw [← r1, ← r2]
      by_cases q : q1 < q2
      · simp only [ownCx, ownT, if_pos q]
        all_goals (rcases j with _ | _ | _ | _ | j <;> first | rfl | omega)
      · simp only [ownCx, ownT, if_neg q]
        all_goals (rcases j with _ | _ | _ | _ | j <;> first | rfl | omega)
    replace A39 := A39.keep K (ninS ne nin0)
    replace Y : n0 ≤ h47.size := Nat.le_trans Y K.1
    refine own_aload G47 at_130 rfl rfl ?_
    show ownGo _ _ _ _ _ _ _ T47 132 #[.val (.long q1), .second, .val (.long q2), .second, .val (.long q3), .second, .val (.long q4), .second, .val (.int p5), .val (.int (2 : Int32)), .val (.ref b39), .val (.ref b42)] [(.ref b42)]
    refine own_iconst G47 at_132 ?_
    show ownGo _ _ _ _ _ _ _ T47 133 #[.val (.long q1), .second, .val (.long q2), .second, .val (.long q3), .second, .val (.long q4), .second, .val (.int p5), .val (.int (2 : Int32)), .val (.ref b39), .val (.ref b42)] [(.int (2 : Int32)), (.ref b42)]
    refine own_iconst G47 at_133 ?_
    show ownGo _ _ _ _ _ _ _ T47 134 #[.val (.long q1), .second, .val (.long q2), .second, .val (.long q3), .second, .val (.long q4), .second, .val (.int p5), .val (.int (2 : Int32)), .val (.ref b39), .val (.ref b42)] [(.int (3 : Int32)), (.int (2 : Int32)), (.ref b42)]
    refine own_callS G47 at_134 (y := (⟨"org/matchwright/InstantiationSortNewestFirstPinLaw", "cx", "([JII)V"⟩ : MethodName)) (hw _ (List.mem_of_getElem? (i := 2) rfl)) (hw _ (List.mem_of_getElem? (i := 3) rfl)) (hw _ (List.mem_of_getElem? (i := 4) rfl)) (hw _ (List.mem_of_getElem? (i := 5) rfl)) (by decide) (argsL := [(.ref b42), (.int (2 : Int32)), (.int (3 : Int32))]) (rest := []) (rmCx l Z a0 hw b42 _ _ (ownT u0 v0 (-9223372036854775808 : Int64) (-9223372036854775808 : Int64)) 2 3 h47 n0 Y A42 (by decide) (by decide) rfl rfl f2) rfl rfl rfl (lenOf pd_0 rfl) (W := 0) (Nat.le_of_eq rfl) (by decide) (by decide) (by decide) (by decide) ?_
    intro v48 T48 h48 hq48 G48
    obtain ⟨rfl, K, B⟩ := hq48
    show ownGo _ _ _ _ _ _ _ T48 137 #[.val (.long q1), .second, .val (.long q2), .second, .val (.long q3), .second, .val (.long q4), .second, .val (.int p5), .val (.int (2 : Int32)), .val (.ref b39), .val (.ref b42)] []
    obtain ⟨u1, v1, R1, r1, r2⟩ := own_pair (-9223372036854775808 : Int64) (-9223372036854775808 : Int64)
    replace A42 : ownArr Z h48 b42 .long 4 (fun j => .long (ownT u0 v0 u1 v1 j)) := B.congr fun j hj => by
      congr 1
      rw [← r1, ← r2]
      by_cases q : (-9223372036854775808 : Int64) < (-9223372036854775808 : Int64)
      · simp only [ownCx, ownT, if_pos q]
        all_goals (rcases j with _ | _ | _ | _ | j <;> first | rfl | omega)
      · simp only [ownCx, ownT, if_neg q]
        all_goals (rcases j with _ | _ | _ | _ | j <;> first | rfl | omega)
    replace A39 := A39.keep K (ninS ne nin0)
    replace Y : n0 ≤ h48.size := Nat.le_trans Y K.1
    refine own_aload G48 at_137 rfl rfl ?_
    show ownGo _ _ _ _ _ _ _ T48 139 #[.val (.long q1), .second, .val (.long q2), .second, .val (.long q3), .second, .val (.long q4), .second, .val (.int p5), .val (.int (2 : Int32)), .val (.ref b39), .val (.ref b42)] [(.ref b42)]
    refine own_iconst G48 at_139 ?_
    show ownGo _ _ _ _ _ _ _ T48 140 #[.val (.long q1), .second, .val (.long q2), .second, .val (.long q3), .second, .val (.long q4), .second, .val (.int p5), .val (.int (2 : Int32)), .val (.ref b39), .val (.ref b42)] [(.int (0 : Int32)), (.ref b42)]
    refine own_iconst G48 at_140 ?_
    show ownGo _ _ _ _ _ _ _ T48 141 #[.val (.long q1), .second, .val (.long q2), .second, .val (.long q3), .second, .val (.long q4), .second, .val (.int p5), .val (.int (2 : Int32)), .val (.ref b39), .val (.ref b42)] [(.int (2 : Int32)), (.int (0 : Int32)), (.ref b42)]
    refine own_callS G48 at_141 (y := (⟨"org/matchwright/InstantiationSortNewestFirstPinLaw", "cx", "([JII)V"⟩ : MethodName)) (hw _ (List.mem_of_getElem? (i := 2) rfl)) (hw _ (List.mem_of_getElem? (i := 3) rfl)) (hw _ (List.mem_of_getElem? (i := 4) rfl)) (hw _ (List.mem_of_getElem? (i := 5) rfl)) (by decide) (argsL := [(.ref b42), (.int (0 : Int32)), (.int (2 : Int32))]) (rest := []) (rmCx l Z a0 hw b42 _ _ (ownT u0 v0 u1 v1) 0 2 h48 n0 Y A42 (by decide) (by decide) rfl rfl f2) rfl rfl rfl (lenOf pd_0 rfl) (W := 0) (Nat.le_of_eq rfl) (by decide) (by decide) (by decide) (by decide) ?_
    intro v49 T49 h49 hq49 G49
    obtain ⟨rfl, K, B⟩ := hq49
    show ownGo _ _ _ _ _ _ _ T49 144 #[.val (.long q1), .second, .val (.long q2), .second, .val (.long q3), .second, .val (.long q4), .second, .val (.int p5), .val (.int (2 : Int32)), .val (.ref b39), .val (.ref b42)] []
    obtain ⟨u2, v2, R2, r1, r2⟩ := own_pair u0 u1
    replace A42 : ownArr Z h49 b42 .long 4 (fun j => .long (ownT u2 v0 v2 v1 j)) := B.congr fun j hj => by
      congr 1
      rw [← r1, ← r2]
      by_cases q : u0 < u1
      · simp only [ownCx, ownT, if_pos q]
        all_goals (rcases j with _ | _ | _ | _ | j <;> first | rfl | omega)
      · simp only [ownCx, ownT, if_neg q]
        all_goals (rcases j with _ | _ | _ | _ | j <;> first | rfl | omega)
    replace A39 := A39.keep K (ninS ne nin0)
    replace Y : n0 ≤ h49.size := Nat.le_trans Y K.1
    refine own_aload G49 at_144 rfl rfl ?_
    show ownGo _ _ _ _ _ _ _ T49 146 #[.val (.long q1), .second, .val (.long q2), .second, .val (.long q3), .second, .val (.long q4), .second, .val (.int p5), .val (.int (2 : Int32)), .val (.ref b39), .val (.ref b42)] [(.ref b42)]
    refine own_iconst G49 at_146 ?_
    show ownGo _ _ _ _ _ _ _ T49 147 #[.val (.long q1), .second, .val (.long q2), .second, .val (.long q3), .second, .val (.long q4), .second, .val (.int p5), .val (.int (2 : Int32)), .val (.ref b39), .val (.ref b42)] [(.int (1 : Int32)), (.ref b42)]
    refine own_iconst G49 at_147 ?_
    show ownGo _ _ _ _ _ _ _ T49 148 #[.val (.long q1), .second, .val (.long q2), .second, .val (.long q3), .second, .val (.long q4), .second, .val (.int p5), .val (.int (2 : Int32)), .val (.ref b39), .val (.ref b42)] [(.int (3 : Int32)), (.int (1 : Int32)), (.ref b42)]
    refine own_callS G49 at_148 (y := (⟨"org/matchwright/InstantiationSortNewestFirstPinLaw", "cx", "([JII)V"⟩ : MethodName)) (hw _ (List.mem_of_getElem? (i := 2) rfl)) (hw _ (List.mem_of_getElem? (i := 3) rfl)) (hw _ (List.mem_of_getElem? (i := 4) rfl)) (hw _ (List.mem_of_getElem? (i := 5) rfl)) (by decide) (argsL := [(.ref b42), (.int (1 : Int32)), (.int (3 : Int32))]) (rest := []) (rmCx l Z a0 hw b42 _ _ (ownT u2 v0 v2 v1) 1 3 h49 n0 Y A42 (by decide) (by decide) rfl rfl f2) rfl rfl rfl (lenOf pd_0 rfl) (W := 0) (Nat.le_of_eq rfl) (by decide) (by decide) (by decide) (by decide) ?_
    intro v50 T50 h50 hq50 G50
    obtain ⟨rfl, K, B⟩ := hq50
    show ownGo _ _ _ _ _ _ _ T50 151 #[.val (.long q1), .second, .val (.long q2), .second, .val (.long q3), .second, .val (.long q4), .second, .val (.int p5), .val (.int (2 : Int32)), .val (.ref b39), .val (.ref b42)] []
    obtain ⟨u3, v3, R3, r1, r2⟩ := own_pair v0 v1
    replace A42 : ownArr Z h50 b42 .long 4 (fun j => .long (ownT u2 u3 v2 v3 j)) := B.congr fun j hj => by
      congr 1
      rw [← r1, ← r2]
      by_cases q : v0 < v1
      · simp only [ownCx, ownT, if_pos q]
        all_goals (rcases j with _ | _ | _ | _ | j <;> first | rfl | omega)
      · simp only [ownCx, ownT, if_neg q]
        all_goals (rcases j with _ | _ | _ | _ | j <;> first | rfl | omega)
    replace A39 := A39.keep K (ninS ne nin0)
    replace Y : n0 ≤ h50.size := Nat.le_trans Y K.1
    refine own_aload G50 at_151 rfl rfl ?_
    show ownGo _ _ _ _ _ _ _ T50 153 #[.val (.long q1), .second, .val (.long q2), .second, .val (.long q3), .second, .val (.long q4), .second, .val (.int p5), .val (.int (2 : Int32)), .val (.ref b39), .val (.ref b42)] [(.ref b42)]
    refine own_iconst G50 at_153 ?_
    show ownGo _ _ _ _ _ _ _ T50 154 #[.val (.long q1), .second, .val (.long q2), .second, .val (.long q3), .second, .val (.long q4), .second, .val (.int p5), .val (.int (2 : Int32)), .val (.ref b39), .val (.ref b42)] [(.int (1 : Int32)), (.ref b42)]
    refine own_iconst G50 at_154 ?_
    show ownGo _ _ _ _ _ _ _ T50 155 #[.val (.long q1), .second, .val (.long q2), .second, .val (.long q3), .second, .val (.long q4), .second, .val (.int p5), .val (.int (2 : Int32)), .val (.ref b39), .val (.ref b42)] [(.int (2 : Int32)), (.int (1 : Int32)), (.ref b42)]
    refine own_callS G50 at_155 (y := (⟨"org/matchwright/InstantiationSortNewestFirstPinLaw", "cx", "([JII)V"⟩ : MethodName)) (hw _ (List.mem_of_getElem? (i := 2) rfl)) (hw _ (List.mem_of_getElem? (i := 3) rfl)) (hw _ (List.mem_of_getElem? (i := 4) rfl)) (hw _ (List.mem_of_getElem? (i := 5) rfl)) (by decide) (argsL := [(.ref b42), (.int (1 : Int32)), (.int (2 : Int32))]) (rest := []) (rmCx l Z a0 hw b42 _ _ (ownT u2 u3 v2 v3) 1 2 h50 n0 Y A42 (by decide) (by decide) rfl rfl f2) rfl rfl rfl (lenOf pd_0 rfl) (W := 0) (Nat.le_of_eq rfl) (by decide) (by decide) (by decide) (by decide) ?_
    intro v51 T51 h51 hq51 G51
    obtain ⟨rfl, K, B⟩ := hq51
    show ownGo _ _ _ _ _ _ _ T51 158 #[.val (.long q1), .second, .val (.long q2), .second, .val (.long q3), .second, .val (.long q4), .second, .val (.int p5), .val (.int (2 : Int32)), .val (.ref b39), .val (.ref b42)] []
    obtain ⟨u4, v4, R4, r1, r2⟩ := own_pair u3 v2
    replace A42 : ownArr Z h51 b42 .long 4 (fun j => .long (ownT u2 u4 v4 v3 j)) := B.congr fun j hj => by
      congr 1
      rw [← r1, ← r2]
      by_cases q : u3 < v2
      · simp only [ownCx, ownT, if_pos q]
        all_goals (rcases j with _ | _ | _ | _ | j <;> first | rfl | omega)
      · simp only [ownCx, ownT, if_neg q]
        all_goals (rcases j with _ | _ | _ | _ | j <;> first | rfl | omega)
    replace A39 := A39.keep K (ninS ne nin0)
    replace Y : n0 ≤ h51.size := Nat.le_trans Y K.1
    refine own_aload G51 at_158 rfl rfl ?_
    show ownGo _ _ _ _ _ _ _ T51 160 #[.val (.long q1), .second, .val (.long q2), .second, .val (.long q3), .second, .val (.long q4), .second, .val (.int p5), .val (.int (2 : Int32)), .val (.ref b39), .val (.ref b42)] [(.ref b39)]
    refine own_callS G51 at_160 (y := (⟨"org/matchwright/Instantiation", "sortNewestFirst", "([J)V"⟩ : MethodName)) (hw _ (List.mem_of_getElem? (i := 6) rfl)) (hw _ (List.mem_of_getElem? (i := 7) rfl)) (hw _ (List.mem_of_getElem? (i := 8) rfl)) (hw _ (List.mem_of_getElem? (i := 9) rfl)) (by decide) (argsL := [(.ref b39)]) (rest := []) (rmSort l Z a0 hw b39 (ownT q1 q2 q3 q4) 2 h51 n0 Y A39 (by decide) f1) rfl rfl rfl (lenOf pd_1 rfl) (W := 0) (Nat.le_of_eq rfl) (by decide) (by decide) (by decide) (by decide) ?_
    intro v52 T52 h52 hq52 G52
    obtain ⟨rfl, K, B⟩ := hq52
    show ownGo _ _ _ _ _ _ _ T52 163 #[.val (.long q1), .second, .val (.long q2), .second, .val (.long q3), .second, .val (.long q4), .second, .val (.int p5), .val (.int (2 : Int32)), .val (.ref b39), .val (.ref b42)] []
    replace A42 := A42.keep K (ninS ne.symm nin0)
    replace A39 := B
    replace Y : n0 ≤ h52.size := Nat.le_trans Y K.1
    have LW := own_law2 rfl rfl R0 R1 R2 R3 R4 q3 q4
    refine own_aload G52 at_163 rfl rfl ?_
    show ownGo _ _ _ _ _ _ _ T52 165 #[.val (.long q1), .second, .val (.long q2), .second, .val (.long q3), .second, .val (.long q4), .second, .val (.int p5), .val (.int (2 : Int32)), .val (.ref b39), .val (.ref b42)] [(.ref b39)]
    refine own_arraylength G52 at_165 A39 ?_
    show ownGo _ _ _ _ _ _ _ T52 166 #[.val (.long q1), .second, .val (.long q2), .second, .val (.long q3), .second, .val (.long q4), .second, .val (.int p5), .val (.int (2 : Int32)), .val (.ref b39), .val (.ref b42)] [(.int (2 : Int32))]
    refine own_iload G52 at_166 rfl ?_
    show ownGo _ _ _ _ _ _ _ T52 168 #[.val (.long q1), .second, .val (.long q2), .second, .val (.long q3), .second, .val (.long q4), .second, .val (.int p5), .val (.int (2 : Int32)), .val (.ref b39), .val (.ref b42)] [(.int (2 : Int32)), (.int (2 : Int32))]
    refine own_icmp_ne G52 at_168 (pc' := 219) (by decide) (by decide) (fun hc => False.elim (hc rfl)) (fun hc => ?_)
    show ownGo _ _ _ _ _ _ _ T52 171 #[.val (.long q1), .second, .val (.long q2), .second, .val (.long q3), .second, .val (.long q4), .second, .val (.int p5), .val (.int (2 : Int32)), .val (.ref b39), .val (.ref b42)] []
    refine own_aload G52 at_171 rfl rfl ?_
    show ownGo _ _ _ _ _ _ _ T52 173 #[.val (.long q1), .second, .val (.long q2), .second, .val (.long q3), .second, .val (.long q4), .second, .val (.int p5), .val (.int (2 : Int32)), .val (.ref b39), .val (.ref b42)] [(.ref b39)]
    refine own_aload G52 at_173 rfl rfl ?_
    show ownGo _ _ _ _ _ _ _ T52 175 #[.val (.long q1), .second, .val (.long q2), .second, .val (.long q3), .second, .val (.long q4), .second, .val (.int p5), .val (.int (2 : Int32)), .val (.ref b39), .val (.ref b42)] [(.ref b42), (.ref b39)]
    refine own_iconst G52 at_175 ?_
    show ownGo _ _ _ _ _ _ _ T52 176 #[.val (.long q1), .second, .val (.long q2), .second, .val (.long q3), .second, .val (.long q4), .second, .val (.int p5), .val (.int (2 : Int32)), .val (.ref b39), .val (.ref b42)] [(.int (0 : Int32)), (.ref b42), (.ref b39)]
    refine own_callS G52 at_176 (y := (⟨"org/matchwright/InstantiationSortNewestFirstPinLaw", "same", "([J[JI)Z"⟩ : MethodName)) (hw _ (List.mem_of_getElem? (i := 10) rfl)) (hw _ (List.mem_of_getElem? (i := 11) rfl)) (hw _ (List.mem_of_getElem? (i := 4) rfl)) (hw _ (List.mem_of_getElem? (i := 12) rfl)) (by decide) (argsL := [(.ref b39), (.ref b42), (.int (0 : Int32))]) (rest := []) (rmSame l Z a0 hw b39 b42 _ (ownOuter (ownT q1 q2 q3 q4) (2 - 1) 1) (ownT u2 u4 v4 v3) 2 0 h52 n0 Y A39 A42 (by decide) (by decide) rfl (fun _ => LW.1)) rfl rfl rfl (lenOf pd_2 rfl) (W := 0) (Nat.le_of_eq rfl) (by decide) (by decide) (by decide) (by decide) ?_
    intro v53 T53 h53 hq53 G53
    obtain ⟨rfl, rfl⟩ := hq53
    show ownGo _ _ _ _ _ _ _ T53 179 #[.val (.long q1), .second, .val (.long q2), .second, .val (.long q3), .second, .val (.long q4), .second, .val (.int p5), .val (.int (2 : Int32)), .val (.ref b39), .val (.ref b42)] [(.int (1 : Int32))]
    refine own_if_eq G53 at_179 (pc' := 219) (by decide) (by decide) (fun hc => False.elim (absurd hc (by decide))) (fun hc => ?_)
    show ownGo _ _ _ _ _ _ _ T53 182 #[.val (.long q1), .second, .val (.long q2), .second, .val (.long q3), .second, .val (.long q4), .second, .val (.int p5), .val (.int (2 : Int32)), .val (.ref b39), .val (.ref b42)] []
    refine own_aload G53 at_182 rfl rfl ?_
    show ownGo _ _ _ _ _ _ _ T53 184 #[.val (.long q1), .second, .val (.long q2), .second, .val (.long q3), .second, .val (.long q4), .second, .val (.int p5), .val (.int (2 : Int32)), .val (.ref b39), .val (.ref b42)] [(.ref b39)]
    refine own_aload G53 at_184 rfl rfl ?_
    show ownGo _ _ _ _ _ _ _ T53 186 #[.val (.long q1), .second, .val (.long q2), .second, .val (.long q3), .second, .val (.long q4), .second, .val (.int p5), .val (.int (2 : Int32)), .val (.ref b39), .val (.ref b42)] [(.ref b42), (.ref b39)]
    refine own_iconst G53 at_186 ?_
    show ownGo _ _ _ _ _ _ _ T53 187 #[.val (.long q1), .second, .val (.long q2), .second, .val (.long q3), .second, .val (.long q4), .second, .val (.int p5), .val (.int (2 : Int32)), .val (.ref b39), .val (.ref b42)] [(.int (1 : Int32)), (.ref b42), (.ref b39)]
    refine own_callS G53 at_187 (y := (⟨"org/matchwright/InstantiationSortNewestFirstPinLaw", "same", "([J[JI)Z"⟩ : MethodName)) (hw _ (List.mem_of_getElem? (i := 10) rfl)) (hw _ (List.mem_of_getElem? (i := 11) rfl)) (hw _ (List.mem_of_getElem? (i := 4) rfl)) (hw _ (List.mem_of_getElem? (i := 12) rfl)) (by decide) (argsL := [(.ref b39), (.ref b42), (.int (1 : Int32))]) (rest := []) (rmSame l Z a0 hw b39 b42 _ (ownOuter (ownT q1 q2 q3 q4) (2 - 1) 1) (ownT u2 u4 v4 v3) 2 1 h52 n0 Y A39 A42 (by decide) (by decide) rfl (fun _ => LW.2)) rfl rfl rfl (lenOf pd_2 rfl) (W := 0) (Nat.le_of_eq rfl) (by decide) (by decide) (by decide) (by decide) ?_
    intro v54 T54 h54 hq54 G54
    obtain ⟨rfl, rfl⟩ := hq54
    show ownGo _ _ _ _ _ _ _ T54 190 #[.val (.long q1), .second, .val (.long q2), .second, .val (.long q3), .second, .val (.long q4), .second, .val (.int p5), .val (.int (2 : Int32)), .val (.ref b39), .val (.ref b42)] [(.int (1 : Int32))]
    refine own_if_eq G54 at_190 (pc' := 219) (by decide) (by decide) (fun hc => False.elim (absurd hc (by decide))) (fun hc => ?_)
    show ownGo _ _ _ _ _ _ _ T54 193 #[.val (.long q1), .second, .val (.long q2), .second, .val (.long q3), .second, .val (.long q4), .second, .val (.int p5), .val (.int (2 : Int32)), .val (.ref b39), .val (.ref b42)] []
    refine own_aload G54 at_193 rfl rfl ?_
    show ownGo _ _ _ _ _ _ _ T54 195 #[.val (.long q1), .second, .val (.long q2), .second, .val (.long q3), .second, .val (.long q4), .second, .val (.int p5), .val (.int (2 : Int32)), .val (.ref b39), .val (.ref b42)] [(.ref b39)]
    refine own_aload G54 at_195 rfl rfl ?_
    show ownGo _ _ _ _ _ _ _ T54 197 #[.val (.long q1), .second, .val (.long q2), .second, .val (.long q3), .second, .val (.long q4), .second, .val (.int p5), .val (.int (2 : Int32)), .val (.ref b39), .val (.ref b42)] [(.ref b42), (.ref b39)]
    refine own_iconst G54 at_197 ?_
    show ownGo _ _ _ _ _ _ _ T54 198 #[.val (.long q1), .second, .val (.long q2), .second, .val (.long q3), .second, .val (.long q4), .second, .val (.int p5), .val (.int (2 : Int32)), .val (.ref b39), .val (.ref b42)] [(.int (2 : Int32)), (.ref b42), (.ref b39)]
    refine own_callS G54 at_198 (y := (⟨"org/matchwright/InstantiationSortNewestFirstPinLaw", "same", "([J[JI)Z"⟩ : MethodName)) (hw _ (List.mem_of_getElem? (i := 10) rfl)) (hw _ (List.mem_of_getElem? (i := 11) rfl)) (hw _ (List.mem_of_getElem? (i := 4) rfl)) (hw _ (List.mem_of_getElem? (i := 12) rfl)) (by decide) (argsL := [(.ref b39), (.ref b42), (.int (2 : Int32))]) (rest := []) (rmSame l Z a0 hw b39 b42 _ (ownOuter (ownT q1 q2 q3 q4) (2 - 1) 1) (ownT u2 u4 v4 v3) 2 2 h52 n0 Y A39 A42 (by decide) (by decide) rfl (fun q => absurd q (by decide))) rfl rfl rfl (lenOf pd_2 rfl) (W := 0) (Nat.le_of_eq rfl) (by decide) (by decide) (by decide) (by decide) ?_
    intro v55 T55 h55 hq55 G55
    obtain ⟨rfl, rfl⟩ := hq55
    show ownGo _ _ _ _ _ _ _ T55 201 #[.val (.long q1), .second, .val (.long q2), .second, .val (.long q3), .second, .val (.long q4), .second, .val (.int p5), .val (.int (2 : Int32)), .val (.ref b39), .val (.ref b42)] [(.int (1 : Int32))]
    refine own_if_eq G55 at_201 (pc' := 219) (by decide) (by decide) (fun hc => False.elim (absurd hc (by decide))) (fun hc => ?_)
    show ownGo _ _ _ _ _ _ _ T55 204 #[.val (.long q1), .second, .val (.long q2), .second, .val (.long q3), .second, .val (.long q4), .second, .val (.int p5), .val (.int (2 : Int32)), .val (.ref b39), .val (.ref b42)] []
    refine own_aload G55 at_204 rfl rfl ?_
    show ownGo _ _ _ _ _ _ _ T55 206 #[.val (.long q1), .second, .val (.long q2), .second, .val (.long q3), .second, .val (.long q4), .second, .val (.int p5), .val (.int (2 : Int32)), .val (.ref b39), .val (.ref b42)] [(.ref b39)]
    refine own_aload G55 at_206 rfl rfl ?_
    show ownGo _ _ _ _ _ _ _ T55 208 #[.val (.long q1), .second, .val (.long q2), .second, .val (.long q3), .second, .val (.long q4), .second, .val (.int p5), .val (.int (2 : Int32)), .val (.ref b39), .val (.ref b42)] [(.ref b42), (.ref b39)]
    refine own_iconst G55 at_208 ?_
    show ownGo _ _ _ _ _ _ _ T55 209 #[.val (.long q1), .second, .val (.long q2), .second, .val (.long q3), .second, .val (.long q4), .second, .val (.int p5), .val (.int (2 : Int32)), .val (.ref b39), .val (.ref b42)] [(.int (3 : Int32)), (.ref b42), (.ref b39)]
    refine own_callS G55 at_209 (y := (⟨"org/matchwright/InstantiationSortNewestFirstPinLaw", "same", "([J[JI)Z"⟩ : MethodName)) (hw _ (List.mem_of_getElem? (i := 10) rfl)) (hw _ (List.mem_of_getElem? (i := 11) rfl)) (hw _ (List.mem_of_getElem? (i := 4) rfl)) (hw _ (List.mem_of_getElem? (i := 12) rfl)) (by decide) (argsL := [(.ref b39), (.ref b42), (.int (3 : Int32))]) (rest := []) (rmSame l Z a0 hw b39 b42 _ (ownOuter (ownT q1 q2 q3 q4) (2 - 1) 1) (ownT u2 u4 v4 v3) 2 3 h52 n0 Y A39 A42 (by decide) (by decide) rfl (fun q => absurd q (by decide))) rfl rfl rfl (lenOf pd_2 rfl) (W := 0) (Nat.le_of_eq rfl) (by decide) (by decide) (by decide) (by decide) ?_
    intro v56 T56 h56 hq56 G56
    obtain ⟨rfl, rfl⟩ := hq56
    show ownGo _ _ _ _ _ _ _ T56 212 #[.val (.long q1), .second, .val (.long q2), .second, .val (.long q3), .second, .val (.long q4), .second, .val (.int p5), .val (.int (2 : Int32)), .val (.ref b39), .val (.ref b42)] [(.int (1 : Int32))]
    refine own_if_eq G56 at_212 (pc' := 219) (by decide) (by decide) (fun hc => False.elim (absurd hc (by decide))) (fun hc => ?_)
    show ownGo _ _ _ _ _ _ _ T56 215 #[.val (.long q1), .second, .val (.long q2), .second, .val (.long q3), .second, .val (.long q4), .second, .val (.int p5), .val (.int (2 : Int32)), .val (.ref b39), .val (.ref b42)] []
    refine own_iconst G56 at_215 ?_
    show ownGo _ _ _ _ _ _ _ T56 216 #[.val (.long q1), .second, .val (.long q2), .second, .val (.long q3), .second, .val (.long q4), .second, .val (.int p5), .val (.int (2 : Int32)), .val (.ref b39), .val (.ref b42)] [(.int (1 : Int32))]
    refine own_goto G56 at_216 (pc' := 220) (by decide) (by decide) ?_
    show ownGo _ _ _ _ _ _ _ T56 220 #[.val (.long q1), .second, .val (.long q2), .second, .val (.long q3), .second, .val (.long q4), .second, .val (.int p5), .val (.int (2 : Int32)), .val (.ref b39), .val (.ref b42)] [(.int (1 : Int32))]
    exact own_zreturn G56 at_220 rfl (by decide) (by decide) rfl
  · rw [e]
    show ownGo _ _ _ _ _ _ _ T0 7 #[.val (.long q1), .second, .val (.long q2), .second, .val (.long q3), .second, .val (.long q4), .second, .val (.int p5), .unset, .unset, .unset] [(.int (3 : Int32))]
    refine own_istore G0 at_7 (L' := #[.val (.long q1), .second, .val (.long q2), .second, .val (.long q3), .second, .val (.long q4), .second, .val (.int p5), .val (.int (3 : Int32)), .unset, .unset]) rfl ?_
    show ownGo _ _ _ _ _ _ _ T0 9 #[.val (.long q1), .second, .val (.long q2), .second, .val (.long q3), .second, .val (.long q4), .second, .val (.int p5), .val (.int (3 : Int32)), .unset, .unset] []
    refine own_iload G0 at_9 rfl ?_
    show ownGo _ _ _ _ _ _ _ T0 11 #[.val (.long q1), .second, .val (.long q2), .second, .val (.long q3), .second, .val (.long q4), .second, .val (.int p5), .val (.int (3 : Int32)), .unset, .unset] [(.int (3 : Int32))]
    refine own_newarr G0 at_11 (hw _ (List.mem_of_getElem? (i := 0) rfl)) (by decide) (k := 3) (cap := 3) (by decide) (by decide) (by decide) (by decide) (by decide) ?_
    intro T57 h57 b57 g57 E57 A57 G57
    replace A57 : ownArr Z h57 b57 .long 3 (fun _ => .long 0) := A57
    show ownGo _ _ _ _ _ _ _ T57 13 #[.val (.long q1), .second, .val (.long q2), .second, .val (.long q3), .second, .val (.long q4), .second, .val (.int p5), .val (.int (3 : Int32)), .unset, .unset] [(.ref b57)]
    have f1 : n0 ≤ b57 := Nat.le_trans Z0 (Nat.le_of_eq g57.symm)
    have Y : n0 ≤ h57.size := Nat.le_trans Z0 E57.1
    refine own_astore G57 at_13 (L' := #[.val (.long q1), .second, .val (.long q2), .second, .val (.long q3), .second, .val (.long q4), .second, .val (.int p5), .val (.int (3 : Int32)), .val (.ref b57), .unset]) rfl rfl ?_
    show ownGo _ _ _ _ _ _ _ T57 15 #[.val (.long q1), .second, .val (.long q2), .second, .val (.long q3), .second, .val (.long q4), .second, .val (.int p5), .val (.int (3 : Int32)), .val (.ref b57), .unset] []
    refine own_iload G57 at_15 rfl ?_
    show ownGo _ _ _ _ _ _ _ T57 17 #[.val (.long q1), .second, .val (.long q2), .second, .val (.long q3), .second, .val (.long q4), .second, .val (.int p5), .val (.int (3 : Int32)), .val (.ref b57), .unset] [(.int (3 : Int32))]
    refine own_if_le G57 at_17 (pc' := 25) (by decide) (by decide) (fun hc => False.elim (absurd hc (by decide))) (fun hc => ?_)
    show ownGo _ _ _ _ _ _ _ T57 20 #[.val (.long q1), .second, .val (.long q2), .second, .val (.long q3), .second, .val (.long q4), .second, .val (.int p5), .val (.int (3 : Int32)), .val (.ref b57), .unset] []
    refine own_aload G57 at_20 rfl rfl ?_
    show ownGo _ _ _ _ _ _ _ T57 22 #[.val (.long q1), .second, .val (.long q2), .second, .val (.long q3), .second, .val (.long q4), .second, .val (.int p5), .val (.int (3 : Int32)), .val (.ref b57), .unset] [(.ref b57)]
    refine own_iconst G57 at_22 ?_
    show ownGo _ _ _ _ _ _ _ T57 23 #[.val (.long q1), .second, .val (.long q2), .second, .val (.long q3), .second, .val (.long q4), .second, .val (.int p5), .val (.int (3 : Int32)), .val (.ref b57), .unset] [(.int (0 : Int32)), (.ref b57)]
    refine own_lloadN G57 at_23 rfl ?_
    show ownGo _ _ _ _ _ _ _ T57 24 #[.val (.long q1), .second, .val (.long q2), .second, .val (.long q3), .second, .val (.long q4), .second, .val (.int p5), .val (.int (3 : Int32)), .val (.ref b57), .unset] [(.long q1), (.int (0 : Int32)), (.ref b57)]
    refine own_lastore G57 at_24 A57 (i := 0) (by decide) f1 ?_
    intro T58 h58 W58 G58
    show ownGo _ _ _ _ _ _ _ T58 25 #[.val (.long q1), .second, .val (.long q2), .second, .val (.long q3), .second, .val (.long q4), .second, .val (.int p5), .val (.int (3 : Int32)), .val (.ref b57), .unset] []
    replace A57 := A57.same W58
    replace Y : n0 ≤ h58.size := by rw [W58.size]; exact Y
    refine own_iload G58 at_25 rfl ?_
    show ownGo _ _ _ _ _ _ _ T58 27 #[.val (.long q1), .second, .val (.long q2), .second, .val (.long q3), .second, .val (.long q4), .second, .val (.int p5), .val (.int (3 : Int32)), .val (.ref b57), .unset] [(.int (3 : Int32))]
    refine own_iconst G58 at_27 ?_
    show ownGo _ _ _ _ _ _ _ T58 28 #[.val (.long q1), .second, .val (.long q2), .second, .val (.long q3), .second, .val (.long q4), .second, .val (.int p5), .val (.int (3 : Int32)), .val (.ref b57), .unset] [(.int (1 : Int32)), (.int (3 : Int32))]
    refine own_icmp_le G58 at_28 (pc' := 36) (by decide) (by decide) (fun hc => False.elim (absurd hc (by decide))) (fun hc => ?_)
    show ownGo _ _ _ _ _ _ _ T58 31 #[.val (.long q1), .second, .val (.long q2), .second, .val (.long q3), .second, .val (.long q4), .second, .val (.int p5), .val (.int (3 : Int32)), .val (.ref b57), .unset] []
    refine own_aload G58 at_31 rfl rfl ?_
    show ownGo _ _ _ _ _ _ _ T58 33 #[.val (.long q1), .second, .val (.long q2), .second, .val (.long q3), .second, .val (.long q4), .second, .val (.int p5), .val (.int (3 : Int32)), .val (.ref b57), .unset] [(.ref b57)]
    refine own_iconst G58 at_33 ?_
    show ownGo _ _ _ _ _ _ _ T58 34 #[.val (.long q1), .second, .val (.long q2), .second, .val (.long q3), .second, .val (.long q4), .second, .val (.int p5), .val (.int (3 : Int32)), .val (.ref b57), .unset] [(.int (1 : Int32)), (.ref b57)]
    refine own_lloadN G58 at_34 rfl ?_
    show ownGo _ _ _ _ _ _ _ T58 35 #[.val (.long q1), .second, .val (.long q2), .second, .val (.long q3), .second, .val (.long q4), .second, .val (.int p5), .val (.int (3 : Int32)), .val (.ref b57), .unset] [(.long q2), (.int (1 : Int32)), (.ref b57)]
    refine own_lastore G58 at_35 A57 (i := 1) (by decide) f1 ?_
    intro T59 h59 W59 G59
    show ownGo _ _ _ _ _ _ _ T59 36 #[.val (.long q1), .second, .val (.long q2), .second, .val (.long q3), .second, .val (.long q4), .second, .val (.int p5), .val (.int (3 : Int32)), .val (.ref b57), .unset] []
    replace A57 := A57.same W59
    replace Y : n0 ≤ h59.size := by rw [W59.size]; exact Y
    refine own_iload G59 at_36 rfl ?_
    show ownGo _ _ _ _ _ _ _ T59 38 #[.val (.long q1), .second, .val (.long q2), .second, .val (.long q3), .second, .val (.long q4), .second, .val (.int p5), .val (.int (3 : Int32)), .val (.ref b57), .unset] [(.int (3 : Int32))]
    refine own_iconst G59 at_38 ?_
    show ownGo _ _ _ _ _ _ _ T59 39 #[.val (.long q1), .second, .val (.long q2), .second, .val (.long q3), .second, .val (.long q4), .second, .val (.int p5), .val (.int (3 : Int32)), .val (.ref b57), .unset] [(.int (2 : Int32)), (.int (3 : Int32))]
    refine own_icmp_le G59 at_39 (pc' := 48) (by decide) (by decide) (fun hc => False.elim (absurd hc (by decide))) (fun hc => ?_)
    show ownGo _ _ _ _ _ _ _ T59 42 #[.val (.long q1), .second, .val (.long q2), .second, .val (.long q3), .second, .val (.long q4), .second, .val (.int p5), .val (.int (3 : Int32)), .val (.ref b57), .unset] []
    refine own_aload G59 at_42 rfl rfl ?_
    show ownGo _ _ _ _ _ _ _ T59 44 #[.val (.long q1), .second, .val (.long q2), .second, .val (.long q3), .second, .val (.long q4), .second, .val (.int p5), .val (.int (3 : Int32)), .val (.ref b57), .unset] [(.ref b57)]
    refine own_iconst G59 at_44 ?_
    show ownGo _ _ _ _ _ _ _ T59 45 #[.val (.long q1), .second, .val (.long q2), .second, .val (.long q3), .second, .val (.long q4), .second, .val (.int p5), .val (.int (3 : Int32)), .val (.ref b57), .unset] [(.int (2 : Int32)), (.ref b57)]
    refine own_lload G59 at_45 rfl ?_
    show ownGo _ _ _ _ _ _ _ T59 47 #[.val (.long q1), .second, .val (.long q2), .second, .val (.long q3), .second, .val (.long q4), .second, .val (.int p5), .val (.int (3 : Int32)), .val (.ref b57), .unset] [(.long q3), (.int (2 : Int32)), (.ref b57)]
    refine own_lastore G59 at_47 A57 (i := 2) (by decide) f1 ?_
    intro T60 h60 W60 G60
    show ownGo _ _ _ _ _ _ _ T60 48 #[.val (.long q1), .second, .val (.long q2), .second, .val (.long q3), .second, .val (.long q4), .second, .val (.int p5), .val (.int (3 : Int32)), .val (.ref b57), .unset] []
    replace A57 := A57.same W60
    replace Y : n0 ≤ h60.size := by rw [W60.size]; exact Y
    refine own_iload G60 at_48 rfl ?_
    show ownGo _ _ _ _ _ _ _ T60 50 #[.val (.long q1), .second, .val (.long q2), .second, .val (.long q3), .second, .val (.long q4), .second, .val (.int p5), .val (.int (3 : Int32)), .val (.ref b57), .unset] [(.int (3 : Int32))]
    refine own_iconst G60 at_50 ?_
    show ownGo _ _ _ _ _ _ _ T60 51 #[.val (.long q1), .second, .val (.long q2), .second, .val (.long q3), .second, .val (.long q4), .second, .val (.int p5), .val (.int (3 : Int32)), .val (.ref b57), .unset] [(.int (3 : Int32)), (.int (3 : Int32))]
    refine own_icmp_le G60 at_51 (pc' := 60) (by decide) (by decide) (fun hc => ?_) (fun hc => False.elim (absurd hc (by decide)))
    show ownGo _ _ _ _ _ _ _ T60 60 #[.val (.long q1), .second, .val (.long q2), .second, .val (.long q3), .second, .val (.long q4), .second, .val (.int p5), .val (.int (3 : Int32)), .val (.ref b57), .unset] []
    refine own_iconst G60 at_60 ?_
    show ownGo _ _ _ _ _ _ _ T60 61 #[.val (.long q1), .second, .val (.long q2), .second, .val (.long q3), .second, .val (.long q4), .second, .val (.int p5), .val (.int (3 : Int32)), .val (.ref b57), .unset] [(.int (4 : Int32))]
    replace A57 : ownArr Z h60 b57 .long 3 (fun j => .long (ownT q1 q2 q3 q4 j)) := A57.congr fun j hj => by
      rcases j with _ | _ | _ | j
      · rfl
      · rfl
      · rfl
      · omega
    refine own_newarr G60 at_61 (hw _ (List.mem_of_getElem? (i := 0) rfl)) (by decide) (k := 4) (cap := 4) (by decide) (by decide) (by decide) (by decide) (by decide) ?_
    intro T61 h61 b61 g61 E61 A61 G61
    replace A61 : ownArr Z h61 b61 .long 4 (fun _ => .long 0) := A61
    show ownGo _ _ _ _ _ _ _ T61 63 #[.val (.long q1), .second, .val (.long q2), .second, .val (.long q3), .second, .val (.long q4), .second, .val (.int p5), .val (.int (3 : Int32)), .val (.ref b57), .unset] [(.ref b61)]
    have f2 : n0 ≤ b61 := Nat.le_trans Y (Nat.le_of_eq g61.symm)
    have ne : b57 ≠ b61 := Nat.ne_of_lt (Nat.lt_of_lt_of_le A57.lt (Nat.le_of_eq g61.symm))
    replace A57 := A57.ext E61
    replace Y : n0 ≤ h61.size := Nat.le_trans Y E61.1
    refine own_astore G61 at_63 (L' := #[.val (.long q1), .second, .val (.long q2), .second, .val (.long q3), .second, .val (.long q4), .second, .val (.int p5), .val (.int (3 : Int32)), .val (.ref b57), .val (.ref b61)]) rfl rfl ?_
    show ownGo _ _ _ _ _ _ _ T61 65 #[.val (.long q1), .second, .val (.long q2), .second, .val (.long q3), .second, .val (.long q4), .second, .val (.int p5), .val (.int (3 : Int32)), .val (.ref b57), .val (.ref b61)] []
    refine own_aload G61 at_65 rfl rfl ?_
    show ownGo _ _ _ _ _ _ _ T61 67 #[.val (.long q1), .second, .val (.long q2), .second, .val (.long q3), .second, .val (.long q4), .second, .val (.int p5), .val (.int (3 : Int32)), .val (.ref b57), .val (.ref b61)] [(.ref b61)]
    refine own_iconst G61 at_67 ?_
    show ownGo _ _ _ _ _ _ _ T61 68 #[.val (.long q1), .second, .val (.long q2), .second, .val (.long q3), .second, .val (.long q4), .second, .val (.int p5), .val (.int (3 : Int32)), .val (.ref b57), .val (.ref b61)] [(.int (0 : Int32)), (.ref b61)]
    refine own_lloadN G61 at_68 rfl ?_
    show ownGo _ _ _ _ _ _ _ T61 69 #[.val (.long q1), .second, .val (.long q2), .second, .val (.long q3), .second, .val (.long q4), .second, .val (.int p5), .val (.int (3 : Int32)), .val (.ref b57), .val (.ref b61)] [(.long q1), (.int (0 : Int32)), (.ref b61)]
    refine own_lastore G61 at_69 A61 (i := 0) (by decide) f2 ?_
    intro T62 h62 W62 G62
    show ownGo _ _ _ _ _ _ _ T62 70 #[.val (.long q1), .second, .val (.long q2), .second, .val (.long q3), .second, .val (.long q4), .second, .val (.int p5), .val (.int (3 : Int32)), .val (.ref b57), .val (.ref b61)] []
    replace A61 := A61.same W62
    replace A57 := A57.other W62 ne
    replace Y : n0 ≤ h62.size := by rw [W62.size]; exact Y
    refine own_aload G62 at_70 rfl rfl ?_
    show ownGo _ _ _ _ _ _ _ T62 72 #[.val (.long q1), .second, .val (.long q2), .second, .val (.long q3), .second, .val (.long q4), .second, .val (.int p5), .val (.int (3 : Int32)), .val (.ref b57), .val (.ref b61)] [(.ref b61)]
    refine own_iconst G62 at_72 ?_
    show ownGo _ _ _ _ _ _ _ T62 73 #[.val (.long q1), .second, .val (.long q2), .second, .val (.long q3), .second, .val (.long q4), .second, .val (.int p5), .val (.int (3 : Int32)), .val (.ref b57), .val (.ref b61)] [(.int (1 : Int32)), (.ref b61)]
    refine own_iload G62 at_73 rfl ?_
    show ownGo _ _ _ _ _ _ _ T62 75 #[.val (.long q1), .second, .val (.long q2), .second, .val (.long q3), .second, .val (.long q4), .second, .val (.int p5), .val (.int (3 : Int32)), .val (.ref b57), .val (.ref b61)] [(.int (3 : Int32)), (.int (1 : Int32)), (.ref b61)]
    refine own_iconst G62 at_75 ?_
    show ownGo _ _ _ _ _ _ _ T62 76 #[.val (.long q1), .second, .val (.long q2), .second, .val (.long q3), .second, .val (.long q4), .second, .val (.int p5), .val (.int (3 : Int32)), .val (.ref b57), .val (.ref b61)] [(.int (1 : Int32)), (.int (3 : Int32)), (.int (1 : Int32)), (.ref b61)]
    refine own_icmp_le G62 at_76 (pc' := 83) (by decide) (by decide) (fun hc => False.elim (absurd hc (by decide))) (fun hc => ?_)
    show ownGo _ _ _ _ _ _ _ T62 79 #[.val (.long q1), .second, .val (.long q2), .second, .val (.long q3), .second, .val (.long q4), .second, .val (.int p5), .val (.int (3 : Int32)), .val (.ref b57), .val (.ref b61)] [(.int (1 : Int32)), (.ref b61)]
    refine own_lloadN G62 at_79 rfl ?_
    show ownGo _ _ _ _ _ _ _ T62 80 #[.val (.long q1), .second, .val (.long q2), .second, .val (.long q3), .second, .val (.long q4), .second, .val (.int p5), .val (.int (3 : Int32)), .val (.ref b57), .val (.ref b61)] [(.long q2), (.int (1 : Int32)), (.ref b61)]
    refine own_goto G62 at_80 (pc' := 86) (by decide) (by decide) ?_
    show ownGo _ _ _ _ _ _ _ T62 86 #[.val (.long q1), .second, .val (.long q2), .second, .val (.long q3), .second, .val (.long q4), .second, .val (.int p5), .val (.int (3 : Int32)), .val (.ref b57), .val (.ref b61)] [(.long q2), (.int (1 : Int32)), (.ref b61)]
    refine own_lastore G62 at_86 A61 (i := 1) (by decide) f2 ?_
    intro T63 h63 W63 G63
    show ownGo _ _ _ _ _ _ _ T63 87 #[.val (.long q1), .second, .val (.long q2), .second, .val (.long q3), .second, .val (.long q4), .second, .val (.int p5), .val (.int (3 : Int32)), .val (.ref b57), .val (.ref b61)] []
    replace A61 := A61.same W63
    replace A57 := A57.other W63 ne
    replace Y : n0 ≤ h63.size := by rw [W63.size]; exact Y
    refine own_aload G63 at_87 rfl rfl ?_
    show ownGo _ _ _ _ _ _ _ T63 89 #[.val (.long q1), .second, .val (.long q2), .second, .val (.long q3), .second, .val (.long q4), .second, .val (.int p5), .val (.int (3 : Int32)), .val (.ref b57), .val (.ref b61)] [(.ref b61)]
    refine own_iconst G63 at_89 ?_
    show ownGo _ _ _ _ _ _ _ T63 90 #[.val (.long q1), .second, .val (.long q2), .second, .val (.long q3), .second, .val (.long q4), .second, .val (.int p5), .val (.int (3 : Int32)), .val (.ref b57), .val (.ref b61)] [(.int (2 : Int32)), (.ref b61)]
    refine own_iload G63 at_90 rfl ?_
    show ownGo _ _ _ _ _ _ _ T63 92 #[.val (.long q1), .second, .val (.long q2), .second, .val (.long q3), .second, .val (.long q4), .second, .val (.int p5), .val (.int (3 : Int32)), .val (.ref b57), .val (.ref b61)] [(.int (3 : Int32)), (.int (2 : Int32)), (.ref b61)]
    refine own_iconst G63 at_92 ?_
    show ownGo _ _ _ _ _ _ _ T63 93 #[.val (.long q1), .second, .val (.long q2), .second, .val (.long q3), .second, .val (.long q4), .second, .val (.int p5), .val (.int (3 : Int32)), .val (.ref b57), .val (.ref b61)] [(.int (2 : Int32)), (.int (3 : Int32)), (.int (2 : Int32)), (.ref b61)]
    refine own_icmp_le G63 at_93 (pc' := 101) (by decide) (by decide) (fun hc => False.elim (absurd hc (by decide))) (fun hc => ?_)
    show ownGo _ _ _ _ _ _ _ T63 96 #[.val (.long q1), .second, .val (.long q2), .second, .val (.long q3), .second, .val (.long q4), .second, .val (.int p5), .val (.int (3 : Int32)), .val (.ref b57), .val (.ref b61)] [(.int (2 : Int32)), (.ref b61)]
    refine own_lload G63 at_96 rfl ?_
    show ownGo _ _ _ _ _ _ _ T63 98 #[.val (.long q1), .second, .val (.long q2), .second, .val (.long q3), .second, .val (.long q4), .second, .val (.int p5), .val (.int (3 : Int32)), .val (.ref b57), .val (.ref b61)] [(.long q3), (.int (2 : Int32)), (.ref b61)]
    refine own_goto G63 at_98 (pc' := 104) (by decide) (by decide) ?_
    show ownGo _ _ _ _ _ _ _ T63 104 #[.val (.long q1), .second, .val (.long q2), .second, .val (.long q3), .second, .val (.long q4), .second, .val (.int p5), .val (.int (3 : Int32)), .val (.ref b57), .val (.ref b61)] [(.long q3), (.int (2 : Int32)), (.ref b61)]
    refine own_lastore G63 at_104 A61 (i := 2) (by decide) f2 ?_
    intro T64 h64 W64 G64
    show ownGo _ _ _ _ _ _ _ T64 105 #[.val (.long q1), .second, .val (.long q2), .second, .val (.long q3), .second, .val (.long q4), .second, .val (.int p5), .val (.int (3 : Int32)), .val (.ref b57), .val (.ref b61)] []
    replace A61 := A61.same W64
    replace A57 := A57.other W64 ne
    replace Y : n0 ≤ h64.size := by rw [W64.size]; exact Y
    refine own_aload G64 at_105 rfl rfl ?_
    show ownGo _ _ _ _ _ _ _ T64 107 #[.val (.long q1), .second, .val (.long q2), .second, .val (.long q3), .second, .val (.long q4), .second, .val (.int p5), .val (.int (3 : Int32)), .val (.ref b57), .val (.ref b61)] [(.ref b61)]
    refine own_iconst G64 at_107 ?_
    show ownGo _ _ _ _ _ _ _ T64 108 #[.val (.long q1), .second, .val (.long q2), .second, .val (.long q3), .second, .val (.long q4), .second, .val (.int p5), .val (.int (3 : Int32)), .val (.ref b57), .val (.ref b61)] [(.int (3 : Int32)), (.ref b61)]
    refine own_iload G64 at_108 rfl ?_
    show ownGo _ _ _ _ _ _ _ T64 110 #[.val (.long q1), .second, .val (.long q2), .second, .val (.long q3), .second, .val (.long q4), .second, .val (.int p5), .val (.int (3 : Int32)), .val (.ref b57), .val (.ref b61)] [(.int (3 : Int32)), (.int (3 : Int32)), (.ref b61)]
    refine own_iconst G64 at_110 ?_
    show ownGo _ _ _ _ _ _ _ T64 111 #[.val (.long q1), .second, .val (.long q2), .second, .val (.long q3), .second, .val (.long q4), .second, .val (.int p5), .val (.int (3 : Int32)), .val (.ref b57), .val (.ref b61)] [(.int (3 : Int32)), (.int (3 : Int32)), (.int (3 : Int32)), (.ref b61)]
    refine own_icmp_le G64 at_111 (pc' := 119) (by decide) (by decide) (fun hc => ?_) (fun hc => False.elim (absurd hc (by decide)))
    show ownGo _ _ _ _ _ _ _ T64 119 #[.val (.long q1), .second, .val (.long q2), .second, .val (.long q3), .second, .val (.long q4), .second, .val (.int p5), .val (.int (3 : Int32)), .val (.ref b57), .val (.ref b61)] [(.int (3 : Int32)), (.ref b61)]
    refine own_ldc2 G64 at_119 (hw _ (List.mem_of_getElem? (i := 1) rfl)) ?_
    show ownGo _ _ _ _ _ _ _ T64 122 #[.val (.long q1), .second, .val (.long q2), .second, .val (.long q3), .second, .val (.long q4), .second, .val (.int p5), .val (.int (3 : Int32)), .val (.ref b57), .val (.ref b61)] [(.long (-9223372036854775808 : Int64)), (.int (3 : Int32)), (.ref b61)]
    refine own_lastore G64 at_122 A61 (i := 3) (by decide) f2 ?_
    intro T65 h65 W65 G65
    show ownGo _ _ _ _ _ _ _ T65 123 #[.val (.long q1), .second, .val (.long q2), .second, .val (.long q3), .second, .val (.long q4), .second, .val (.int p5), .val (.int (3 : Int32)), .val (.ref b57), .val (.ref b61)] []
    replace A61 := A61.same W65
    replace A57 := A57.other W65 ne
    replace Y : n0 ≤ h65.size := by rw [W65.size]; exact Y
    replace A61 : ownArr Z h65 b61 .long 4 (fun j => .long (ownT q1 q2 q3 (-9223372036854775808 : Int64) j)) := A61.congr fun j hj => by
      rcases j with _ | _ | _ | _ | j
      · rfl
      · rfl
      · rfl
      · rfl
      · omega
    refine own_aload G65 at_123 rfl rfl ?_
    show ownGo _ _ _ _ _ _ _ T65 125 #[.val (.long q1), .second, .val (.long q2), .second, .val (.long q3), .second, .val (.long q4), .second, .val (.int p5), .val (.int (3 : Int32)), .val (.ref b57), .val (.ref b61)] [(.ref b61)]
    refine own_iconst G65 at_125 ?_
    show ownGo _ _ _ _ _ _ _ T65 126 #[.val (.long q1), .second, .val (.long q2), .second, .val (.long q3), .second, .val (.long q4), .second, .val (.int p5), .val (.int (3 : Int32)), .val (.ref b57), .val (.ref b61)] [(.int (0 : Int32)), (.ref b61)]
    refine own_iconst G65 at_126 ?_
    show ownGo _ _ _ _ _ _ _ T65 127 #[.val (.long q1), .second, .val (.long q2), .second, .val (.long q3), .second, .val (.long q4), .second, .val (.int p5), .val (.int (3 : Int32)), .val (.ref b57), .val (.ref b61)] [(.int (1 : Int32)), (.int (0 : Int32)), (.ref b61)]
    refine own_callS G65 at_127 (y := (⟨"org/matchwright/InstantiationSortNewestFirstPinLaw", "cx", "([JII)V"⟩ : MethodName)) (hw _ (List.mem_of_getElem? (i := 2) rfl)) (hw _ (List.mem_of_getElem? (i := 3) rfl)) (hw _ (List.mem_of_getElem? (i := 4) rfl)) (hw _ (List.mem_of_getElem? (i := 5) rfl)) (by decide) (argsL := [(.ref b61), (.int (0 : Int32)), (.int (1 : Int32))]) (rest := []) (rmCx l Z a0 hw b61 _ _ (ownT q1 q2 q3 (-9223372036854775808 : Int64)) 0 1 h65 n0 Y A61 (by decide) (by decide) rfl rfl f2) rfl rfl rfl (lenOf pd_0 rfl) (W := 0) (Nat.le_of_eq rfl) (by decide) (by decide) (by decide) (by decide) ?_
    intro v66 T66 h66 hq66 G66
    obtain ⟨rfl, K, B⟩ := hq66
    show ownGo _ _ _ _ _ _ _ T66 130 #[.val (.long q1), .second, .val (.long q2), .second, .val (.long q3), .second, .val (.long q4), .second, .val (.int p5), .val (.int (3 : Int32)), .val (.ref b57), .val (.ref b61)] []
    obtain ⟨u0, v0, R0, r1, r2⟩ := own_pair q1 q2
    replace A61 : ownArr Z h66 b61 .long 4 (fun j => .long (ownT u0 v0 q3 (-9223372036854775808 : Int64) j)) := B.congr fun j hj => by
      congr 1
      rw [← r1, ← r2]
      by_cases q : q1 < q2
      · simp only [ownCx, ownT, if_pos q]
        all_goals (rcases j with _ | _ | _ | _ | j <;> first | rfl | omega)
      · simp only [ownCx, ownT, if_neg q]
        all_goals (rcases j with _ | _ | _ | _ | j <;> first | rfl | omega)
    replace A57 := A57.keep K (ninS ne nin0)
    replace Y : n0 ≤ h66.size := Nat.le_trans Y K.1
    refine own_aload G66 at_130 rfl rfl ?_
    show ownGo _ _ _ _ _ _ _ T66 132 #[.val (.long q1), .second, .val (.long q2), .second, .val (.long q3), .second, .val (.long q4), .second, .val (.int p5), .val (.int (3 : Int32)), .val (.ref b57), .val (.ref b61)] [(.ref b61)]
    refine own_iconst G66 at_132 ?_
    show ownGo _ _ _ _ _ _ _ T66 133 #[.val (.long q1), .second, .val (.long q2), .second, .val (.long q3), .second, .val (.long q4), .second, .val (.int p5), .val (.int (3 : Int32)), .val (.ref b57), .val (.ref b61)] [(.int (2 : Int32)), (.ref b61)]
    refine own_iconst G66 at_133 ?_
    show ownGo _ _ _ _ _ _ _ T66 134 #[.val (.long q1), .second, .val (.long q2), .second, .val (.long q3), .second, .val (.long q4), .second, .val (.int p5), .val (.int (3 : Int32)), .val (.ref b57), .val (.ref b61)] [(.int (3 : Int32)), (.int (2 : Int32)), (.ref b61)]
    refine own_callS G66 at_134 (y := (⟨"org/matchwright/InstantiationSortNewestFirstPinLaw", "cx", "([JII)V"⟩ : MethodName)) (hw _ (List.mem_of_getElem? (i := 2) rfl)) (hw _ (List.mem_of_getElem? (i := 3) rfl)) (hw _ (List.mem_of_getElem? (i := 4) rfl)) (hw _ (List.mem_of_getElem? (i := 5) rfl)) (by decide) (argsL := [(.ref b61), (.int (2 : Int32)), (.int (3 : Int32))]) (rest := []) (rmCx l Z a0 hw b61 _ _ (ownT u0 v0 q3 (-9223372036854775808 : Int64)) 2 3 h66 n0 Y A61 (by decide) (by decide) rfl rfl f2) rfl rfl rfl (lenOf pd_0 rfl) (W := 0) (Nat.le_of_eq rfl) (by decide) (by decide) (by decide) (by decide) ?_
    intro v67 T67 h67 hq67 G67
    obtain ⟨rfl, K, B⟩ := hq67
    show ownGo _ _ _ _ _ _ _ T67 137 #[.val (.long q1), .second, .val (.long q2), .second, .val (.long q3), .second, .val (.long q4), .second, .val (.int p5), .val (.int (3 : Int32)), .val (.ref b57), .val (.ref b61)] []
    obtain ⟨u1, v1, R1, r1, r2⟩ := own_pair q3 (-9223372036854775808 : Int64)
    replace A61 : ownArr Z h67 b61 .long 4 (fun j => .long (ownT u0 v0 u1 v1 j)) := B.congr fun j hj => by
      congr 1
      rw [← r1, ← r2]
      by_cases q : q3 < (-9223372036854775808 : Int64)
      · simp only [ownCx, ownT, if_pos q]
        all_goals (rcases j with _ | _ | _ | _ | j <;> first | rfl | omega)
      · simp only [ownCx, ownT, if_neg q]
        all_goals (rcases j with _ | _ | _ | _ | j <;> first | rfl | omega)
    replace A57 := A57.keep K (ninS ne nin0)
    replace Y : n0 ≤ h67.size := Nat.le_trans Y K.1
    refine own_aload G67 at_137 rfl rfl ?_
    show ownGo _ _ _ _ _ _ _ T67 139 #[.val (.long q1), .second, .val (.long q2), .second, .val (.long q3), .second, .val (.long q4), .second, .val (.int p5), .val (.int (3 : Int32)), .val (.ref b57), .val (.ref b61)] [(.ref b61)]
    refine own_iconst G67 at_139 ?_
    show ownGo _ _ _ _ _ _ _ T67 140 #[.val (.long q1), .second, .val (.long q2), .second, .val (.long q3), .second, .val (.long q4), .second, .val (.int p5), .val (.int (3 : Int32)), .val (.ref b57), .val (.ref b61)] [(.int (0 : Int32)), (.ref b61)]
    refine own_iconst G67 at_140 ?_
    show ownGo _ _ _ _ _ _ _ T67 141 #[.val (.long q1), .second, .val (.long q2), .second, .val (.long q3), .second, .val (.long q4), .second, .val (.int p5), .val (.int (3 : Int32)), .val (.ref b57), .val (.ref b61)] [(.int (2 : Int32)), (.int (0 : Int32)), (.ref b61)]
    refine own_callS G67 at_141 (y := (⟨"org/matchwright/InstantiationSortNewestFirstPinLaw", "cx", "([JII)V"⟩ : MethodName)) (hw _ (List.mem_of_getElem? (i := 2) rfl)) (hw _ (List.mem_of_getElem? (i := 3) rfl)) (hw _ (List.mem_of_getElem? (i := 4) rfl)) (hw _ (List.mem_of_getElem? (i := 5) rfl)) (by decide) (argsL := [(.ref b61), (.int (0 : Int32)), (.int (2 : Int32))]) (rest := []) (rmCx l Z a0 hw b61 _ _ (ownT u0 v0 u1 v1) 0 2 h67 n0 Y A61 (by decide) (by decide) rfl rfl f2) rfl rfl rfl (lenOf pd_0 rfl) (W := 0) (Nat.le_of_eq rfl) (by decide) (by decide) (by decide) (by decide) ?_
    intro v68 T68 h68 hq68 G68
    obtain ⟨rfl, K, B⟩ := hq68
    show ownGo _ _ _ _ _ _ _ T68 144 #[.val (.long q1), .second, .val (.long q2), .second, .val (.long q3), .second, .val (.long q4), .second, .val (.int p5), .val (.int (3 : Int32)), .val (.ref b57), .val (.ref b61)] []
    obtain ⟨u2, v2, R2, r1, r2⟩ := own_pair u0 u1
    replace A61 : ownArr Z h68 b61 .long 4 (fun j => .long (ownT u2 v0 v2 v1 j)) := B.congr fun j hj => by
      congr 1
      rw [← r1, ← r2]
      by_cases q : u0 < u1
      · simp only [ownCx, ownT, if_pos q]
        all_goals (rcases j with _ | _ | _ | _ | j <;> first | rfl | omega)
      · simp only [ownCx, ownT, if_neg q]
        all_goals (rcases j with _ | _ | _ | _ | j <;> first | rfl | omega)
    replace A57 := A57.keep K (ninS ne nin0)
    replace Y : n0 ≤ h68.size := Nat.le_trans Y K.1
    refine own_aload G68 at_144 rfl rfl ?_
    show ownGo _ _ _ _ _ _ _ T68 146 #[.val (.long q1), .second, .val (.long q2), .second, .val (.long q3), .second, .val (.long q4), .second, .val (.int p5), .val (.int (3 : Int32)), .val (.ref b57), .val (.ref b61)] [(.ref b61)]
    refine own_iconst G68 at_146 ?_
    show ownGo _ _ _ _ _ _ _ T68 147 #[.val (.long q1), .second, .val (.long q2), .second, .val (.long q3), .second, .val (.long q4), .second, .val (.int p5), .val (.int (3 : Int32)), .val (.ref b57), .val (.ref b61)] [(.int (1 : Int32)), (.ref b61)]
    refine own_iconst G68 at_147 ?_
    show ownGo _ _ _ _ _ _ _ T68 148 #[.val (.long q1), .second, .val (.long q2), .second, .val (.long q3), .second, .val (.long q4), .second, .val (.int p5), .val (.int (3 : Int32)), .val (.ref b57), .val (.ref b61)] [(.int (3 : Int32)), (.int (1 : Int32)), (.ref b61)]
    refine own_callS G68 at_148 (y := (⟨"org/matchwright/InstantiationSortNewestFirstPinLaw", "cx", "([JII)V"⟩ : MethodName)) (hw _ (List.mem_of_getElem? (i := 2) rfl)) (hw _ (List.mem_of_getElem? (i := 3) rfl)) (hw _ (List.mem_of_getElem? (i := 4) rfl)) (hw _ (List.mem_of_getElem? (i := 5) rfl)) (by decide) (argsL := [(.ref b61), (.int (1 : Int32)), (.int (3 : Int32))]) (rest := []) (rmCx l Z a0 hw b61 _ _ (ownT u2 v0 v2 v1) 1 3 h68 n0 Y A61 (by decide) (by decide) rfl rfl f2) rfl rfl rfl (lenOf pd_0 rfl) (W := 0) (Nat.le_of_eq rfl) (by decide) (by decide) (by decide) (by decide) ?_
    intro v69 T69 h69 hq69 G69
    obtain ⟨rfl, K, B⟩ := hq69
    show ownGo _ _ _ _ _ _ _ T69 151 #[.val (.long q1), .second, .val (.long q2), .second, .val (.long q3), .second, .val (.long q4), .second, .val (.int p5), .val (.int (3 : Int32)), .val (.ref b57), .val (.ref b61)] []
    obtain ⟨u3, v3, R3, r1, r2⟩ := own_pair v0 v1
    replace A61 : ownArr Z h69 b61 .long 4 (fun j => .long (ownT u2 u3 v2 v3 j)) := B.congr fun j hj => by
      congr 1
      rw [← r1, ← r2]
      by_cases q : v0 < v1
      · simp only [ownCx, ownT, if_pos q]
        all_goals (rcases j with _ | _ | _ | _ | j <;> first | rfl | omega)
      · simp only [ownCx, ownT, if_neg q]
        all_goals (rcases j with _ | _ | _ | _ | j <;> first | rfl | omega)
    replace A57 := A57.keep K (ninS ne nin0)
    replace Y : n0 ≤ h69.size := Nat.le_trans Y K.1
    refine own_aload G69 at_151 rfl rfl ?_
    show ownGo _ _ _ _ _ _ _ T69 153 #[.val (.long q1), .second, .val (.long q2), .second, .val (.long q3), .second, .val (.long q4), .second, .val (.int p5), .val (.int (3 : Int32)), .val (.ref b57), .val (.ref b61)] [(.ref b61)]
    refine own_iconst G69 at_153 ?_
    show ownGo _ _ _ _ _ _ _ T69 154 #[.val (.long q1), .second, .val (.long q2), .second, .val (.long q3), .second, .val (.long q4), .second, .val (.int p5), .val (.int (3 : Int32)), .val (.ref b57), .val (.ref b61)] [(.int (1 : Int32)), (.ref b61)]
    refine own_iconst G69 at_154 ?_
    show ownGo _ _ _ _ _ _ _ T69 155 #[.val (.long q1), .second, .val (.long q2), .second, .val (.long q3), .second, .val (.long q4), .second, .val (.int p5), .val (.int (3 : Int32)), .val (.ref b57), .val (.ref b61)] [(.int (2 : Int32)), (.int (1 : Int32)), (.ref b61)]
    refine own_callS G69 at_155 (y := (⟨"org/matchwright/InstantiationSortNewestFirstPinLaw", "cx", "([JII)V"⟩ : MethodName)) (hw _ (List.mem_of_getElem? (i := 2) rfl)) (hw _ (List.mem_of_getElem? (i := 3) rfl)) (hw _ (List.mem_of_getElem? (i := 4) rfl)) (hw _ (List.mem_of_getElem? (i := 5) rfl)) (by decide) (argsL := [(.ref b61), (.int (1 : Int32)), (.int (2 : Int32))]) (rest := []) (rmCx l Z a0 hw b61 _ _ (ownT u2 u3 v2 v3) 1 2 h69 n0 Y A61 (by decide) (by decide) rfl rfl f2) rfl rfl rfl (lenOf pd_0 rfl) (W := 0) (Nat.le_of_eq rfl) (by decide) (by decide) (by decide) (by decide) ?_
    intro v70 T70 h70 hq70 G70
    obtain ⟨rfl, K, B⟩ := hq70
    show ownGo _ _ _ _ _ _ _ T70 158 #[.val (.long q1), .second, .val (.long q2), .second, .val (.long q3), .second, .val (.long q4), .second, .val (.int p5), .val (.int (3 : Int32)), .val (.ref b57), .val (.ref b61)] []
    obtain ⟨u4, v4, R4, r1, r2⟩ := own_pair u3 v2
    replace A61 : ownArr Z h70 b61 .long 4 (fun j => .long (ownT u2 u4 v4 v3 j)) := B.congr fun j hj => by
      congr 1
      rw [← r1, ← r2]
      by_cases q : u3 < v2
      · simp only [ownCx, ownT, if_pos q]
        all_goals (rcases j with _ | _ | _ | _ | j <;> first | rfl | omega)
      · simp only [ownCx, ownT, if_neg q]
        all_goals (rcases j with _ | _ | _ | _ | j <;> first | rfl | omega)
    replace A57 := A57.keep K (ninS ne nin0)
    replace Y : n0 ≤ h70.size := Nat.le_trans Y K.1
    refine own_aload G70 at_158 rfl rfl ?_
    show ownGo _ _ _ _ _ _ _ T70 160 #[.val (.long q1), .second, .val (.long q2), .second, .val (.long q3), .second, .val (.long q4), .second, .val (.int p5), .val (.int (3 : Int32)), .val (.ref b57), .val (.ref b61)] [(.ref b57)]
    refine own_callS G70 at_160 (y := (⟨"org/matchwright/Instantiation", "sortNewestFirst", "([J)V"⟩ : MethodName)) (hw _ (List.mem_of_getElem? (i := 6) rfl)) (hw _ (List.mem_of_getElem? (i := 7) rfl)) (hw _ (List.mem_of_getElem? (i := 8) rfl)) (hw _ (List.mem_of_getElem? (i := 9) rfl)) (by decide) (argsL := [(.ref b57)]) (rest := []) (rmSort l Z a0 hw b57 (ownT q1 q2 q3 q4) 3 h70 n0 Y A57 (by decide) f1) rfl rfl rfl (lenOf pd_1 rfl) (W := 0) (Nat.le_of_eq rfl) (by decide) (by decide) (by decide) (by decide) ?_
    intro v71 T71 h71 hq71 G71
    obtain ⟨rfl, K, B⟩ := hq71
    show ownGo _ _ _ _ _ _ _ T71 163 #[.val (.long q1), .second, .val (.long q2), .second, .val (.long q3), .second, .val (.long q4), .second, .val (.int p5), .val (.int (3 : Int32)), .val (.ref b57), .val (.ref b61)] []
    replace A61 := A61.keep K (ninS ne.symm nin0)
    replace A57 := B
    replace Y : n0 ≤ h71.size := Nat.le_trans Y K.1
    have LW := own_law3 rfl R0 R1 R2 R3 R4 q4
    refine own_aload G71 at_163 rfl rfl ?_
    show ownGo _ _ _ _ _ _ _ T71 165 #[.val (.long q1), .second, .val (.long q2), .second, .val (.long q3), .second, .val (.long q4), .second, .val (.int p5), .val (.int (3 : Int32)), .val (.ref b57), .val (.ref b61)] [(.ref b57)]
    refine own_arraylength G71 at_165 A57 ?_
    show ownGo _ _ _ _ _ _ _ T71 166 #[.val (.long q1), .second, .val (.long q2), .second, .val (.long q3), .second, .val (.long q4), .second, .val (.int p5), .val (.int (3 : Int32)), .val (.ref b57), .val (.ref b61)] [(.int (3 : Int32))]
    refine own_iload G71 at_166 rfl ?_
    show ownGo _ _ _ _ _ _ _ T71 168 #[.val (.long q1), .second, .val (.long q2), .second, .val (.long q3), .second, .val (.long q4), .second, .val (.int p5), .val (.int (3 : Int32)), .val (.ref b57), .val (.ref b61)] [(.int (3 : Int32)), (.int (3 : Int32))]
    refine own_icmp_ne G71 at_168 (pc' := 219) (by decide) (by decide) (fun hc => False.elim (hc rfl)) (fun hc => ?_)
    show ownGo _ _ _ _ _ _ _ T71 171 #[.val (.long q1), .second, .val (.long q2), .second, .val (.long q3), .second, .val (.long q4), .second, .val (.int p5), .val (.int (3 : Int32)), .val (.ref b57), .val (.ref b61)] []
    refine own_aload G71 at_171 rfl rfl ?_
    show ownGo _ _ _ _ _ _ _ T71 173 #[.val (.long q1), .second, .val (.long q2), .second, .val (.long q3), .second, .val (.long q4), .second, .val (.int p5), .val (.int (3 : Int32)), .val (.ref b57), .val (.ref b61)] [(.ref b57)]
    refine own_aload G71 at_173 rfl rfl ?_
    show ownGo _ _ _ _ _ _ _ T71 175 #[.val (.long q1), .second, .val (.long q2), .second, .val (.long q3), .second, .val (.long q4), .second, .val (.int p5), .val (.int (3 : Int32)), .val (.ref b57), .val (.ref b61)] [(.ref b61), (.ref b57)]
    refine own_iconst G71 at_175 ?_
    show ownGo _ _ _ _ _ _ _ T71 176 #[.val (.long q1), .second, .val (.long q2), .second, .val (.long q3), .second, .val (.long q4), .second, .val (.int p5), .val (.int (3 : Int32)), .val (.ref b57), .val (.ref b61)] [(.int (0 : Int32)), (.ref b61), (.ref b57)]
    refine own_callS G71 at_176 (y := (⟨"org/matchwright/InstantiationSortNewestFirstPinLaw", "same", "([J[JI)Z"⟩ : MethodName)) (hw _ (List.mem_of_getElem? (i := 10) rfl)) (hw _ (List.mem_of_getElem? (i := 11) rfl)) (hw _ (List.mem_of_getElem? (i := 4) rfl)) (hw _ (List.mem_of_getElem? (i := 12) rfl)) (by decide) (argsL := [(.ref b57), (.ref b61), (.int (0 : Int32))]) (rest := []) (rmSame l Z a0 hw b57 b61 _ (ownOuter (ownT q1 q2 q3 q4) (3 - 1) 1) (ownT u2 u4 v4 v3) 3 0 h71 n0 Y A57 A61 (by decide) (by decide) rfl (fun _ => LW.1)) rfl rfl rfl (lenOf pd_2 rfl) (W := 0) (Nat.le_of_eq rfl) (by decide) (by decide) (by decide) (by decide) ?_
    intro v72 T72 h72 hq72 G72
    obtain ⟨rfl, rfl⟩ := hq72
    show ownGo _ _ _ _ _ _ _ T72 179 #[.val (.long q1), .second, .val (.long q2), .second, .val (.long q3), .second, .val (.long q4), .second, .val (.int p5), .val (.int (3 : Int32)), .val (.ref b57), .val (.ref b61)] [(.int (1 : Int32))]
    refine own_if_eq G72 at_179 (pc' := 219) (by decide) (by decide) (fun hc => False.elim (absurd hc (by decide))) (fun hc => ?_)
    show ownGo _ _ _ _ _ _ _ T72 182 #[.val (.long q1), .second, .val (.long q2), .second, .val (.long q3), .second, .val (.long q4), .second, .val (.int p5), .val (.int (3 : Int32)), .val (.ref b57), .val (.ref b61)] []
    refine own_aload G72 at_182 rfl rfl ?_
    show ownGo _ _ _ _ _ _ _ T72 184 #[.val (.long q1), .second, .val (.long q2), .second, .val (.long q3), .second, .val (.long q4), .second, .val (.int p5), .val (.int (3 : Int32)), .val (.ref b57), .val (.ref b61)] [(.ref b57)]
    refine own_aload G72 at_184 rfl rfl ?_
    show ownGo _ _ _ _ _ _ _ T72 186 #[.val (.long q1), .second, .val (.long q2), .second, .val (.long q3), .second, .val (.long q4), .second, .val (.int p5), .val (.int (3 : Int32)), .val (.ref b57), .val (.ref b61)] [(.ref b61), (.ref b57)]
    refine own_iconst G72 at_186 ?_
    show ownGo _ _ _ _ _ _ _ T72 187 #[.val (.long q1), .second, .val (.long q2), .second, .val (.long q3), .second, .val (.long q4), .second, .val (.int p5), .val (.int (3 : Int32)), .val (.ref b57), .val (.ref b61)] [(.int (1 : Int32)), (.ref b61), (.ref b57)]
    refine own_callS G72 at_187 (y := (⟨"org/matchwright/InstantiationSortNewestFirstPinLaw", "same", "([J[JI)Z"⟩ : MethodName)) (hw _ (List.mem_of_getElem? (i := 10) rfl)) (hw _ (List.mem_of_getElem? (i := 11) rfl)) (hw _ (List.mem_of_getElem? (i := 4) rfl)) (hw _ (List.mem_of_getElem? (i := 12) rfl)) (by decide) (argsL := [(.ref b57), (.ref b61), (.int (1 : Int32))]) (rest := []) (rmSame l Z a0 hw b57 b61 _ (ownOuter (ownT q1 q2 q3 q4) (3 - 1) 1) (ownT u2 u4 v4 v3) 3 1 h71 n0 Y A57 A61 (by decide) (by decide) rfl (fun _ => LW.2.1)) rfl rfl rfl (lenOf pd_2 rfl) (W := 0) (Nat.le_of_eq rfl) (by decide) (by decide) (by decide) (by decide) ?_
    intro v73 T73 h73 hq73 G73
    obtain ⟨rfl, rfl⟩ := hq73
    show ownGo _ _ _ _ _ _ _ T73 190 #[.val (.long q1), .second, .val (.long q2), .second, .val (.long q3), .second, .val (.long q4), .second, .val (.int p5), .val (.int (3 : Int32)), .val (.ref b57), .val (.ref b61)] [(.int (1 : Int32))]
    refine own_if_eq G73 at_190 (pc' := 219) (by decide) (by decide) (fun hc => False.elim (absurd hc (by decide))) (fun hc => ?_)
    show ownGo _ _ _ _ _ _ _ T73 193 #[.val (.long q1), .second, .val (.long q2), .second, .val (.long q3), .second, .val (.long q4), .second, .val (.int p5), .val (.int (3 : Int32)), .val (.ref b57), .val (.ref b61)] []
    refine own_aload G73 at_193 rfl rfl ?_
    show ownGo _ _ _ _ _ _ _ T73 195 #[.val (.long q1), .second, .val (.long q2), .second, .val (.long q3), .second, .val (.long q4), .second, .val (.int p5), .val (.int (3 : Int32)), .val (.ref b57), .val (.ref b61)] [(.ref b57)]
    refine own_aload G73 at_195 rfl rfl ?_
    show ownGo _ _ _ _ _ _ _ T73 197 #[.val (.long q1), .second, .val (.long q2), .second, .val (.long q3), .second, .val (.long q4), .second, .val (.int p5), .val (.int (3 : Int32)), .val (.ref b57), .val (.ref b61)] [(.ref b61), (.ref b57)]
    refine own_iconst G73 at_197 ?_
    show ownGo _ _ _ _ _ _ _ T73 198 #[.val (.long q1), .second, .val (.long q2), .second, .val (.long q3), .second, .val (.long q4), .second, .val (.int p5), .val (.int (3 : Int32)), .val (.ref b57), .val (.ref b61)] [(.int (2 : Int32)), (.ref b61), (.ref b57)]
    refine own_callS G73 at_198 (y := (⟨"org/matchwright/InstantiationSortNewestFirstPinLaw", "same", "([J[JI)Z"⟩ : MethodName)) (hw _ (List.mem_of_getElem? (i := 10) rfl)) (hw _ (List.mem_of_getElem? (i := 11) rfl)) (hw _ (List.mem_of_getElem? (i := 4) rfl)) (hw _ (List.mem_of_getElem? (i := 12) rfl)) (by decide) (argsL := [(.ref b57), (.ref b61), (.int (2 : Int32))]) (rest := []) (rmSame l Z a0 hw b57 b61 _ (ownOuter (ownT q1 q2 q3 q4) (3 - 1) 1) (ownT u2 u4 v4 v3) 3 2 h71 n0 Y A57 A61 (by decide) (by decide) rfl (fun _ => LW.2.2)) rfl rfl rfl (lenOf pd_2 rfl) (W := 0) (Nat.le_of_eq rfl) (by decide) (by decide) (by decide) (by decide) ?_
    intro v74 T74 h74 hq74 G74
    obtain ⟨rfl, rfl⟩ := hq74
    show ownGo _ _ _ _ _ _ _ T74 201 #[.val (.long q1), .second, .val (.long q2), .second, .val (.long q3), .second, .val (.long q4), .second, .val (.int p5), .val (.int (3 : Int32)), .val (.ref b57), .val (.ref b61)] [(.int (1 : Int32))]
    refine own_if_eq G74 at_201 (pc' := 219) (by decide) (by decide) (fun hc => False.elim (absurd hc (by decide))) (fun hc => ?_)
    show ownGo _ _ _ _ _ _ _ T74 204 #[.val (.long q1), .second, .val (.long q2), .second, .val (.long q3), .second, .val (.long q4), .second, .val (.int p5), .val (.int (3 : Int32)), .val (.ref b57), .val (.ref b61)] []
    refine own_aload G74 at_204 rfl rfl ?_
    show ownGo _ _ _ _ _ _ _ T74 206 #[.val (.long q1), .second, .val (.long q2), .second, .val (.long q3), .second, .val (.long q4), .second, .val (.int p5), .val (.int (3 : Int32)), .val (.ref b57), .val (.ref b61)] [(.ref b57)]
    refine own_aload G74 at_206 rfl rfl ?_
    show ownGo _ _ _ _ _ _ _ T74 208 #[.val (.long q1), .second, .val (.long q2), .second, .val (.long q3), .second, .val (.long q4), .second, .val (.int p5), .val (.int (3 : Int32)), .val (.ref b57), .val (.ref b61)] [(.ref b61), (.ref b57)]
    refine own_iconst G74 at_208 ?_
    show ownGo _ _ _ _ _ _ _ T74 209 #[.val (.long q1), .second, .val (.long q2), .second, .val (.long q3), .second, .val (.long q4), .second, .val (.int p5), .val (.int (3 : Int32)), .val (.ref b57), .val (.ref b61)] [(.int (3 : Int32)), (.ref b61), (.ref b57)]
    refine own_callS G74 at_209 (y := (⟨"org/matchwright/InstantiationSortNewestFirstPinLaw", "same", "([J[JI)Z"⟩ : MethodName)) (hw _ (List.mem_of_getElem? (i := 10) rfl)) (hw _ (List.mem_of_getElem? (i := 11) rfl)) (hw _ (List.mem_of_getElem? (i := 4) rfl)) (hw _ (List.mem_of_getElem? (i := 12) rfl)) (by decide) (argsL := [(.ref b57), (.ref b61), (.int (3 : Int32))]) (rest := []) (rmSame l Z a0 hw b57 b61 _ (ownOuter (ownT q1 q2 q3 q4) (3 - 1) 1) (ownT u2 u4 v4 v3) 3 3 h71 n0 Y A57 A61 (by decide) (by decide) rfl (fun q => absurd q (by decide))) rfl rfl rfl (lenOf pd_2 rfl) (W := 0) (Nat.le_of_eq rfl) (by decide) (by decide) (by decide) (by decide) ?_
    intro v75 T75 h75 hq75 G75
    obtain ⟨rfl, rfl⟩ := hq75
    show ownGo _ _ _ _ _ _ _ T75 212 #[.val (.long q1), .second, .val (.long q2), .second, .val (.long q3), .second, .val (.long q4), .second, .val (.int p5), .val (.int (3 : Int32)), .val (.ref b57), .val (.ref b61)] [(.int (1 : Int32))]
    refine own_if_eq G75 at_212 (pc' := 219) (by decide) (by decide) (fun hc => False.elim (absurd hc (by decide))) (fun hc => ?_)
    show ownGo _ _ _ _ _ _ _ T75 215 #[.val (.long q1), .second, .val (.long q2), .second, .val (.long q3), .second, .val (.long q4), .second, .val (.int p5), .val (.int (3 : Int32)), .val (.ref b57), .val (.ref b61)] []
    refine own_iconst G75 at_215 ?_
    show ownGo _ _ _ _ _ _ _ T75 216 #[.val (.long q1), .second, .val (.long q2), .second, .val (.long q3), .second, .val (.long q4), .second, .val (.int p5), .val (.int (3 : Int32)), .val (.ref b57), .val (.ref b61)] [(.int (1 : Int32))]
    refine own_goto G75 at_216 (pc' := 220) (by decide) (by decide) ?_
    show ownGo _ _ _ _ _ _ _ T75 220 #[.val (.long q1), .second, .val (.long q2), .second, .val (.long q3), .second, .val (.long q4), .second, .val (.int p5), .val (.int (3 : Int32)), .val (.ref b57), .val (.ref b61)] [(.int (1 : Int32))]
    exact own_zreturn G75 at_220 rfl (by decide) (by decide) rfl
  · rw [e]
    show ownGo _ _ _ _ _ _ _ T0 7 #[.val (.long q1), .second, .val (.long q2), .second, .val (.long q3), .second, .val (.long q4), .second, .val (.int p5), .unset, .unset, .unset] [(.int (4 : Int32))]
    refine own_istore G0 at_7 (L' := #[.val (.long q1), .second, .val (.long q2), .second, .val (.long q3), .second, .val (.long q4), .second, .val (.int p5), .val (.int (4 : Int32)), .unset, .unset]) rfl ?_
    show ownGo _ _ _ _ _ _ _ T0 9 #[.val (.long q1), .second, .val (.long q2), .second, .val (.long q3), .second, .val (.long q4), .second, .val (.int p5), .val (.int (4 : Int32)), .unset, .unset] []
    refine own_iload G0 at_9 rfl ?_
    show ownGo _ _ _ _ _ _ _ T0 11 #[.val (.long q1), .second, .val (.long q2), .second, .val (.long q3), .second, .val (.long q4), .second, .val (.int p5), .val (.int (4 : Int32)), .unset, .unset] [(.int (4 : Int32))]
    refine own_newarr G0 at_11 (hw _ (List.mem_of_getElem? (i := 0) rfl)) (by decide) (k := 4) (cap := 4) (by decide) (by decide) (by decide) (by decide) (by decide) ?_
    intro T76 h76 b76 g76 E76 A76 G76
    replace A76 : ownArr Z h76 b76 .long 4 (fun _ => .long 0) := A76
    show ownGo _ _ _ _ _ _ _ T76 13 #[.val (.long q1), .second, .val (.long q2), .second, .val (.long q3), .second, .val (.long q4), .second, .val (.int p5), .val (.int (4 : Int32)), .unset, .unset] [(.ref b76)]
    have f1 : n0 ≤ b76 := Nat.le_trans Z0 (Nat.le_of_eq g76.symm)
    have Y : n0 ≤ h76.size := Nat.le_trans Z0 E76.1
    refine own_astore G76 at_13 (L' := #[.val (.long q1), .second, .val (.long q2), .second, .val (.long q3), .second, .val (.long q4), .second, .val (.int p5), .val (.int (4 : Int32)), .val (.ref b76), .unset]) rfl rfl ?_
    show ownGo _ _ _ _ _ _ _ T76 15 #[.val (.long q1), .second, .val (.long q2), .second, .val (.long q3), .second, .val (.long q4), .second, .val (.int p5), .val (.int (4 : Int32)), .val (.ref b76), .unset] []
    refine own_iload G76 at_15 rfl ?_
    show ownGo _ _ _ _ _ _ _ T76 17 #[.val (.long q1), .second, .val (.long q2), .second, .val (.long q3), .second, .val (.long q4), .second, .val (.int p5), .val (.int (4 : Int32)), .val (.ref b76), .unset] [(.int (4 : Int32))]
    refine own_if_le G76 at_17 (pc' := 25) (by decide) (by decide) (fun hc => False.elim (absurd hc (by decide))) (fun hc => ?_)
    show ownGo _ _ _ _ _ _ _ T76 20 #[.val (.long q1), .second, .val (.long q2), .second, .val (.long q3), .second, .val (.long q4), .second, .val (.int p5), .val (.int (4 : Int32)), .val (.ref b76), .unset] []
    refine own_aload G76 at_20 rfl rfl ?_
    show ownGo _ _ _ _ _ _ _ T76 22 #[.val (.long q1), .second, .val (.long q2), .second, .val (.long q3), .second, .val (.long q4), .second, .val (.int p5), .val (.int (4 : Int32)), .val (.ref b76), .unset] [(.ref b76)]
    refine own_iconst G76 at_22 ?_
    show ownGo _ _ _ _ _ _ _ T76 23 #[.val (.long q1), .second, .val (.long q2), .second, .val (.long q3), .second, .val (.long q4), .second, .val (.int p5), .val (.int (4 : Int32)), .val (.ref b76), .unset] [(.int (0 : Int32)), (.ref b76)]
    refine own_lloadN G76 at_23 rfl ?_
    show ownGo _ _ _ _ _ _ _ T76 24 #[.val (.long q1), .second, .val (.long q2), .second, .val (.long q3), .second, .val (.long q4), .second, .val (.int p5), .val (.int (4 : Int32)), .val (.ref b76), .unset] [(.long q1), (.int (0 : Int32)), (.ref b76)]
    refine own_lastore G76 at_24 A76 (i := 0) (by decide) f1 ?_
    intro T77 h77 W77 G77
    show ownGo _ _ _ _ _ _ _ T77 25 #[.val (.long q1), .second, .val (.long q2), .second, .val (.long q3), .second, .val (.long q4), .second, .val (.int p5), .val (.int (4 : Int32)), .val (.ref b76), .unset] []
    replace A76 := A76.same W77
    replace Y : n0 ≤ h77.size := by rw [W77.size]; exact Y
    refine own_iload G77 at_25 rfl ?_
    show ownGo _ _ _ _ _ _ _ T77 27 #[.val (.long q1), .second, .val (.long q2), .second, .val (.long q3), .second, .val (.long q4), .second, .val (.int p5), .val (.int (4 : Int32)), .val (.ref b76), .unset] [(.int (4 : Int32))]
    refine own_iconst G77 at_27 ?_
    show ownGo _ _ _ _ _ _ _ T77 28 #[.val (.long q1), .second, .val (.long q2), .second, .val (.long q3), .second, .val (.long q4), .second, .val (.int p5), .val (.int (4 : Int32)), .val (.ref b76), .unset] [(.int (1 : Int32)), (.int (4 : Int32))]
    refine own_icmp_le G77 at_28 (pc' := 36) (by decide) (by decide) (fun hc => False.elim (absurd hc (by decide))) (fun hc => ?_)
    show ownGo _ _ _ _ _ _ _ T77 31 #[.val (.long q1), .second, .val (.long q2), .second, .val (.long q3), .second, .val (.long q4), .second, .val (.int p5), .val (.int (4 : Int32)), .val (.ref b76), .unset] []
    refine own_aload G77 at_31 rfl rfl ?_
    show ownGo _ _ _ _ _ _ _ T77 33 #[.val (.long q1), .second, .val (.long q2), .second, .val (.long q3), .second, .val (.long q4), .second, .val (.int p5), .val (.int (4 : Int32)), .val (.ref b76), .unset] [(.ref b76)]
    refine own_iconst G77 at_33 ?_
    show ownGo _ _ _ _ _ _ _ T77 34 #[.val (.long q1), .second, .val (.long q2), .second, .val (.long q3), .second, .val (.long q4), .second, .val (.int p5), .val (.int (4 : Int32)), .val (.ref b76), .unset] [(.int (1 : Int32)), (.ref b76)]
    refine own_lloadN G77 at_34 rfl ?_
    show ownGo _ _ _ _ _ _ _ T77 35 #[.val (.long q1), .second, .val (.long q2), .second, .val (.long q3), .second, .val (.long q4), .second, .val (.int p5), .val (.int (4 : Int32)), .val (.ref b76), .unset] [(.long q2), (.int (1 : Int32)), (.ref b76)]
    refine own_lastore G77 at_35 A76 (i := 1) (by decide) f1 ?_
    intro T78 h78 W78 G78
    show ownGo _ _ _ _ _ _ _ T78 36 #[.val (.long q1), .second, .val (.long q2), .second, .val (.long q3), .second, .val (.long q4), .second, .val (.int p5), .val (.int (4 : Int32)), .val (.ref b76), .unset] []
    replace A76 := A76.same W78
    replace Y : n0 ≤ h78.size := by rw [W78.size]; exact Y
    refine own_iload G78 at_36 rfl ?_
    show ownGo _ _ _ _ _ _ _ T78 38 #[.val (.long q1), .second, .val (.long q2), .second, .val (.long q3), .second, .val (.long q4), .second, .val (.int p5), .val (.int (4 : Int32)), .val (.ref b76), .unset] [(.int (4 : Int32))]
    refine own_iconst G78 at_38 ?_
    show ownGo _ _ _ _ _ _ _ T78 39 #[.val (.long q1), .second, .val (.long q2), .second, .val (.long q3), .second, .val (.long q4), .second, .val (.int p5), .val (.int (4 : Int32)), .val (.ref b76), .unset] [(.int (2 : Int32)), (.int (4 : Int32))]
    refine own_icmp_le G78 at_39 (pc' := 48) (by decide) (by decide) (fun hc => False.elim (absurd hc (by decide))) (fun hc => ?_)
    show ownGo _ _ _ _ _ _ _ T78 42 #[.val (.long q1), .second, .val (.long q2), .second, .val (.long q3), .second, .val (.long q4), .second, .val (.int p5), .val (.int (4 : Int32)), .val (.ref b76), .unset] []
    refine own_aload G78 at_42 rfl rfl ?_
    show ownGo _ _ _ _ _ _ _ T78 44 #[.val (.long q1), .second, .val (.long q2), .second, .val (.long q3), .second, .val (.long q4), .second, .val (.int p5), .val (.int (4 : Int32)), .val (.ref b76), .unset] [(.ref b76)]
    refine own_iconst G78 at_44 ?_
    show ownGo _ _ _ _ _ _ _ T78 45 #[.val (.long q1), .second, .val (.long q2), .second, .val (.long q3), .second, .val (.long q4), .second, .val (.int p5), .val (.int (4 : Int32)), .val (.ref b76), .unset] [(.int (2 : Int32)), (.ref b76)]
    refine own_lload G78 at_45 rfl ?_
    show ownGo _ _ _ _ _ _ _ T78 47 #[.val (.long q1), .second, .val (.long q2), .second, .val (.long q3), .second, .val (.long q4), .second, .val (.int p5), .val (.int (4 : Int32)), .val (.ref b76), .unset] [(.long q3), (.int (2 : Int32)), (.ref b76)]
    refine own_lastore G78 at_47 A76 (i := 2) (by decide) f1 ?_
    intro T79 h79 W79 G79
    show ownGo _ _ _ _ _ _ _ T79 48 #[.val (.long q1), .second, .val (.long q2), .second, .val (.long q3), .second, .val (.long q4), .second, .val (.int p5), .val (.int (4 : Int32)), .val (.ref b76), .unset] []
    replace A76 := A76.same W79
    replace Y : n0 ≤ h79.size := by rw [W79.size]; exact Y
    refine own_iload G79 at_48 rfl ?_
    show ownGo _ _ _ _ _ _ _ T79 50 #[.val (.long q1), .second, .val (.long q2), .second, .val (.long q3), .second, .val (.long q4), .second, .val (.int p5), .val (.int (4 : Int32)), .val (.ref b76), .unset] [(.int (4 : Int32))]
    refine own_iconst G79 at_50 ?_
    show ownGo _ _ _ _ _ _ _ T79 51 #[.val (.long q1), .second, .val (.long q2), .second, .val (.long q3), .second, .val (.long q4), .second, .val (.int p5), .val (.int (4 : Int32)), .val (.ref b76), .unset] [(.int (3 : Int32)), (.int (4 : Int32))]
    refine own_icmp_le G79 at_51 (pc' := 60) (by decide) (by decide) (fun hc => False.elim (absurd hc (by decide))) (fun hc => ?_)
    show ownGo _ _ _ _ _ _ _ T79 54 #[.val (.long q1), .second, .val (.long q2), .second, .val (.long q3), .second, .val (.long q4), .second, .val (.int p5), .val (.int (4 : Int32)), .val (.ref b76), .unset] []
    refine own_aload G79 at_54 rfl rfl ?_
    show ownGo _ _ _ _ _ _ _ T79 56 #[.val (.long q1), .second, .val (.long q2), .second, .val (.long q3), .second, .val (.long q4), .second, .val (.int p5), .val (.int (4 : Int32)), .val (.ref b76), .unset] [(.ref b76)]
    refine own_iconst G79 at_56 ?_
    show ownGo _ _ _ _ _ _ _ T79 57 #[.val (.long q1), .second, .val (.long q2), .second, .val (.long q3), .second, .val (.long q4), .second, .val (.int p5), .val (.int (4 : Int32)), .val (.ref b76), .unset] [(.int (3 : Int32)), (.ref b76)]
    refine own_lload G79 at_57 rfl ?_
    show ownGo _ _ _ _ _ _ _ T79 59 #[.val (.long q1), .second, .val (.long q2), .second, .val (.long q3), .second, .val (.long q4), .second, .val (.int p5), .val (.int (4 : Int32)), .val (.ref b76), .unset] [(.long q4), (.int (3 : Int32)), (.ref b76)]
    refine own_lastore G79 at_59 A76 (i := 3) (by decide) f1 ?_
    intro T80 h80 W80 G80
    show ownGo _ _ _ _ _ _ _ T80 60 #[.val (.long q1), .second, .val (.long q2), .second, .val (.long q3), .second, .val (.long q4), .second, .val (.int p5), .val (.int (4 : Int32)), .val (.ref b76), .unset] []
    replace A76 := A76.same W80
    replace Y : n0 ≤ h80.size := by rw [W80.size]; exact Y
    refine own_iconst G80 at_60 ?_
    show ownGo _ _ _ _ _ _ _ T80 61 #[.val (.long q1), .second, .val (.long q2), .second, .val (.long q3), .second, .val (.long q4), .second, .val (.int p5), .val (.int (4 : Int32)), .val (.ref b76), .unset] [(.int (4 : Int32))]
    replace A76 : ownArr Z h80 b76 .long 4 (fun j => .long (ownT q1 q2 q3 q4 j)) := A76.congr fun j hj => by
      rcases j with _ | _ | _ | _ | j
      · rfl
      · rfl
      · rfl
      · rfl
      · omega
    refine own_newarr G80 at_61 (hw _ (List.mem_of_getElem? (i := 0) rfl)) (by decide) (k := 4) (cap := 4) (by decide) (by decide) (by decide) (by decide) (by decide) ?_
    intro T81 h81 b81 g81 E81 A81 G81
    replace A81 : ownArr Z h81 b81 .long 4 (fun _ => .long 0) := A81
    show ownGo _ _ _ _ _ _ _ T81 63 #[.val (.long q1), .second, .val (.long q2), .second, .val (.long q3), .second, .val (.long q4), .second, .val (.int p5), .val (.int (4 : Int32)), .val (.ref b76), .unset] [(.ref b81)]
    have f2 : n0 ≤ b81 := Nat.le_trans Y (Nat.le_of_eq g81.symm)
    have ne : b76 ≠ b81 := Nat.ne_of_lt (Nat.lt_of_lt_of_le A76.lt (Nat.le_of_eq g81.symm))
    replace A76 := A76.ext E81
    replace Y : n0 ≤ h81.size := Nat.le_trans Y E81.1
    refine own_astore G81 at_63 (L' := #[.val (.long q1), .second, .val (.long q2), .second, .val (.long q3), .second, .val (.long q4), .second, .val (.int p5), .val (.int (4 : Int32)), .val (.ref b76), .val (.ref b81)]) rfl rfl ?_
    show ownGo _ _ _ _ _ _ _ T81 65 #[.val (.long q1), .second, .val (.long q2), .second, .val (.long q3), .second, .val (.long q4), .second, .val (.int p5), .val (.int (4 : Int32)), .val (.ref b76), .val (.ref b81)] []
    refine own_aload G81 at_65 rfl rfl ?_
    show ownGo _ _ _ _ _ _ _ T81 67 #[.val (.long q1), .second, .val (.long q2), .second, .val (.long q3), .second, .val (.long q4), .second, .val (.int p5), .val (.int (4 : Int32)), .val (.ref b76), .val (.ref b81)] [(.ref b81)]
    refine own_iconst G81 at_67 ?_
    show ownGo _ _ _ _ _ _ _ T81 68 #[.val (.long q1), .second, .val (.long q2), .second, .val (.long q3), .second, .val (.long q4), .second, .val (.int p5), .val (.int (4 : Int32)), .val (.ref b76), .val (.ref b81)] [(.int (0 : Int32)), (.ref b81)]
    refine own_lloadN G81 at_68 rfl ?_
    show ownGo _ _ _ _ _ _ _ T81 69 #[.val (.long q1), .second, .val (.long q2), .second, .val (.long q3), .second, .val (.long q4), .second, .val (.int p5), .val (.int (4 : Int32)), .val (.ref b76), .val (.ref b81)] [(.long q1), (.int (0 : Int32)), (.ref b81)]
    refine own_lastore G81 at_69 A81 (i := 0) (by decide) f2 ?_
    intro T82 h82 W82 G82
    show ownGo _ _ _ _ _ _ _ T82 70 #[.val (.long q1), .second, .val (.long q2), .second, .val (.long q3), .second, .val (.long q4), .second, .val (.int p5), .val (.int (4 : Int32)), .val (.ref b76), .val (.ref b81)] []
    replace A81 := A81.same W82
    replace A76 := A76.other W82 ne
    replace Y : n0 ≤ h82.size := by rw [W82.size]; exact Y
    refine own_aload G82 at_70 rfl rfl ?_
    show ownGo _ _ _ _ _ _ _ T82 72 #[.val (.long q1), .second, .val (.long q2), .second, .val (.long q3), .second, .val (.long q4), .second, .val (.int p5), .val (.int (4 : Int32)), .val (.ref b76), .val (.ref b81)] [(.ref b81)]
    refine own_iconst G82 at_72 ?_
    show ownGo _ _ _ _ _ _ _ T82 73 #[.val (.long q1), .second, .val (.long q2), .second, .val (.long q3), .second, .val (.long q4), .second, .val (.int p5), .val (.int (4 : Int32)), .val (.ref b76), .val (.ref b81)] [(.int (1 : Int32)), (.ref b81)]
    refine own_iload G82 at_73 rfl ?_
    show ownGo _ _ _ _ _ _ _ T82 75 #[.val (.long q1), .second, .val (.long q2), .second, .val (.long q3), .second, .val (.long q4), .second, .val (.int p5), .val (.int (4 : Int32)), .val (.ref b76), .val (.ref b81)] [(.int (4 : Int32)), (.int (1 : Int32)), (.ref b81)]
    refine own_iconst G82 at_75 ?_
    show ownGo _ _ _ _ _ _ _ T82 76 #[.val (.long q1), .second, .val (.long q2), .second, .val (.long q3), .second, .val (.long q4), .second, .val (.int p5), .val (.int (4 : Int32)), .val (.ref b76), .val (.ref b81)] [(.int (1 : Int32)), (.int (4 : Int32)), (.int (1 : Int32)), (.ref b81)]
    refine own_icmp_le G82 at_76 (pc' := 83) (by decide) (by decide) (fun hc => False.elim (absurd hc (by decide))) (fun hc => ?_)
    show ownGo _ _ _ _ _ _ _ T82 79 #[.val (.long q1), .second, .val (.long q2), .second, .val (.long q3), .second, .val (.long q4), .second, .val (.int p5), .val (.int (4 : Int32)), .val (.ref b76), .val (.ref b81)] [(.int (1 : Int32)), (.ref b81)]
    refine own_lloadN G82 at_79 rfl ?_
    show ownGo _ _ _ _ _ _ _ T82 80 #[.val (.long q1), .second, .val (.long q2), .second, .val (.long q3), .second, .val (.long q4), .second, .val (.int p5), .val (.int (4 : Int32)), .val (.ref b76), .val (.ref b81)] [(.long q2), (.int (1 : Int32)), (.ref b81)]
    refine own_goto G82 at_80 (pc' := 86) (by decide) (by decide) ?_
    show ownGo _ _ _ _ _ _ _ T82 86 #[.val (.long q1), .second, .val (.long q2), .second, .val (.long q3), .second, .val (.long q4), .second, .val (.int p5), .val (.int (4 : Int32)), .val (.ref b76), .val (.ref b81)] [(.long q2), (.int (1 : Int32)), (.ref b81)]
    refine own_lastore G82 at_86 A81 (i := 1) (by decide) f2 ?_
    intro T83 h83 W83 G83
    show ownGo _ _ _ _ _ _ _ T83 87 #[.val (.long q1), .second, .val (.long q2), .second, .val (.long q3), .second, .val (.long q4), .second, .val (.int p5), .val (.int (4 : Int32)), .val (.ref b76), .val (.ref b81)] []
    replace A81 := A81.same W83
    replace A76 := A76.other W83 ne
    replace Y : n0 ≤ h83.size := by rw [W83.size]; exact Y
    refine own_aload G83 at_87 rfl rfl ?_
    show ownGo _ _ _ _ _ _ _ T83 89 #[.val (.long q1), .second, .val (.long q2), .second, .val (.long q3), .second, .val (.long q4), .second, .val (.int p5), .val (.int (4 : Int32)), .val (.ref b76), .val (.ref b81)] [(.ref b81)]
    refine own_iconst G83 at_89 ?_
    show ownGo _ _ _ _ _ _ _ T83 90 #[.val (.long q1), .second, .val (.long q2), .second, .val (.long q3), .second, .val (.long q4), .second, .val (.int p5), .val (.int (4 : Int32)), .val (.ref b76), .val (.ref b81)] [(.int (2 : Int32)), (.ref b81)]
    refine own_iload G83 at_90 rfl ?_
    show ownGo _ _ _ _ _ _ _ T83 92 #[.val (.long q1), .second, .val (.long q2), .second, .val (.long q3), .second, .val (.long q4), .second, .val (.int p5), .val (.int (4 : Int32)), .val (.ref b76), .val (.ref b81)] [(.int (4 : Int32)), (.int (2 : Int32)), (.ref b81)]
    refine own_iconst G83 at_92 ?_
    show ownGo _ _ _ _ _ _ _ T83 93 #[.val (.long q1), .second, .val (.long q2), .second, .val (.long q3), .second, .val (.long q4), .second, .val (.int p5), .val (.int (4 : Int32)), .val (.ref b76), .val (.ref b81)] [(.int (2 : Int32)), (.int (4 : Int32)), (.int (2 : Int32)), (.ref b81)]
    refine own_icmp_le G83 at_93 (pc' := 101) (by decide) (by decide) (fun hc => False.elim (absurd hc (by decide))) (fun hc => ?_)
    show ownGo _ _ _ _ _ _ _ T83 96 #[.val (.long q1), .second, .val (.long q2), .second, .val (.long q3), .second, .val (.long q4), .second, .val (.int p5), .val (.int (4 : Int32)), .val (.ref b76), .val (.ref b81)] [(.int (2 : Int32)), (.ref b81)]
    refine own_lload G83 at_96 rfl ?_
    show ownGo _ _ _ _ _ _ _ T83 98 #[.val (.long q1), .second, .val (.long q2), .second, .val (.long q3), .second, .val (.long q4), .second, .val (.int p5), .val (.int (4 : Int32)), .val (.ref b76), .val (.ref b81)] [(.long q3), (.int (2 : Int32)), (.ref b81)]
    refine own_goto G83 at_98 (pc' := 104) (by decide) (by decide) ?_
    show ownGo _ _ _ _ _ _ _ T83 104 #[.val (.long q1), .second, .val (.long q2), .second, .val (.long q3), .second, .val (.long q4), .second, .val (.int p5), .val (.int (4 : Int32)), .val (.ref b76), .val (.ref b81)] [(.long q3), (.int (2 : Int32)), (.ref b81)]
    refine own_lastore G83 at_104 A81 (i := 2) (by decide) f2 ?_
    intro T84 h84 W84 G84
    show ownGo _ _ _ _ _ _ _ T84 105 #[.val (.long q1), .second, .val (.long q2), .second, .val (.long q3), .second, .val (.long q4), .second, .val (.int p5), .val (.int (4 : Int32)), .val (.ref b76), .val (.ref b81)] []
    replace A81 := A81.same W84
    replace A76 := A76.other W84 ne
    replace Y : n0 ≤ h84.size := by rw [W84.size]; exact Y
    refine own_aload G84 at_105 rfl rfl ?_
    show ownGo _ _ _ _ _ _ _ T84 107 #[.val (.long q1), .second, .val (.long q2), .second, .val (.long q3), .second, .val (.long q4), .second, .val (.int p5), .val (.int (4 : Int32)), .val (.ref b76), .val (.ref b81)] [(.ref b81)]
    refine own_iconst G84 at_107 ?_
    show ownGo _ _ _ _ _ _ _ T84 108 #[.val (.long q1), .second, .val (.long q2), .second, .val (.long q3), .second, .val (.long q4), .second, .val (.int p5), .val (.int (4 : Int32)), .val (.ref b76), .val (.ref b81)] [(.int (3 : Int32)), (.ref b81)]
    refine own_iload G84 at_108 rfl ?_
    show ownGo _ _ _ _ _ _ _ T84 110 #[.val (.long q1), .second, .val (.long q2), .second, .val (.long q3), .second, .val (.long q4), .second, .val (.int p5), .val (.int (4 : Int32)), .val (.ref b76), .val (.ref b81)] [(.int (4 : Int32)), (.int (3 : Int32)), (.ref b81)]
    refine own_iconst G84 at_110 ?_
    show ownGo _ _ _ _ _ _ _ T84 111 #[.val (.long q1), .second, .val (.long q2), .second, .val (.long q3), .second, .val (.long q4), .second, .val (.int p5), .val (.int (4 : Int32)), .val (.ref b76), .val (.ref b81)] [(.int (3 : Int32)), (.int (4 : Int32)), (.int (3 : Int32)), (.ref b81)]
    refine own_icmp_le G84 at_111 (pc' := 119) (by decide) (by decide) (fun hc => False.elim (absurd hc (by decide))) (fun hc => ?_)
    show ownGo _ _ _ _ _ _ _ T84 114 #[.val (.long q1), .second, .val (.long q2), .second, .val (.long q3), .second, .val (.long q4), .second, .val (.int p5), .val (.int (4 : Int32)), .val (.ref b76), .val (.ref b81)] [(.int (3 : Int32)), (.ref b81)]
    refine own_lload G84 at_114 rfl ?_
    show ownGo _ _ _ _ _ _ _ T84 116 #[.val (.long q1), .second, .val (.long q2), .second, .val (.long q3), .second, .val (.long q4), .second, .val (.int p5), .val (.int (4 : Int32)), .val (.ref b76), .val (.ref b81)] [(.long q4), (.int (3 : Int32)), (.ref b81)]
    refine own_goto G84 at_116 (pc' := 122) (by decide) (by decide) ?_
    show ownGo _ _ _ _ _ _ _ T84 122 #[.val (.long q1), .second, .val (.long q2), .second, .val (.long q3), .second, .val (.long q4), .second, .val (.int p5), .val (.int (4 : Int32)), .val (.ref b76), .val (.ref b81)] [(.long q4), (.int (3 : Int32)), (.ref b81)]
    refine own_lastore G84 at_122 A81 (i := 3) (by decide) f2 ?_
    intro T85 h85 W85 G85
    show ownGo _ _ _ _ _ _ _ T85 123 #[.val (.long q1), .second, .val (.long q2), .second, .val (.long q3), .second, .val (.long q4), .second, .val (.int p5), .val (.int (4 : Int32)), .val (.ref b76), .val (.ref b81)] []
    replace A81 := A81.same W85
    replace A76 := A76.other W85 ne
    replace Y : n0 ≤ h85.size := by rw [W85.size]; exact Y
    replace A81 : ownArr Z h85 b81 .long 4 (fun j => .long (ownT q1 q2 q3 q4 j)) := A81.congr fun j hj => by
      rcases j with _ | _ | _ | _ | j
      · rfl
      · rfl
      · rfl
      · rfl
      · omega
    refine own_aload G85 at_123 rfl rfl ?_
    show ownGo _ _ _ _ _ _ _ T85 125 #[.val (.long q1), .second, .val (.long q2), .second, .val (.long q3), .second, .val (.long q4), .second, .val (.int p5), .val (.int (4 : Int32)), .val (.ref b76), .val (.ref b81)] [(.ref b81)]
    refine own_iconst G85 at_125 ?_
    show ownGo _ _ _ _ _ _ _ T85 126 #[.val (.long q1), .second, .val (.long q2), .second, .val (.long q3), .second, .val (.long q4), .second, .val (.int p5), .val (.int (4 : Int32)), .val (.ref b76), .val (.ref b81)] [(.int (0 : Int32)), (.ref b81)]
    refine own_iconst G85 at_126 ?_
    show ownGo _ _ _ _ _ _ _ T85 127 #[.val (.long q1), .second, .val (.long q2), .second, .val (.long q3), .second, .val (.long q4), .second, .val (.int p5), .val (.int (4 : Int32)), .val (.ref b76), .val (.ref b81)] [(.int (1 : Int32)), (.int (0 : Int32)), (.ref b81)]
    refine own_callS G85 at_127 (y := (⟨"org/matchwright/InstantiationSortNewestFirstPinLaw", "cx", "([JII)V"⟩ : MethodName)) (hw _ (List.mem_of_getElem? (i := 2) rfl)) (hw _ (List.mem_of_getElem? (i := 3) rfl)) (hw _ (List.mem_of_getElem? (i := 4) rfl)) (hw _ (List.mem_of_getElem? (i := 5) rfl)) (by decide) (argsL := [(.ref b81), (.int (0 : Int32)), (.int (1 : Int32))]) (rest := []) (rmCx l Z a0 hw b81 _ _ (ownT q1 q2 q3 q4) 0 1 h85 n0 Y A81 (by decide) (by decide) rfl rfl f2) rfl rfl rfl (lenOf pd_0 rfl) (W := 0) (Nat.le_of_eq rfl) (by decide) (by decide) (by decide) (by decide) ?_
    intro v86 T86 h86 hq86 G86
    obtain ⟨rfl, K, B⟩ := hq86
    show ownGo _ _ _ _ _ _ _ T86 130 #[.val (.long q1), .second, .val (.long q2), .second, .val (.long q3), .second, .val (.long q4), .second, .val (.int p5), .val (.int (4 : Int32)), .val (.ref b76), .val (.ref b81)] []
    obtain ⟨u0, v0, R0, r1, r2⟩ := own_pair q1 q2
    replace A81 : ownArr Z h86 b81 .long 4 (fun j => .long (ownT u0 v0 q3 q4 j)) := B.congr fun j hj => by
      congr 1
      rw [← r1, ← r2]
      by_cases q : q1 < q2
      · simp only [ownCx, ownT, if_pos q]
        all_goals (rcases j with _ | _ | _ | _ | j <;> first | rfl | omega)
      · simp only [ownCx, ownT, if_neg q]
        all_goals (rcases j with _ | _ | _ | _ | j <;> first | rfl | omega)
    replace A76 := A76.keep K (ninS ne nin0)
    replace Y : n0 ≤ h86.size := Nat.le_trans Y K.1
    refine own_aload G86 at_130 rfl rfl ?_
    show ownGo _ _ _ _ _ _ _ T86 132 #[.val (.long q1), .second, .val (.long q2), .second, .val (.long q3), .second, .val (.long q4), .second, .val (.int p5), .val (.int (4 : Int32)), .val (.ref b76), .val (.ref b81)] [(.ref b81)]
    refine own_iconst G86 at_132 ?_
    show ownGo _ _ _ _ _ _ _ T86 133 #[.val (.long q1), .second, .val (.long q2), .second, .val (.long q3), .second, .val (.long q4), .second, .val (.int p5), .val (.int (4 : Int32)), .val (.ref b76), .val (.ref b81)] [(.int (2 : Int32)), (.ref b81)]
    refine own_iconst G86 at_133 ?_
    show ownGo _ _ _ _ _ _ _ T86 134 #[.val (.long q1), .second, .val (.long q2), .second, .val (.long q3), .second, .val (.long q4), .second, .val (.int p5), .val (.int (4 : Int32)), .val (.ref b76), .val (.ref b81)] [(.int (3 : Int32)), (.int (2 : Int32)), (.ref b81)]
    refine own_callS G86 at_134 (y := (⟨"org/matchwright/InstantiationSortNewestFirstPinLaw", "cx", "([JII)V"⟩ : MethodName)) (hw _ (List.mem_of_getElem? (i := 2) rfl)) (hw _ (List.mem_of_getElem? (i := 3) rfl)) (hw _ (List.mem_of_getElem? (i := 4) rfl)) (hw _ (List.mem_of_getElem? (i := 5) rfl)) (by decide) (argsL := [(.ref b81), (.int (2 : Int32)), (.int (3 : Int32))]) (rest := []) (rmCx l Z a0 hw b81 _ _ (ownT u0 v0 q3 q4) 2 3 h86 n0 Y A81 (by decide) (by decide) rfl rfl f2) rfl rfl rfl (lenOf pd_0 rfl) (W := 0) (Nat.le_of_eq rfl) (by decide) (by decide) (by decide) (by decide) ?_
    intro v87 T87 h87 hq87 G87
    obtain ⟨rfl, K, B⟩ := hq87
    show ownGo _ _ _ _ _ _ _ T87 137 #[.val (.long q1), .second, .val (.long q2), .second, .val (.long q3), .second, .val (.long q4), .second, .val (.int p5), .val (.int (4 : Int32)), .val (.ref b76), .val (.ref b81)] []
    obtain ⟨u1, v1, R1, r1, r2⟩ := own_pair q3 q4
    replace A81 : ownArr Z h87 b81 .long 4 (fun j => .long (ownT u0 v0 u1 v1 j)) := B.congr fun j hj => by
      congr 1
      rw [← r1, ← r2]
      by_cases q : q3 < q4
      · simp only [ownCx, ownT, if_pos q]
        all_goals (rcases j with _ | _ | _ | _ | j <;> first | rfl | omega)
      · simp only [ownCx, ownT, if_neg q]
        all_goals (rcases j with _ | _ | _ | _ | j <;> first | rfl | omega)
    replace A76 := A76.keep K (ninS ne nin0)
    replace Y : n0 ≤ h87.size := Nat.le_trans Y K.1
    refine own_aload G87 at_137 rfl rfl ?_
    show ownGo _ _ _ _ _ _ _ T87 139 #[.val (.long q1), .second, .val (.long q2), .second, .val (.long q3), .second, .val (.long q4), .second, .val (.int p5), .val (.int (4 : Int32)), .val (.ref b76), .val (.ref b81)] [(.ref b81)]
    refine own_iconst G87 at_139 ?_
    show ownGo _ _ _ _ _ _ _ T87 140 #[.val (.long q1), .second, .val (.long q2), .second, .val (.long q3), .second, .val (.long q4), .second, .val (.int p5), .val (.int (4 : Int32)), .val (.ref b76), .val (.ref b81)] [(.int (0 : Int32)), (.ref b81)]
    refine own_iconst G87 at_140 ?_
    show ownGo _ _ _ _ _ _ _ T87 141 #[.val (.long q1), .second, .val (.long q2), .second, .val (.long q3), .second, .val (.long q4), .second, .val (.int p5), .val (.int (4 : Int32)), .val (.ref b76), .val (.ref b81)] [(.int (2 : Int32)), (.int (0 : Int32)), (.ref b81)]
    refine own_callS G87 at_141 (y := (⟨"org/matchwright/InstantiationSortNewestFirstPinLaw", "cx", "([JII)V"⟩ : MethodName)) (hw _ (List.mem_of_getElem? (i := 2) rfl)) (hw _ (List.mem_of_getElem? (i := 3) rfl)) (hw _ (List.mem_of_getElem? (i := 4) rfl)) (hw _ (List.mem_of_getElem? (i := 5) rfl)) (by decide) (argsL := [(.ref b81), (.int (0 : Int32)), (.int (2 : Int32))]) (rest := []) (rmCx l Z a0 hw b81 _ _ (ownT u0 v0 u1 v1) 0 2 h87 n0 Y A81 (by decide) (by decide) rfl rfl f2) rfl rfl rfl (lenOf pd_0 rfl) (W := 0) (Nat.le_of_eq rfl) (by decide) (by decide) (by decide) (by decide) ?_
    intro v88 T88 h88 hq88 G88
    obtain ⟨rfl, K, B⟩ := hq88
    show ownGo _ _ _ _ _ _ _ T88 144 #[.val (.long q1), .second, .val (.long q2), .second, .val (.long q3), .second, .val (.long q4), .second, .val (.int p5), .val (.int (4 : Int32)), .val (.ref b76), .val (.ref b81)] []
    obtain ⟨u2, v2, R2, r1, r2⟩ := own_pair u0 u1
    replace A81 : ownArr Z h88 b81 .long 4 (fun j => .long (ownT u2 v0 v2 v1 j)) := B.congr fun j hj => by
      congr 1
      rw [← r1, ← r2]
      by_cases q : u0 < u1
      · simp only [ownCx, ownT, if_pos q]
        all_goals (rcases j with _ | _ | _ | _ | j <;> first | rfl | omega)
      · simp only [ownCx, ownT, if_neg q]
        all_goals (rcases j with _ | _ | _ | _ | j <;> first | rfl | omega)
    replace A76 := A76.keep K (ninS ne nin0)
    replace Y : n0 ≤ h88.size := Nat.le_trans Y K.1
    refine own_aload G88 at_144 rfl rfl ?_
    show ownGo _ _ _ _ _ _ _ T88 146 #[.val (.long q1), .second, .val (.long q2), .second, .val (.long q3), .second, .val (.long q4), .second, .val (.int p5), .val (.int (4 : Int32)), .val (.ref b76), .val (.ref b81)] [(.ref b81)]
    refine own_iconst G88 at_146 ?_
    show ownGo _ _ _ _ _ _ _ T88 147 #[.val (.long q1), .second, .val (.long q2), .second, .val (.long q3), .second, .val (.long q4), .second, .val (.int p5), .val (.int (4 : Int32)), .val (.ref b76), .val (.ref b81)] [(.int (1 : Int32)), (.ref b81)]
    refine own_iconst G88 at_147 ?_
    show ownGo _ _ _ _ _ _ _ T88 148 #[.val (.long q1), .second, .val (.long q2), .second, .val (.long q3), .second, .val (.long q4), .second, .val (.int p5), .val (.int (4 : Int32)), .val (.ref b76), .val (.ref b81)] [(.int (3 : Int32)), (.int (1 : Int32)), (.ref b81)]
    refine own_callS G88 at_148 (y := (⟨"org/matchwright/InstantiationSortNewestFirstPinLaw", "cx", "([JII)V"⟩ : MethodName)) (hw _ (List.mem_of_getElem? (i := 2) rfl)) (hw _ (List.mem_of_getElem? (i := 3) rfl)) (hw _ (List.mem_of_getElem? (i := 4) rfl)) (hw _ (List.mem_of_getElem? (i := 5) rfl)) (by decide) (argsL := [(.ref b81), (.int (1 : Int32)), (.int (3 : Int32))]) (rest := []) (rmCx l Z a0 hw b81 _ _ (ownT u2 v0 v2 v1) 1 3 h88 n0 Y A81 (by decide) (by decide) rfl rfl f2) rfl rfl rfl (lenOf pd_0 rfl) (W := 0) (Nat.le_of_eq rfl) (by decide) (by decide) (by decide) (by decide) ?_
    intro v89 T89 h89 hq89 G89
    obtain ⟨rfl, K, B⟩ := hq89
    show ownGo _ _ _ _ _ _ _ T89 151 #[.val (.long q1), .second, .val (.long q2), .second, .val (.long q3), .second, .val (.long q4), .second, .val (.int p5), .val (.int (4 : Int32)), .val (.ref b76), .val (.ref b81)] []
    obtain ⟨u3, v3, R3, r1, r2⟩ := own_pair v0 v1
    replace A81 : ownArr Z h89 b81 .long 4 (fun j => .long (ownT u2 u3 v2 v3 j)) := B.congr fun j hj => by
      congr 1
      rw [← r1, ← r2]
      by_cases q : v0 < v1
      · simp only [ownCx, ownT, if_pos q]
        all_goals (rcases j with _ | _ | _ | _ | j <;> first | rfl | omega)
      · simp only [ownCx, ownT, if_neg q]
        all_goals (rcases j with _ | _ | _ | _ | j <;> first | rfl | omega)
    replace A76 := A76.keep K (ninS ne nin0)
    replace Y : n0 ≤ h89.size := Nat.le_trans Y K.1
    refine own_aload G89 at_151 rfl rfl ?_
    show ownGo _ _ _ _ _ _ _ T89 153 #[.val (.long q1), .second, .val (.long q2), .second, .val (.long q3), .second, .val (.long q4), .second, .val (.int p5), .val (.int (4 : Int32)), .val (.ref b76), .val (.ref b81)] [(.ref b81)]
    refine own_iconst G89 at_153 ?_
    show ownGo _ _ _ _ _ _ _ T89 154 #[.val (.long q1), .second, .val (.long q2), .second, .val (.long q3), .second, .val (.long q4), .second, .val (.int p5), .val (.int (4 : Int32)), .val (.ref b76), .val (.ref b81)] [(.int (1 : Int32)), (.ref b81)]
    refine own_iconst G89 at_154 ?_
    show ownGo _ _ _ _ _ _ _ T89 155 #[.val (.long q1), .second, .val (.long q2), .second, .val (.long q3), .second, .val (.long q4), .second, .val (.int p5), .val (.int (4 : Int32)), .val (.ref b76), .val (.ref b81)] [(.int (2 : Int32)), (.int (1 : Int32)), (.ref b81)]
    refine own_callS G89 at_155 (y := (⟨"org/matchwright/InstantiationSortNewestFirstPinLaw", "cx", "([JII)V"⟩ : MethodName)) (hw _ (List.mem_of_getElem? (i := 2) rfl)) (hw _ (List.mem_of_getElem? (i := 3) rfl)) (hw _ (List.mem_of_getElem? (i := 4) rfl)) (hw _ (List.mem_of_getElem? (i := 5) rfl)) (by decide) (argsL := [(.ref b81), (.int (1 : Int32)), (.int (2 : Int32))]) (rest := []) (rmCx l Z a0 hw b81 _ _ (ownT u2 u3 v2 v3) 1 2 h89 n0 Y A81 (by decide) (by decide) rfl rfl f2) rfl rfl rfl (lenOf pd_0 rfl) (W := 0) (Nat.le_of_eq rfl) (by decide) (by decide) (by decide) (by decide) ?_
    intro v90 T90 h90 hq90 G90
    obtain ⟨rfl, K, B⟩ := hq90
    show ownGo _ _ _ _ _ _ _ T90 158 #[.val (.long q1), .second, .val (.long q2), .second, .val (.long q3), .second, .val (.long q4), .second, .val (.int p5), .val (.int (4 : Int32)), .val (.ref b76), .val (.ref b81)] []
    obtain ⟨u4, v4, R4, r1, r2⟩ := own_pair u3 v2
    replace A81 : ownArr Z h90 b81 .long 4 (fun j => .long (ownT u2 u4 v4 v3 j)) := B.congr fun j hj => by
      congr 1
      rw [← r1, ← r2]
      by_cases q : u3 < v2
      · simp only [ownCx, ownT, if_pos q]
        all_goals (rcases j with _ | _ | _ | _ | j <;> first | rfl | omega)
      · simp only [ownCx, ownT, if_neg q]
        all_goals (rcases j with _ | _ | _ | _ | j <;> first | rfl | omega)
    replace A76 := A76.keep K (ninS ne nin0)
    replace Y : n0 ≤ h90.size := Nat.le_trans Y K.1
    refine own_aload G90 at_158 rfl rfl ?_
    show ownGo _ _ _ _ _ _ _ T90 160 #[.val (.long q1), .second, .val (.long q2), .second, .val (.long q3), .second, .val (.long q4), .second, .val (.int p5), .val (.int (4 : Int32)), .val (.ref b76), .val (.ref b81)] [(.ref b76)]
    refine own_callS G90 at_160 (y := (⟨"org/matchwright/Instantiation", "sortNewestFirst", "([J)V"⟩ : MethodName)) (hw _ (List.mem_of_getElem? (i := 6) rfl)) (hw _ (List.mem_of_getElem? (i := 7) rfl)) (hw _ (List.mem_of_getElem? (i := 8) rfl)) (hw _ (List.mem_of_getElem? (i := 9) rfl)) (by decide) (argsL := [(.ref b76)]) (rest := []) (rmSort l Z a0 hw b76 (ownT q1 q2 q3 q4) 4 h90 n0 Y A76 (by decide) f1) rfl rfl rfl (lenOf pd_1 rfl) (W := 0) (Nat.le_of_eq rfl) (by decide) (by decide) (by decide) (by decide) ?_
    intro v91 T91 h91 hq91 G91
    obtain ⟨rfl, K, B⟩ := hq91
    show ownGo _ _ _ _ _ _ _ T91 163 #[.val (.long q1), .second, .val (.long q2), .second, .val (.long q3), .second, .val (.long q4), .second, .val (.int p5), .val (.int (4 : Int32)), .val (.ref b76), .val (.ref b81)] []
    replace A81 := A81.keep K (ninS ne.symm nin0)
    replace A76 := B
    replace Y : n0 ≤ h91.size := Nat.le_trans Y K.1
    have LW := own_law4 R0 R1 R2 R3 R4
    refine own_aload G91 at_163 rfl rfl ?_
    show ownGo _ _ _ _ _ _ _ T91 165 #[.val (.long q1), .second, .val (.long q2), .second, .val (.long q3), .second, .val (.long q4), .second, .val (.int p5), .val (.int (4 : Int32)), .val (.ref b76), .val (.ref b81)] [(.ref b76)]
    refine own_arraylength G91 at_165 A76 ?_
    show ownGo _ _ _ _ _ _ _ T91 166 #[.val (.long q1), .second, .val (.long q2), .second, .val (.long q3), .second, .val (.long q4), .second, .val (.int p5), .val (.int (4 : Int32)), .val (.ref b76), .val (.ref b81)] [(.int (4 : Int32))]
    refine own_iload G91 at_166 rfl ?_
    show ownGo _ _ _ _ _ _ _ T91 168 #[.val (.long q1), .second, .val (.long q2), .second, .val (.long q3), .second, .val (.long q4), .second, .val (.int p5), .val (.int (4 : Int32)), .val (.ref b76), .val (.ref b81)] [(.int (4 : Int32)), (.int (4 : Int32))]
    refine own_icmp_ne G91 at_168 (pc' := 219) (by decide) (by decide) (fun hc => False.elim (hc rfl)) (fun hc => ?_)
    show ownGo _ _ _ _ _ _ _ T91 171 #[.val (.long q1), .second, .val (.long q2), .second, .val (.long q3), .second, .val (.long q4), .second, .val (.int p5), .val (.int (4 : Int32)), .val (.ref b76), .val (.ref b81)] []
    refine own_aload G91 at_171 rfl rfl ?_
    show ownGo _ _ _ _ _ _ _ T91 173 #[.val (.long q1), .second, .val (.long q2), .second, .val (.long q3), .second, .val (.long q4), .second, .val (.int p5), .val (.int (4 : Int32)), .val (.ref b76), .val (.ref b81)] [(.ref b76)]
    refine own_aload G91 at_173 rfl rfl ?_
    show ownGo _ _ _ _ _ _ _ T91 175 #[.val (.long q1), .second, .val (.long q2), .second, .val (.long q3), .second, .val (.long q4), .second, .val (.int p5), .val (.int (4 : Int32)), .val (.ref b76), .val (.ref b81)] [(.ref b81), (.ref b76)]
    refine own_iconst G91 at_175 ?_
    show ownGo _ _ _ _ _ _ _ T91 176 #[.val (.long q1), .second, .val (.long q2), .second, .val (.long q3), .second, .val (.long q4), .second, .val (.int p5), .val (.int (4 : Int32)), .val (.ref b76), .val (.ref b81)] [(.int (0 : Int32)), (.ref b81), (.ref b76)]
    refine own_callS G91 at_176 (y := (⟨"org/matchwright/InstantiationSortNewestFirstPinLaw", "same", "([J[JI)Z"⟩ : MethodName)) (hw _ (List.mem_of_getElem? (i := 10) rfl)) (hw _ (List.mem_of_getElem? (i := 11) rfl)) (hw _ (List.mem_of_getElem? (i := 4) rfl)) (hw _ (List.mem_of_getElem? (i := 12) rfl)) (by decide) (argsL := [(.ref b76), (.ref b81), (.int (0 : Int32))]) (rest := []) (rmSame l Z a0 hw b76 b81 _ (ownOuter (ownT q1 q2 q3 q4) (4 - 1) 1) (ownT u2 u4 v4 v3) 4 0 h91 n0 Y A76 A81 (by decide) (by decide) rfl (fun _ => LW.1)) rfl rfl rfl (lenOf pd_2 rfl) (W := 0) (Nat.le_of_eq rfl) (by decide) (by decide) (by decide) (by decide) ?_
    intro v92 T92 h92 hq92 G92
    obtain ⟨rfl, rfl⟩ := hq92
    show ownGo _ _ _ _ _ _ _ T92 179 #[.val (.long q1), .second, .val (.long q2), .second, .val (.long q3), .second, .val (.long q4), .second, .val (.int p5), .val (.int (4 : Int32)), .val (.ref b76), .val (.ref b81)] [(.int (1 : Int32))]
    refine own_if_eq G92 at_179 (pc' := 219) (by decide) (by decide) (fun hc => False.elim (absurd hc (by decide))) (fun hc => ?_)
    show ownGo _ _ _ _ _ _ _ T92 182 #[.val (.long q1), .second, .val (.long q2), .second, .val (.long q3), .second, .val (.long q4), .second, .val (.int p5), .val (.int (4 : Int32)), .val (.ref b76), .val (.ref b81)] []
    refine own_aload G92 at_182 rfl rfl ?_
    show ownGo _ _ _ _ _ _ _ T92 184 #[.val (.long q1), .second, .val (.long q2), .second, .val (.long q3), .second, .val (.long q4), .second, .val (.int p5), .val (.int (4 : Int32)), .val (.ref b76), .val (.ref b81)] [(.ref b76)]
    refine own_aload G92 at_184 rfl rfl ?_
    show ownGo _ _ _ _ _ _ _ T92 186 #[.val (.long q1), .second, .val (.long q2), .second, .val (.long q3), .second, .val (.long q4), .second, .val (.int p5), .val (.int (4 : Int32)), .val (.ref b76), .val (.ref b81)] [(.ref b81), (.ref b76)]
    refine own_iconst G92 at_186 ?_
    show ownGo _ _ _ _ _ _ _ T92 187 #[.val (.long q1), .second, .val (.long q2), .second, .val (.long q3), .second, .val (.long q4), .second, .val (.int p5), .val (.int (4 : Int32)), .val (.ref b76), .val (.ref b81)] [(.int (1 : Int32)), (.ref b81), (.ref b76)]
    refine own_callS G92 at_187 (y := (⟨"org/matchwright/InstantiationSortNewestFirstPinLaw", "same", "([J[JI)Z"⟩ : MethodName)) (hw _ (List.mem_of_getElem? (i := 10) rfl)) (hw _ (List.mem_of_getElem? (i := 11) rfl)) (hw _ (List.mem_of_getElem? (i := 4) rfl)) (hw _ (List.mem_of_getElem? (i := 12) rfl)) (by decide) (argsL := [(.ref b76), (.ref b81), (.int (1 : Int32))]) (rest := []) (rmSame l Z a0 hw b76 b81 _ (ownOuter (ownT q1 q2 q3 q4) (4 - 1) 1) (ownT u2 u4 v4 v3) 4 1 h91 n0 Y A76 A81 (by decide) (by decide) rfl (fun _ => LW.2.1)) rfl rfl rfl (lenOf pd_2 rfl) (W := 0) (Nat.le_of_eq rfl) (by decide) (by decide) (by decide) (by decide) ?_
    intro v93 T93 h93 hq93 G93
    obtain ⟨rfl, rfl⟩ := hq93
    show ownGo _ _ _ _ _ _ _ T93 190 #[.val (.long q1), .second, .val (.long q2), .second, .val (.long q3), .second, .val (.long q4), .second, .val (.int p5), .val (.int (4 : Int32)), .val (.ref b76), .val (.ref b81)] [(.int (1 : Int32))]
    refine own_if_eq G93 at_190 (pc' := 219) (by decide) (by decide) (fun hc => False.elim (absurd hc (by decide))) (fun hc => ?_)
    show ownGo _ _ _ _ _ _ _ T93 193 #[.val (.long q1), .second, .val (.long q2), .second, .val (.long q3), .second, .val (.long q4), .second, .val (.int p5), .val (.int (4 : Int32)), .val (.ref b76), .val (.ref b81)] []
    refine own_aload G93 at_193 rfl rfl ?_
    show ownGo _ _ _ _ _ _ _ T93 195 #[.val (.long q1), .second, .val (.long q2), .second, .val (.long q3), .second, .val (.long q4), .second, .val (.int p5), .val (.int (4 : Int32)), .val (.ref b76), .val (.ref b81)] [(.ref b76)]
    refine own_aload G93 at_195 rfl rfl ?_
    show ownGo _ _ _ _ _ _ _ T93 197 #[.val (.long q1), .second, .val (.long q2), .second, .val (.long q3), .second, .val (.long q4), .second, .val (.int p5), .val (.int (4 : Int32)), .val (.ref b76), .val (.ref b81)] [(.ref b81), (.ref b76)]
    refine own_iconst G93 at_197 ?_
    show ownGo _ _ _ _ _ _ _ T93 198 #[.val (.long q1), .second, .val (.long q2), .second, .val (.long q3), .second, .val (.long q4), .second, .val (.int p5), .val (.int (4 : Int32)), .val (.ref b76), .val (.ref b81)] [(.int (2 : Int32)), (.ref b81), (.ref b76)]
    refine own_callS G93 at_198 (y := (⟨"org/matchwright/InstantiationSortNewestFirstPinLaw", "same", "([J[JI)Z"⟩ : MethodName)) (hw _ (List.mem_of_getElem? (i := 10) rfl)) (hw _ (List.mem_of_getElem? (i := 11) rfl)) (hw _ (List.mem_of_getElem? (i := 4) rfl)) (hw _ (List.mem_of_getElem? (i := 12) rfl)) (by decide) (argsL := [(.ref b76), (.ref b81), (.int (2 : Int32))]) (rest := []) (rmSame l Z a0 hw b76 b81 _ (ownOuter (ownT q1 q2 q3 q4) (4 - 1) 1) (ownT u2 u4 v4 v3) 4 2 h91 n0 Y A76 A81 (by decide) (by decide) rfl (fun _ => LW.2.2.1)) rfl rfl rfl (lenOf pd_2 rfl) (W := 0) (Nat.le_of_eq rfl) (by decide) (by decide) (by decide) (by decide) ?_
    intro v94 T94 h94 hq94 G94
    obtain ⟨rfl, rfl⟩ := hq94
    show ownGo _ _ _ _ _ _ _ T94 201 #[.val (.long q1), .second, .val (.long q2), .second, .val (.long q3), .second, .val (.long q4), .second, .val (.int p5), .val (.int (4 : Int32)), .val (.ref b76), .val (.ref b81)] [(.int (1 : Int32))]
    refine own_if_eq G94 at_201 (pc' := 219) (by decide) (by decide) (fun hc => False.elim (absurd hc (by decide))) (fun hc => ?_)
    show ownGo _ _ _ _ _ _ _ T94 204 #[.val (.long q1), .second, .val (.long q2), .second, .val (.long q3), .second, .val (.long q4), .second, .val (.int p5), .val (.int (4 : Int32)), .val (.ref b76), .val (.ref b81)] []
    refine own_aload G94 at_204 rfl rfl ?_
    show ownGo _ _ _ _ _ _ _ T94 206 #[.val (.long q1), .second, .val (.long q2), .second, .val (.long q3), .second, .val (.long q4), .second, .val (.int p5), .val (.int (4 : Int32)), .val (.ref b76), .val (.ref b81)] [(.ref b76)]
    refine own_aload G94 at_206 rfl rfl ?_
    show ownGo _ _ _ _ _ _ _ T94 208 #[.val (.long q1), .second, .val (.long q2), .second, .val (.long q3), .second, .val (.long q4), .second, .val (.int p5), .val (.int (4 : Int32)), .val (.ref b76), .val (.ref b81)] [(.ref b81), (.ref b76)]
    refine own_iconst G94 at_208 ?_
    show ownGo _ _ _ _ _ _ _ T94 209 #[.val (.long q1), .second, .val (.long q2), .second, .val (.long q3), .second, .val (.long q4), .second, .val (.int p5), .val (.int (4 : Int32)), .val (.ref b76), .val (.ref b81)] [(.int (3 : Int32)), (.ref b81), (.ref b76)]
    refine own_callS G94 at_209 (y := (⟨"org/matchwright/InstantiationSortNewestFirstPinLaw", "same", "([J[JI)Z"⟩ : MethodName)) (hw _ (List.mem_of_getElem? (i := 10) rfl)) (hw _ (List.mem_of_getElem? (i := 11) rfl)) (hw _ (List.mem_of_getElem? (i := 4) rfl)) (hw _ (List.mem_of_getElem? (i := 12) rfl)) (by decide) (argsL := [(.ref b76), (.ref b81), (.int (3 : Int32))]) (rest := []) (rmSame l Z a0 hw b76 b81 _ (ownOuter (ownT q1 q2 q3 q4) (4 - 1) 1) (ownT u2 u4 v4 v3) 4 3 h91 n0 Y A76 A81 (by decide) (by decide) rfl (fun _ => LW.2.2.2)) rfl rfl rfl (lenOf pd_2 rfl) (W := 0) (Nat.le_of_eq rfl) (by decide) (by decide) (by decide) (by decide) ?_
    intro v95 T95 h95 hq95 G95
    obtain ⟨rfl, rfl⟩ := hq95
    show ownGo _ _ _ _ _ _ _ T95 212 #[.val (.long q1), .second, .val (.long q2), .second, .val (.long q3), .second, .val (.long q4), .second, .val (.int p5), .val (.int (4 : Int32)), .val (.ref b76), .val (.ref b81)] [(.int (1 : Int32))]
    refine own_if_eq G95 at_212 (pc' := 219) (by decide) (by decide) (fun hc => False.elim (absurd hc (by decide))) (fun hc => ?_)
    show ownGo _ _ _ _ _ _ _ T95 215 #[.val (.long q1), .second, .val (.long q2), .second, .val (.long q3), .second, .val (.long q4), .second, .val (.int p5), .val (.int (4 : Int32)), .val (.ref b76), .val (.ref b81)] []
    refine own_iconst G95 at_215 ?_
    show ownGo _ _ _ _ _ _ _ T95 216 #[.val (.long q1), .second, .val (.long q2), .second, .val (.long q3), .second, .val (.long q4), .second, .val (.int p5), .val (.int (4 : Int32)), .val (.ref b76), .val (.ref b81)] [(.int (1 : Int32))]
    refine own_goto G95 at_216 (pc' := 220) (by decide) (by decide) ?_
    show ownGo _ _ _ _ _ _ _ T95 220 #[.val (.long q1), .second, .val (.long q2), .second, .val (.long q3), .second, .val (.long q4), .second, .val (.int p5), .val (.int (4 : Int32)), .val (.ref b76), .val (.ref b81)] [(.int (1 : Int32))]
    exact own_zreturn G95 at_220 rfl (by decide) (by decide) rfl
set_option maxRecDepth 65536 in
set_option maxHeartbeats 40000000 in
theorem comes_1 {Post : Tables → Env → Array Value → State → Outcome → State → Prop} (hpost : ∀ tb e args s v u, (limb_1_1.after args s (.returned v) u = true ∧ limb_1_2.after args s (.returned v) u = true ∧ True) → FrameEnd s (.returned v) u (Jvm.fieldLocs frame_1_writes args s ++ Jvm.arrayLocs frame_1_arrays args s ++ Jvm.staticLocs frame_1_statics s) 16 128 → Post tb e args s (.returned v) u) :
    ArmFor flags0 classFile x code maxLocals ret World_1 tables_1 room_1 Calls_1 rest_1 Pre_1 Post := by
  intro l hfl _ _ p e ha hc hk s m args below hf hA hF happ hP
  obtain ⟨hcalls, hrest, hpre⟩ := hP
  obtain ⟨-, -, -, hnamed, -, -, -, hat⟩ := (Spec.applies_iff hf).mp happ
  obtain ⟨hg, hn⟩ := and_e (Cond.before_iff.mp (show (Jvm.Cond.and given_1 narrow_1).before args s = true from hpre))
  obtain ⟨g1, g2⟩ := and_e hg
  obtain ⟨g3, g4⟩ := and_e g2
  obtain ⟨g5, g6⟩ := and_e g4
  obtain ⟨g7, g8⟩ := and_e g6
  obtain ⟨g9, g10⟩ := and_e g8
  obtain ⟨w0, w1, w2, w3, w4, rfl⟩ : ∃ w0 w1 w2 w3 w4 : Value, args = #[w0, w1, w2, w3, w4] := by
    have hs : args.size = 5 := by simpa [Cond.value, given_1] using g1
    obtain ⟨L⟩ := args
    match L, hs with
    | [w0, w1, w2, w3, w4], _ => exact ⟨w0, w1, w2, w3, w4, rfl⟩
  have hw := fun d (hd : d ∈ tables_1) => atoms_spec (ws := Jvm.Cond.code x code maxLocals ret :: tables_1) hat d (List.mem_cons_of_mem _ hd)
  have hfit : Fit s := fun {y c} hc i hi => by
    obtain ⟨ha, rfl⟩ := Array.getElem?_eq_some_iff.mp hc
    have q := List.all_eq_true.mp ((Array.all_eq_true_iff_forall_mem.mp hF) _ (Array.getElem_mem ha)) i (List.mem_range.mpr hi)
    simpa [Array.getElem?_eq_getElem hi] using q
  obtain ⟨i0, ei0⟩ := isL_v g3
  obtain rfl : w0 = (.long i0) := Option.some.inj ei0
  obtain ⟨i1, ei1⟩ := isL_v g5
  obtain rfl : w1 = (.long i1) := Option.some.inj ei1
  obtain ⟨i2, ei2⟩ := isL_v g7
  obtain rfl : w2 = (.long i2) := Option.some.inj ei2
  obtain ⟨i3, ei3⟩ := isL_v g9
  obtain rfl : w3 = (.long i3) := Option.some.inj ei3
  obtain ⟨i4, ei4⟩ := is_v g10
  obtain rfl : w4 = (.int i4) := Option.some.inj ei4
  obtain ⟨n, o, h1, h2, h3, _, L, rfl, ⟨rfl, N⟩, hq⟩ := rm0 l s _ hw i0 i1 i2 i3 i4 s.heap s.heap.size (Nat.le_refl _) p e ha hc hk s m _ below hf ((Spec.applies_iff_loose hf).mp happ).1 ⟨rfl, State.Warmed39.refl s, rfl⟩ trivial
  refine ⟨n, _, h1, h2, h3, hpost _ _ _ _ _ _ ⟨Cond.after_iff.mpr rfl, Cond.after_iff.mpr (eq_i res_at (Term.int_eval (1)) rfl), trivial⟩ ⟨hq.1, hq.2.1, (hq.2.2.sift fun y hy => Or.inr (N y hy)).mono (by decide) (by decide)⟩⟩
theorem main_1_1 : Claimed_1_1 := comes_1 fun _ _ _ _ _ _ h hF => ⟨h.1, hF⟩
theorem main_1_2 : Claimed_1_2 := comes_1 fun _ _ _ _ _ _ h hF => ⟨h.2.1, hF⟩
end Jvm.Pilot.@@N@@
namespace Jvm.Pilot.@@N@@
open Jvm Jvm.ClassFile Sem Op Lib Jvm.Free Jvm.Stand Jvm.Pilot.@@N@@.Jvm.D
/-! MADE BY PROGRAM (witnessworld.py) out of the Statement's table words and the real class files: 11 classes; the members and pool entries that the words name. The judged class is class 1, her method 1. -/
namespace start1
open Jvm.ClassFile
def u (s : String) : CpInfo := .utf8 (stringToUtf16 s)
/-- a pool by its gaps: so many unusable entries, then the entry; so many at the end -/
def gap : Nat → List CpInfo → List CpInfo
  | 0, r => r
  | n + 1, r => .unusable :: gap n r
def poolList (es : List (Nat × CpInfo)) (last : Nat) : List CpInfo := es.foldr (fun e r => gap e.1 (e.2 :: r)) (gap last [])
def pool (es : List (Nat × CpInfo)) (last : Nat) : Array CpInfo := ⟨poolList es last⟩
def fileOf (pool : Array CpInfo) (this : Nat) (attrs : Array Attribute := #[]) (ms : Array MethodInfo := #[]) (fl : Nat := 33) (sup : Nat := 0) (ifs : Array Nat := #[]) (fds : Array FieldInfo := #[]) : ClassFile where
  minorVersion := 0
  majorVersion := 65
  constantPool := pool
  accessFlags := fl
  thisClass := this
  superClass := sup
  interfaces := ifs
  fields := fds
  methods := ms
  attributes := attrs
def plain (name : String) (sup : Option ClassId) : Class where
  name := name
  kind := .ordinary
  loader := none
  accessFlags := 33
  super := sup
  interfaces := #[]
  cf := none
  fields := #[]
  methods := #[]
  instanceTypes := #[]
  staticTypes := #[]
  resolved := #[]
  callSites := []
  init := .initialized
  statics := none
  mirror := none

def pool0 : Array CpInfo := pool [(5, u "<init>"), (0, u "()V"), (1, .class_ 10), (1, u "java/lang/Object")] 113

def k0m0 : Method := { name := "<init>", desc := "()V", sig := { parameters := [], returnType := none }, accessFlags := 1, code := none }
/-- java/lang/Object -/
def k0 : Class := { plain "java/lang/Object" none with
  accessFlags := 33
  interfaces := #[]
  cf := some (fileOf pool0 8 #[] #[{ accessFlags := 1, nameIndex := 5, descriptorIndex := 6, attributes := #[] }] 33 0 #[] #[])
  fields := #[]
  methods := #[k0m0]
  instanceTypes := #[]
  staticTypes := #[]
  resolved := Array.replicate 124 none
  statics := none }

def pool1 : Array CpInfo := pool [(2, .class_ 4), (1, u "java/lang/Object"), (0, u "<init>"), (0, u "()V"), (2, .long 9223372036854775808), (1, .methodref 12 13), (0, .class_ 14), (0, .nameAndType 15 16), (0, u "org/matchwright/InstantiationSortNewestFirstPinLaw"), (0, u "cx"), (0, u "([JII)V"), (0, .methodref 18 19), (0, .class_ 20), (0, .nameAndType 21 22), (0, u "org/matchwright/Instantiation"), (0, u "sortNewestFirst"), (0, u "([J)V"), (0, .methodref 12 24), (0, .nameAndType 25 26), (0, u "same"), (0, u "([J[JI)Z"), (2, u "law"), (0, u "(JJJJI)Z")] 5

def k1m0 : Method := { name := "<init>", desc := "()V", sig := { parameters := [], returnType := none }, accessFlags := 1, code := none }
def k1c1 : Code := { maxStack := 4, maxLocals := 12, code := code, exceptionTable := #[], attributes := #[] }
def k1m1 : Method := { name := "law", desc := "(JJJJI)Z", sig := { parameters := [.long, .long, .long, .long, .int], returnType := some .boolean }, accessFlags := 9, code := some k1c1 }
def k1c2 : Code := { maxStack := 4, maxLocals := 5, code := method_3_code, exceptionTable := #[], attributes := #[] }
def k1m2 : Method := { name := "cx", desc := "([JII)V", sig := { parameters := [(.array .long), .int, .int], returnType := none }, accessFlags := 10, code := some k1c2 }
def k1c3 : Code := { maxStack := 4, maxLocals := 3, code := method_4_code, exceptionTable := #[], attributes := #[] }
def k1m3 : Method := { name := "same", desc := "([J[JI)Z", sig := { parameters := [(.array .long), (.array .long), .int], returnType := some .boolean }, accessFlags := 10, code := some k1c3 }
/-- org/matchwright/InstantiationSortNewestFirstPinLaw -/
def k1 : Class := { plain "org/matchwright/InstantiationSortNewestFirstPinLaw" (some 0) with
  accessFlags := 49
  interfaces := #[]
  cf := some (fileOf pool1 12 #[] #[{ accessFlags := 1, nameIndex := 5, descriptorIndex := 6, attributes := #[] }, { accessFlags := 9, nameIndex := 29, descriptorIndex := 30, attributes := #[] }, { accessFlags := 10, nameIndex := 15, descriptorIndex := 16, attributes := #[] }, { accessFlags := 10, nameIndex := 25, descriptorIndex := 26, attributes := #[] }] 49 2 #[] #[])
  fields := #[]
  methods := #[k1m0, k1m1, k1m2, k1m3]
  instanceTypes := #[]
  staticTypes := #[]
  resolved := Array.replicate 36 none
  statics := none }

def pool2 : Array CpInfo := pool [(2, .class_ 4), (1, u "java/lang/Object"), (3, .class_ 10), (1, u "org/matchwright/Instantiation"), (0, u "rule"), (0, u "Lorg/matchwright/Rule;"), (2, u "elements"), (0, u "[Lorg/matchwright/Element;"), (2, u "tagList"), (0, u "[J"), (8, u "sortNewestFirst"), (0, u "([J)V"), (48, u "LEX"), (0, u "Ljava/util/Comparator;")] 36

def k2c0 : Code := { maxStack := 4, maxLocals := 5, code := prog_32_method_6_code, exceptionTable := #[], attributes := #[] }
def k2m0 : Method := { name := "sortNewestFirst", desc := "([J)V", sig := { parameters := [(.array .long)], returnType := none }, accessFlags := 8, code := some k2c0 }
/-- org/matchwright/Instantiation -/
def k2 : Class := { plain "org/matchwright/Instantiation" (some 0) with
  accessFlags := 48
  interfaces := #[]
  cf := some (fileOf pool2 8 #[] #[{ accessFlags := 8, nameIndex := 29, descriptorIndex := 30, attributes := #[] }] 48 2 #[] #[{ accessFlags := 24, nameIndex := 79, descriptorIndex := 80, attributes := #[] }, { accessFlags := 16, nameIndex := 11, descriptorIndex := 12, attributes := #[] }, { accessFlags := 16, nameIndex := 15, descriptorIndex := 16, attributes := #[] }, { accessFlags := 16, nameIndex := 19, descriptorIndex := 20, attributes := #[] }])
  fields := #[{ name := "LEX", type := (.object "java/util/Comparator"), accessFlags := 24, slot := 0, constantValue := 0 }, { name := "rule", type := (.object "org/matchwright/Rule"), accessFlags := 16, slot := 0, constantValue := 0 }, { name := "elements", type := (.array (.object "org/matchwright/Element")), accessFlags := 16, slot := 1, constantValue := 0 }, { name := "tagList", type := (.array .long), accessFlags := 16, slot := 2, constantValue := 0 }]
  methods := #[k2m0]
  instanceTypes := #[(.object "org/matchwright/Rule"), (.array (.object "org/matchwright/Element")), (.array .long)]
  staticTypes := #[(.object "java/util/Comparator")]
  resolved := Array.replicate 117 none
  statics := none }

def pool3 : Array CpInfo := pool [(1, u "java/lang/Cloneable"), (0, .class_ 1), (0, u "java/lang/Object"), (0, .class_ 3)] 3

/-- java/lang/Cloneable -/
def k3 : Class := { plain "java/lang/Cloneable" (some 0) with
  accessFlags := 1537
  interfaces := #[]
  cf := some (fileOf pool3 2 #[] #[] 1537 4 #[] #[])
  fields := #[]
  methods := #[]
  instanceTypes := #[]
  staticTypes := #[]
  resolved := Array.replicate 8 none
  statics := none }

def pool4 : Array CpInfo := pool [(1, u "java/io/Serializable"), (0, .class_ 1), (0, u "java/lang/Object"), (0, .class_ 3)] 3

/-- java/io/Serializable -/
def k4 : Class := { plain "java/io/Serializable" (some 0) with
  accessFlags := 1537
  interfaces := #[]
  cf := some (fileOf pool4 2 #[] #[] 1537 4 #[] #[])
  fields := #[]
  methods := #[]
  instanceTypes := #[]
  staticTypes := #[]
  resolved := Array.replicate 8 none
  statics := none }

/-- the primitive byte -/
def k5 : Class := { plain "byte" none with kind := .primitive 'B', accessFlags := 0x411 }
/-- [B -/
def k6 : Class := { plain "[B" (some 0) with kind := .array 5 .byte, interfaces := #[3, 4], accessFlags := 1041 }

/-- the primitive int -/
def k7 : Class := { plain "int" none with kind := .primitive 'I', accessFlags := 0x411 }
/-- [I -/
def k8 : Class := { plain "[I" (some 0) with kind := .array 7 .int, interfaces := #[3, 4], accessFlags := 1041 }

/-- the primitive long -/
def k9 : Class := { plain "long" none with kind := .primitive 'J', accessFlags := 0x411 }
/-- [J -/
def k10 : Class := { plain "[J" (some 0) with kind := .array 9 .long, interfaces := #[3, 4], accessFlags := 1041 }

def heap : Heap := #[]
def classes : Array Class := #[k0, k1, k2, k3, k4, k5, k6, k7, k8, k9, k10]
def interned : List (Array UInt16 × Addr) := []
def slotsUsed : Nat := 0
def theMethod : MethodId := ⟨1, 1⟩
def args0 : Array Value := #[.long 1, .long 2, .long 3, .long 4, .int 5]
def aboutOver (below : List Frame) : State where
  vm := { classes := classes, interned := interned.toArray }
  heap := heap
  slotsUsed := slotsUsed
  threads := #[{ frames := .invoking theMethod args0 :: below }]
def below0 : List Frame := [.native { method := ⟨0, 0⟩, args := #[] }]
def about1 : State := aboutOver below0
def p0 : Program := .bare "" "" ""
def e0 : Env := launch0.env 0 0 0
theorem w_frames : about1.frames = Frame.invoking theMethod args0 :: below0 := rfl
set_option maxRecDepth 65536 in
theorem w_args : argsFit about1.vm theMethod args0 = true := by decide +kernel
set_option maxRecDepth 65536 in
theorem w_heap : heapFits about1 = true := by decide +kernel
set_option maxRecDepth 65536 in
theorem w_runnable : about1.curStatus? = some .runnable := by decide +kernel
set_option maxRecDepth 65536 in
theorem w_alone : about1.alone = true := by decide +kernel
set_option maxRecDepth 65536 in
theorem w_named : about1.methodNamed? x = some theMethod := by decide +kernel
set_option maxRecDepth 65536 in
theorem w_hears : about1.hears theMethod below0 = true := by decide +kernel
set_option maxRecDepth 65536 in
theorem w_ripe : about1.ripe theMethod args0 below0 = true := by decide +kernel
theorem w_running : about1.status = .running := rfl
set_option maxRecDepth 65536 in
theorem w_room : about1.hasRoom e0.platform room_1 = true :=
  launch0.hasRoom_least _ room_1 (by decide +kernel) (by decide +kernel) (by decide +kernel) (by decide +kernel) (by decide +kernel) (by decide +kernel)
theorem allAtoms_all (ts : List Jvm.Cond) (a : Array Jvm.Value) (st : Jvm.State) : (allAtoms ts).before a st = ts.all (fun c => c.before a st) := by
  induction ts with
  | nil => rfl
  | cons c t ih =>
    show (Jvm.Cond.and c (allAtoms t)).before a st = _
    rw [Jvm.Cond.before_and, ih, List.all_cons]
def words1 : List Jvm.Cond := Jvm.Cond.code x code maxLocals ret :: tables_1
/-- a 'code' word, met by the world's own term for the bytes: nothing is compared byte by byte -/
theorem code_word {y : MethodName} {bytes : ByteArray} {mx : Nat} {rt : Option FieldType} {a : Array Value} {s : State} {m : MethodId} {meth : Method} {c : Code} (h1 : s.methodNamed? y = some m) (h2 : s.vm.method? m = some meth) (h3 : meth.code = some c) (h4 : c.code = bytes)
    (h5 : (c.maxLocals == mx && c.exceptionTable.isEmpty && decide (c.maxStack ≤ mostOperands) && decide (meth.sig.returnType = rt) && !meth.locks && decide (parseMethodDescriptor y.desc = some meth.sig)) = true) : (Jvm.Cond.code y bytes mx rt).before a s = true := by
  simp only [Bool.and_eq_true, beq_iff_eq, Bool.not_eq_true', decide_eq_true_eq] at h5
  obtain ⟨⟨⟨⟨⟨g1, g2⟩, g3⟩, g4⟩, g5⟩, g6⟩ := h5
  simp [Cond.before, Cond.holds, Cond.value, h1, h2, h3, h4, g1, g2, g3, g4, g5, g6]
def isCode : Jvm.Cond → Bool
  | .code _ _ _ _ => true
  | _ => false
theorem all_split {L : List Jvm.Cond} {P : Jvm.Cond → Bool} (h1 : L.all (fun c => isCode c || P c) = true) (h2 : ∀ c ∈ L.filter isCode, P c = true) : L.all P = true := by
  refine List.all_eq_true.mpr fun c hc => ?_
  have h := List.all_eq_true.mp h1 c hc
  rcases Bool.eq_false_or_eq_true (isCode c) with hi | hi
  · exact h2 c (List.mem_filter.mpr ⟨hc, hi⟩)
  · simpa [hi] using h
set_option maxRecDepth 65536 in
theorem w_c0 : (Jvm.Cond.code x code maxLocals ret).before args0 about1 = true := code_word (m := ⟨1, 1⟩) (meth := k1m1) (c := k1c1) (by decide +kernel) rfl rfl rfl (by decide +kernel)
set_option maxRecDepth 65536 in
theorem w_c1 : (Jvm.Cond.code ({ cls := "org/matchwright/InstantiationSortNewestFirstPinLaw", name := "cx", desc := "([JII)V" } : Jvm.MethodName) method_3_code (5 : Nat) (Option.none : Option Jvm.ClassFile.FieldType)).before args0 about1 = true := code_word (m := ⟨1, 2⟩) (meth := k1m2) (c := k1c2) (by decide +kernel) rfl rfl rfl (by decide +kernel)
set_option maxRecDepth 65536 in
theorem w_c2 : (Jvm.Cond.code ({ cls := "org/matchwright/Instantiation", name := "sortNewestFirst", desc := "([J)V" } : Jvm.MethodName) prog_32_method_6_code (5 : Nat) (Option.none : Option Jvm.ClassFile.FieldType)).before args0 about1 = true := code_word (m := ⟨2, 0⟩) (meth := k2m0) (c := k2c0) (by decide +kernel) rfl rfl rfl (by decide +kernel)
set_option maxRecDepth 65536 in
theorem w_c3 : (Jvm.Cond.code ({ cls := "org/matchwright/InstantiationSortNewestFirstPinLaw", name := "same", desc := "([J[JI)Z" } : Jvm.MethodName) method_4_code (3 : Nat) (Option.some Jvm.ClassFile.FieldType.boolean)).before args0 about1 = true := code_word (m := ⟨1, 3⟩) (meth := k1m3) (c := k1c3) (by decide +kernel) rfl rfl rfl (by decide +kernel)
def codes1 : List Jvm.Cond := [Jvm.Cond.code x code maxLocals ret, Jvm.Cond.code ({ cls := "org/matchwright/InstantiationSortNewestFirstPinLaw", name := "cx", desc := "([JII)V" } : Jvm.MethodName) method_3_code (5 : Nat) (Option.none : Option Jvm.ClassFile.FieldType), Jvm.Cond.code ({ cls := "org/matchwright/Instantiation", name := "sortNewestFirst", desc := "([J)V" } : Jvm.MethodName) prog_32_method_6_code (5 : Nat) (Option.none : Option Jvm.ClassFile.FieldType), Jvm.Cond.code ({ cls := "org/matchwright/InstantiationSortNewestFirstPinLaw", name := "same", desc := "([J[JI)Z" } : Jvm.MethodName) method_4_code (3 : Nat) (Option.some Jvm.ClassFile.FieldType.boolean)]
set_option maxRecDepth 65536 in
theorem codes_eq : words1.filter isCode = codes1 := rfl
theorem w_codes : ∀ c ∈ words1.filter isCode, c.before args0 about1 = true := by
  rw [codes_eq]
  intro c hc
  simp only [codes1, List.mem_cons, List.not_mem_nil, or_false] at hc
  rcases hc with rfl | rfl | rfl | rfl
  · exact w_c0
  · exact w_c1
  · exact w_c2
  · exact w_c3
set_option maxRecDepth 65536 in
theorem w_t1 : words1.all (fun c => isCode c || c.before args0 about1) = true := by decide +kernel
theorem w_tables : (allAtoms (Jvm.Cond.code x code maxLocals ret :: tables_1)).before args0 about1 = true := by
  rw [allAtoms_all]
  show words1.all (fun c => c.before args0 about1) = true
  refine all_split ?_ w_codes
  rw [w_t1]
set_option maxRecDepth 65536 in
theorem w_case : (Jvm.Cond.and given_1 narrow_1).before args0 about1 = true := by decide +kernel
theorem w_applies : (headSpec (Jvm.Cond.code x code maxLocals ret :: tables_1) room_1).applies x e0.platform about1 = true :=
  (Spec.applies_iff w_frames).mpr ⟨w_running, w_runnable, w_alone, w_named, w_hears, w_ripe, w_room, w_tables⟩
theorem atStart : AtStart classFile x code maxLocals ret World_1 tables_1 room_1 Calls_1 rest_1 Pre_1 launch0 p0 e0 about1 theMethod args0 below0 :=
  ⟨lists_1, trivial, launch0.admits_env _ _ _, launch0.least_env, fairChoices_fair.cas, fairChoices_fair.clock, w_frames, w_args, w_heap, w_applies, trivial, trivial, w_case⟩
end start1
theorem witness_1 : WitnessClaimed_1 := ⟨start1.p0, start1.e0, start1.about1, start1.theMethod, start1.args0, start1.below0, start1.atStart⟩
end Jvm.Pilot.@@N@@
