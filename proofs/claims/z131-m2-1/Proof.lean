import JvmDerived
import JvmDerived.Pilot.@@N@@Statement
import JvmDerived.Pilot.@@N@@Code
set_option linter.unusedVariables false
set_option linter.unusedSimpArgs false
@@BLOCK:NumsL.lean.txt@@
namespace Jvm.Pilot.@@N@@
open Jvm Jvm.ClassFile Sem Op Lib Jvm.Free Jvm.Stand Jvm.LawKit Jvm.RoadKit Bundle Jvm.Pilot.@@N@@.Jvm.D
section Own
variable {p : Program} {l : Launch} {e : Env} {R : Room} {s : State} {m : MethodId} {args : Array Value} {below : List Frame} {meth : Method} {c : Code} {T : State} {cells slots n0 : Nat} {Z : State} {a0 : Array Value} {h h' h0 : Heap} {own nm : String} {bytes : ByteArray} {mx : Nat} {rt : Option FieldType} {Q : Option Value → Heap → Prop} {En : Outcome → State → List Loc → Prop} {pc : Nat} {Ls : Array Slot} {S : List Value} {a b : Addr}
/-- the run from here ends as Q says -/
def ownGo (p : Program) (e : Env) (m : MethodId) (below : List Frame) (n0 : Nat) (En : Outcome → State → List Loc → Prop) (Q : Option Value → Heap → Prop) (T : State) (pc : Nat) (Ls : Array Slot) (S : List Value) : Prop :=
  ∃ s₂ o, Steps p.tables e below (T.setTop (mkF m pc Ls S)) s₂ ∧ s₂.status = .running ∧ Ended s₂ below o ∧ ∃ v L, o = .returned v ∧ (Q v s₂.heap ∧ Fr n0 L) ∧ En o s₂ L
abbrev ownEnd (s : State) (R : Room) (o : Outcome) (t : State) (L : List Loc) : Prop := FrameEnd s o t L R.cells R.slots
/-- where the walk stands -/
def ownSt (p : Program) (l : Launch) (e : Env) (R : Room) (s : State) (m : MethodId) (args : Array Value) (below : List Frame) (meth : Method) (c : Code) (Z : State) (n0 : Nat) (own : String) (bytes : ByteArray) (mx : Nat) (rt : Option FieldType) (nm : String) (T : State) (h : Heap) (cells slots : Nat) : Prop :=
  (p.tables.exec = Jvm.exec ∧ Z.Warmed39 s.vm ∧ c.code = bytes ∧ c.maxLocals = mx ∧ s.vm.findClass own = some m.cls ∧ meth.name = nm ∧ meth.sig.returnType = rt ∧ meth.locks = false) ∧ ∃ locs, Stand p l e R s m args below meth c T locs cells slots ∧ T.heap = h ∧ Fr n0 locs
def ownMet (l : Launch) (ws : List Jvm.Cond) (y : MethodName) (bytes : ByteArray) (mx : Nat) (rt : Option FieldType) (rm : Room) (Z : State) (n0 : Nat) (as' : Array Value) (h0 : Heap) (Q : Option Value → Heap → Prop) : Prop :=
  MetFree l y (head1 (Jvm.Cond.code y bytes mx rt :: ws) rm) (fun a U => a = as' ∧ Z.Warmed39 U.vm ∧ U.heap = h0) (fun _ _ _ _ _ => True) (fun _ U o U' => ∃ v L, o = .returned v ∧ (Q v U'.heap ∧ Fr n0 L) ∧ FrameEnd U o U' L rm.cells rm.slots)
theorem ownGo.step {T' : State} {pc' : Nat} {Ls' : Array Slot} {S' : List Value} (st : ∀ t, Steps p.tables e below (T'.setTop (mkF m pc' Ls' S')) t → Steps p.tables e below (T.setTop (mkF m pc Ls S)) t) (go : ownGo p e m below n0 En Q T' pc' Ls' S') : ownGo p e m below n0 En Q T pc Ls S := by
  obtain ⟨s₂, o, h1, h2⟩ := go
  exact ⟨s₂, o, st _ h1, h2⟩
theorem own_body {ws : List Jvm.Cond} {y : MethodName} {rm : Room} {as' : Array Value} {L0 : Array Slot} (pn : plainFor y = true) (ef : ∀ m, entryFrame m as' mx = mkF m 0 L0 []) (hc : y.cls = own) (hn : y.name = nm)
    (body : ∀ p e s m below meth c s₁, ownSt p l e rm s m as' below meth c Z n0 own bytes mx rt nm s₁ h0 0 0 → ownGo p e m below n0 (ownEnd s rm) Q s₁ 0 L0 []) : ownMet l ws y bytes mx rt rm Z n0 as' h0 Q := by
  subst hc hn
  refine MetFree.of_bodySF pn hisR ?_
  intro p e s m args below meth c s₁ Bd hml0 hP hK
  obtain ⟨rfl, hZ, hh⟩ := hP
  have e0 : s₁.heap = h0 := by rw [← hh, Bd.state]; rfl
  obtain ⟨s₂, o, h1, h2, h3, v, L, h4, h5, h6⟩ := body p e s m below meth c s₁ ⟨⟨Bd.exec, hZ, Bd.bytes, hml0, findClass_of_methodNamed Bd.named, (name_of_methodNamed Bd.named Bd.method).1, Bd.returns, Bd.notSynchronized⟩, [], Stand.of_body Bd, e0, Fr.nil n0⟩
  exact ⟨s₂, o, castTop (ef m) h1, h2, h3, v, L, h4, h5, h6⟩
theorem ownMet.mono {ws : List Jvm.Cond} {y : MethodName} {rm : Room} {as' : Array Value} {Q' : Option Value → Heap → Prop} (M : ownMet l ws y bytes mx rt rm Z n0 as' h0 Q) (q : ∀ v h, Q v h → Q' v h) : ownMet l ws y bytes mx rt rm Z n0 as' h0 Q' := by
  intro p e ha hc hk s m args below hf happ hP hK
  obtain ⟨n, o, h1, h2, h3, v, L, h4, ⟨h5, h5'⟩, h6⟩ := M p e ha hc hk s m args below hf happ hP hK
  exact ⟨n, o, h1, h2, h3, v, L, h4, ⟨q _ _ h5, h5'⟩, h6⟩
theorem ownGo.mono {Q' : Option Value → Heap → Prop} (go : ownGo p e m below n0 En Q T pc Ls S) (q : ∀ v h, Q v h → Q' v h) : ownGo p e m below n0 En Q' T pc Ls S := by
  obtain ⟨s₂, o, h1, h2, h3, v, L, h4, ⟨h5, h5'⟩, h6⟩ := go
  exact ⟨s₂, o, h1, h2, h3, v, L, h4, ⟨q _ _ h5, h5'⟩, h6⟩
theorem own_iload (G : ownSt p l e R s m args below meth c Z n0 own bytes mx rt nm T h cells slots) {k : Nat} {v : Int32} (hd : decode bytes pc = .ok (.iload k, 2)) (hl : Ls[k]? = some (.val (.int v))) (go : ownGo p e m below n0 En Q T (pc + 2) Ls (.int v :: S)) : ownGo p e m below n0 En Q T pc Ls S := by
  obtain ⟨⟨hx, hZ, hby, hml, hown, hnm, hret, hlk⟩, locs, X, eT, hN⟩ := G
  exact ownGo.step (fun t k => XS.iload X.here hx rfl (hb hby hd) hl k) go
theorem own_iloadN (G : ownSt p l e R s m args below meth c Z n0 own bytes mx rt nm T h cells slots) {k : Fin 4} {v : Int32} (hd : decode bytes pc = .ok (.iload_n k, 1)) (hl : Ls[k.val]? = some (.val (.int v))) (go : ownGo p e m below n0 En Q T (pc + 1) Ls (.int v :: S)) : ownGo p e m below n0 En Q T pc Ls S := by
  obtain ⟨⟨hx, hZ, hby, hml, hown, hnm, hret, hlk⟩, locs, X, eT, hN⟩ := G
  exact ownGo.step (fun t k => XS.iloadN X.here hx rfl (hb hby hd) hl k) go
theorem own_istore (G : ownSt p l e R s m args below meth c Z n0 own bytes mx rt nm T h cells slots) {k : Nat} {v : Int32} {L' : Array Slot} (hd : decode bytes pc = .ok (.istore k, 2)) (hl : storeLocals Ls k (.int v) = some L') (go : ownGo p e m below n0 En Q T (pc + 2) L' S) : ownGo p e m below n0 En Q T pc Ls (.int v :: S) := by
  obtain ⟨⟨hx, hZ, hby, hml, hown, hnm, hret, hlk⟩, locs, X, eT, hN⟩ := G
  exact ownGo.step (fun t k => XS.istore X.here hx rfl (hb hby hd) rfl (l' := L') hl k) go
theorem own_istoreN (G : ownSt p l e R s m args below meth c Z n0 own bytes mx rt nm T h cells slots) {k : Fin 4} {v : Int32} {L' : Array Slot} (hd : decode bytes pc = .ok (.istore_n k, 1)) (hl : storeLocals Ls k.val (.int v) = some L') (go : ownGo p e m below n0 En Q T (pc + 1) L' S) : ownGo p e m below n0 En Q T pc Ls (.int v :: S) := by
  obtain ⟨⟨hx, hZ, hby, hml, hown, hnm, hret, hlk⟩, locs, X, eT, hN⟩ := G
  exact ownGo.step (fun t k => XS.istoreN X.here hx rfl (hb hby hd) rfl (l' := L') hl k) go
theorem own_lload (G : ownSt p l e R s m args below meth c Z n0 own bytes mx rt nm T h cells slots) {k : Nat} {v : Int64} (hd : decode bytes pc = .ok (.lload k, 2)) (hl : Ls[k]? = some (.val (.long v))) (go : ownGo p e m below n0 En Q T (pc + 2) Ls (.long v :: S)) : ownGo p e m below n0 En Q T pc Ls S := by
  obtain ⟨⟨hx, hZ, hby, hml, hown, hnm, hret, hlk⟩, locs, X, eT, hN⟩ := G
  exact ownGo.step (fun t k => XS.lload X.here hx rfl (hb hby hd) hl k) go
theorem own_lloadN (G : ownSt p l e R s m args below meth c Z n0 own bytes mx rt nm T h cells slots) {k : Fin 4} {v : Int64} (hd : decode bytes pc = .ok (.lload_n k, 1)) (hl : Ls[k.val]? = some (.val (.long v))) (go : ownGo p e m below n0 En Q T (pc + 1) Ls (.long v :: S)) : ownGo p e m below n0 En Q T pc Ls S := by
  obtain ⟨⟨hx, hZ, hby, hml, hown, hnm, hret, hlk⟩, locs, X, eT, hN⟩ := G
  exact ownGo.step (fun t k => XS.lloadN X.here hx rfl (hb hby hd) hl k) go
theorem own_lstore (G : ownSt p l e R s m args below meth c Z n0 own bytes mx rt nm T h cells slots) {k : Nat} {v : Int64} {L' : Array Slot} (hd : decode bytes pc = .ok (.lstore k, 2)) (hl : storeLocals Ls k (.long v) = some L') (go : ownGo p e m below n0 En Q T (pc + 2) L' S) : ownGo p e m below n0 En Q T pc Ls (.long v :: S) := by
  obtain ⟨⟨hx, hZ, hby, hml, hown, hnm, hret, hlk⟩, locs, X, eT, hN⟩ := G
  exact ownGo.step (fun t k => XS.lstore X.here hx rfl (hb hby hd) rfl (l' := L') hl k) go
theorem own_lstoreN (G : ownSt p l e R s m args below meth c Z n0 own bytes mx rt nm T h cells slots) {k : Fin 4} {v : Int64} {L' : Array Slot} (hd : decode bytes pc = .ok (.lstore_n k, 1)) (hl : storeLocals Ls k.val (.long v) = some L') (go : ownGo p e m below n0 En Q T (pc + 1) L' S) : ownGo p e m below n0 En Q T pc Ls (.long v :: S) := by
  obtain ⟨⟨hx, hZ, hby, hml, hown, hnm, hret, hlk⟩, locs, X, eT, hN⟩ := G
  exact ownGo.step (fun t k => XS.lstoreN X.here hx rfl (hb hby hd) rfl (l' := L') hl k) go
theorem own_aload (G : ownSt p l e R s m args below meth c Z n0 own bytes mx rt nm T h cells slots) {k : Nat} {v : Value} (hd : decode bytes pc = .ok (.aload k, 2)) (hl : Ls[k]? = some (.val v)) (hv : v.isRef = true) (go : ownGo p e m below n0 En Q T (pc + 2) Ls (v :: S)) : ownGo p e m below n0 En Q T pc Ls S := by
  obtain ⟨⟨hx, hZ, hby, hml, hown, hnm, hret, hlk⟩, locs, X, eT, hN⟩ := G
  exact ownGo.step (fun t k => XS.aload X.here hx rfl (hb hby hd) hl hv k) go
theorem own_aloadN (G : ownSt p l e R s m args below meth c Z n0 own bytes mx rt nm T h cells slots) {k : Fin 4} {v : Value} (hd : decode bytes pc = .ok (.aload_n k, 1)) (hl : Ls[k.val]? = some (.val v)) (hv : v.isRef = true) (go : ownGo p e m below n0 En Q T (pc + 1) Ls (v :: S)) : ownGo p e m below n0 En Q T pc Ls S := by
  obtain ⟨⟨hx, hZ, hby, hml, hown, hnm, hret, hlk⟩, locs, X, eT, hN⟩ := G
  exact ownGo.step (fun t k => XS.aloadN X.here hx rfl (hb hby hd) hl hv k) go
theorem own_astore (G : ownSt p l e R s m args below meth c Z n0 own bytes mx rt nm T h cells slots) {k : Nat} {v : Value} {L' : Array Slot} (hd : decode bytes pc = .ok (.astore k, 2)) (hv : v.isRef = true) (hl : storeLocals Ls k v = some L') (go : ownGo p e m below n0 En Q T (pc + 2) L' S) : ownGo p e m below n0 En Q T pc Ls (v :: S) := by
  obtain ⟨⟨hx, hZ, hby, hml, hown, hnm, hret, hlk⟩, locs, X, eT, hN⟩ := G
  exact ownGo.step (fun t k => XS.astore X.here hx rfl (hb hby hd) rfl hv (l' := L') hl k) go
theorem own_astoreN (G : ownSt p l e R s m args below meth c Z n0 own bytes mx rt nm T h cells slots) {k : Fin 4} {v : Value} {L' : Array Slot} (hd : decode bytes pc = .ok (.astore_n k, 1)) (hv : v.isRef = true) (hl : storeLocals Ls k.val v = some L') (go : ownGo p e m below n0 En Q T (pc + 1) L' S) : ownGo p e m below n0 En Q T pc Ls (v :: S) := by
  obtain ⟨⟨hx, hZ, hby, hml, hown, hnm, hret, hlk⟩, locs, X, eT, hN⟩ := G
  exact ownGo.step (fun t k => XS.astoreN X.here hx rfl (hb hby hd) rfl hv (l' := L') hl k) go
theorem own_iconst (G : ownSt p l e R s m args below meth c Z n0 own bytes mx rt nm T h cells slots) {i : Int} (hd : decode bytes pc = .ok (.iconst i, 1))  (go : ownGo p e m below n0 En Q T (pc + 1) Ls (.int (Int32.ofInt i) :: S)) : ownGo p e m below n0 En Q T pc Ls S := by
  obtain ⟨⟨hx, hZ, hby, hml, hown, hnm, hret, hlk⟩, locs, X, eT, hN⟩ := G
  exact ownGo.step (fun t k => XS.iconst X.here hx rfl (hb hby hd)  k) go
theorem own_bipush (G : ownSt p l e R s m args below meth c Z n0 own bytes mx rt nm T h cells slots) {i : Int} (hd : decode bytes pc = .ok (.bipush i, 2))  (go : ownGo p e m below n0 En Q T (pc + 2) Ls (.int (Int8.ofInt i).toInt32 :: S)) : ownGo p e m below n0 En Q T pc Ls S := by
  obtain ⟨⟨hx, hZ, hby, hml, hown, hnm, hret, hlk⟩, locs, X, eT, hN⟩ := G
  exact ownGo.step (fun t k => XS.bipush X.here hx rfl (hb hby hd)  k) go
theorem own_sipush (G : ownSt p l e R s m args below meth c Z n0 own bytes mx rt nm T h cells slots) {i : Int} (hd : decode bytes pc = .ok (.sipush i, 3))  (go : ownGo p e m below n0 En Q T (pc + 3) Ls (.int (Int16.ofInt i).toInt32 :: S)) : ownGo p e m below n0 En Q T pc Ls S := by
  obtain ⟨⟨hx, hZ, hby, hml, hown, hnm, hret, hlk⟩, locs, X, eT, hN⟩ := G
  exact ownGo.step (fun t k => XS.sipush X.here hx rfl (hb hby hd)  k) go
theorem own_lconst (G : ownSt p l e R s m args below meth c Z n0 own bytes mx rt nm T h cells slots) {k : Fin 2} (hd : decode bytes pc = .ok (.lconst k, 1))  (go : ownGo p e m below n0 En Q T (pc + 1) Ls (.long (Int64.ofNat k.val) :: S)) : ownGo p e m below n0 En Q T pc Ls S := by
  obtain ⟨⟨hx, hZ, hby, hml, hown, hnm, hret, hlk⟩, locs, X, eT, hN⟩ := G
  exact ownGo.step (fun t k => XS.lconst X.here hx rfl (hb hby hd)  k) go
theorem own_aconst_null (G : ownSt p l e R s m args below meth c Z n0 own bytes mx rt nm T h cells slots)  (hd : decode bytes pc = .ok (.aconst_null, 1))  (go : ownGo p e m below n0 En Q T (pc + 1) Ls (.null :: S)) : ownGo p e m below n0 En Q T pc Ls S := by
  obtain ⟨⟨hx, hZ, hby, hml, hown, hnm, hret, hlk⟩, locs, X, eT, hN⟩ := G
  exact ownGo.step (fun t k => XS.aconstNull X.here hx rfl (hb hby hd)  k) go
theorem own_iadd (G : ownSt p l e R s m args below meth c Z n0 own bytes mx rt nm T h cells slots) {x y : Int32} (hd : decode bytes pc = .ok (.iadd, 1))  (go : ownGo p e m below n0 En Q T (pc + 1) Ls (.int (x + y) :: S)) : ownGo p e m below n0 En Q T pc Ls (.int y :: .int x :: S) := by
  obtain ⟨⟨hx, hZ, hby, hml, hown, hnm, hret, hlk⟩, locs, X, eT, hN⟩ := G
  exact ownGo.step (fun t k => XS.iadd X.here hx rfl (hb hby hd) rfl k) go
theorem own_isub (G : ownSt p l e R s m args below meth c Z n0 own bytes mx rt nm T h cells slots) {x y : Int32} (hd : decode bytes pc = .ok (.isub, 1))  (go : ownGo p e m below n0 En Q T (pc + 1) Ls (.int (x - y) :: S)) : ownGo p e m below n0 En Q T pc Ls (.int y :: .int x :: S) := by
  obtain ⟨⟨hx, hZ, hby, hml, hown, hnm, hret, hlk⟩, locs, X, eT, hN⟩ := G
  exact ownGo.step (fun t k => XS.isub X.here hx rfl (hb hby hd) rfl k) go
theorem own_imul (G : ownSt p l e R s m args below meth c Z n0 own bytes mx rt nm T h cells slots) {x y : Int32} (hd : decode bytes pc = .ok (.imul, 1))  (go : ownGo p e m below n0 En Q T (pc + 1) Ls (.int (x * y) :: S)) : ownGo p e m below n0 En Q T pc Ls (.int y :: .int x :: S) := by
  obtain ⟨⟨hx, hZ, hby, hml, hown, hnm, hret, hlk⟩, locs, X, eT, hN⟩ := G
  exact ownGo.step (fun t k => XS.imul X.here hx rfl (hb hby hd) rfl k) go
theorem own_iand (G : ownSt p l e R s m args below meth c Z n0 own bytes mx rt nm T h cells slots) {x y : Int32} (hd : decode bytes pc = .ok (.iand, 1))  (go : ownGo p e m below n0 En Q T (pc + 1) Ls (.int (x &&& y) :: S)) : ownGo p e m below n0 En Q T pc Ls (.int y :: .int x :: S) := by
  obtain ⟨⟨hx, hZ, hby, hml, hown, hnm, hret, hlk⟩, locs, X, eT, hN⟩ := G
  exact ownGo.step (fun t k => XS.iand X.here hx rfl (hb hby hd) rfl k) go
theorem own_ior (G : ownSt p l e R s m args below meth c Z n0 own bytes mx rt nm T h cells slots) {x y : Int32} (hd : decode bytes pc = .ok (.ior, 1))  (go : ownGo p e m below n0 En Q T (pc + 1) Ls (.int (x ||| y) :: S)) : ownGo p e m below n0 En Q T pc Ls (.int y :: .int x :: S) := by
  obtain ⟨⟨hx, hZ, hby, hml, hown, hnm, hret, hlk⟩, locs, X, eT, hN⟩ := G
  exact ownGo.step (fun t k => XS.ior X.here hx rfl (hb hby hd) rfl k) go
theorem own_ixor (G : ownSt p l e R s m args below meth c Z n0 own bytes mx rt nm T h cells slots) {x y : Int32} (hd : decode bytes pc = .ok (.ixor, 1))  (go : ownGo p e m below n0 En Q T (pc + 1) Ls (.int (x ^^^ y) :: S)) : ownGo p e m below n0 En Q T pc Ls (.int y :: .int x :: S) := by
  obtain ⟨⟨hx, hZ, hby, hml, hown, hnm, hret, hlk⟩, locs, X, eT, hN⟩ := G
  exact ownGo.step (fun t k => XS.ixor X.here hx rfl (hb hby hd) rfl k) go
theorem own_ishl (G : ownSt p l e R s m args below meth c Z n0 own bytes mx rt nm T h cells slots) {x y : Int32} (hd : decode bytes pc = .ok (.ishl, 1))  (go : ownGo p e m below n0 En Q T (pc + 1) Ls (.int (x <<< (y &&& 31)) :: S)) : ownGo p e m below n0 En Q T pc Ls (.int y :: .int x :: S) := by
  obtain ⟨⟨hx, hZ, hby, hml, hown, hnm, hret, hlk⟩, locs, X, eT, hN⟩ := G
  exact ownGo.step (fun t k => XS.ishl X.here hx rfl (hb hby hd) rfl k) go
theorem own_ishr (G : ownSt p l e R s m args below meth c Z n0 own bytes mx rt nm T h cells slots) {x y : Int32} (hd : decode bytes pc = .ok (.ishr, 1))  (go : ownGo p e m below n0 En Q T (pc + 1) Ls (.int (x >>> (y &&& 31)) :: S)) : ownGo p e m below n0 En Q T pc Ls (.int y :: .int x :: S) := by
  obtain ⟨⟨hx, hZ, hby, hml, hown, hnm, hret, hlk⟩, locs, X, eT, hN⟩ := G
  exact ownGo.step (fun t k => XS.ishr X.here hx rfl (hb hby hd) rfl k) go
theorem own_iushr (G : ownSt p l e R s m args below meth c Z n0 own bytes mx rt nm T h cells slots) {x y : Int32} (hd : decode bytes pc = .ok (.iushr, 1))  (go : ownGo p e m below n0 En Q T (pc + 1) Ls (.int ((x.toUInt32 >>> (y &&& 31).toUInt32).toInt32) :: S)) : ownGo p e m below n0 En Q T pc Ls (.int y :: .int x :: S) := by
  obtain ⟨⟨hx, hZ, hby, hml, hown, hnm, hret, hlk⟩, locs, X, eT, hN⟩ := G
  exact ownGo.step (fun t k => XS.iushr X.here hx rfl (hb hby hd) rfl k) go
theorem own_ladd (G : ownSt p l e R s m args below meth c Z n0 own bytes mx rt nm T h cells slots) {x y : Int64} (hd : decode bytes pc = .ok (.ladd, 1))  (go : ownGo p e m below n0 En Q T (pc + 1) Ls (.long (x + y) :: S)) : ownGo p e m below n0 En Q T pc Ls (.long y :: .long x :: S) := by
  obtain ⟨⟨hx, hZ, hby, hml, hown, hnm, hret, hlk⟩, locs, X, eT, hN⟩ := G
  exact ownGo.step (fun t k => XS.ladd X.here hx rfl (hb hby hd) rfl k) go
theorem own_lsub (G : ownSt p l e R s m args below meth c Z n0 own bytes mx rt nm T h cells slots) {x y : Int64} (hd : decode bytes pc = .ok (.lsub, 1))  (go : ownGo p e m below n0 En Q T (pc + 1) Ls (.long (x - y) :: S)) : ownGo p e m below n0 En Q T pc Ls (.long y :: .long x :: S) := by
  obtain ⟨⟨hx, hZ, hby, hml, hown, hnm, hret, hlk⟩, locs, X, eT, hN⟩ := G
  exact ownGo.step (fun t k => XS.lsub X.here hx rfl (hb hby hd) rfl k) go
theorem own_lmul (G : ownSt p l e R s m args below meth c Z n0 own bytes mx rt nm T h cells slots) {x y : Int64} (hd : decode bytes pc = .ok (.lmul, 1))  (go : ownGo p e m below n0 En Q T (pc + 1) Ls (.long (x * y) :: S)) : ownGo p e m below n0 En Q T pc Ls (.long y :: .long x :: S) := by
  obtain ⟨⟨hx, hZ, hby, hml, hown, hnm, hret, hlk⟩, locs, X, eT, hN⟩ := G
  exact ownGo.step (fun t k => XS.lmul X.here hx rfl (hb hby hd) rfl k) go
theorem own_land (G : ownSt p l e R s m args below meth c Z n0 own bytes mx rt nm T h cells slots) {x y : Int64} (hd : decode bytes pc = .ok (.land, 1))  (go : ownGo p e m below n0 En Q T (pc + 1) Ls (.long (x &&& y) :: S)) : ownGo p e m below n0 En Q T pc Ls (.long y :: .long x :: S) := by
  obtain ⟨⟨hx, hZ, hby, hml, hown, hnm, hret, hlk⟩, locs, X, eT, hN⟩ := G
  exact ownGo.step (fun t k => XS.land X.here hx rfl (hb hby hd) rfl k) go
theorem own_lor (G : ownSt p l e R s m args below meth c Z n0 own bytes mx rt nm T h cells slots) {x y : Int64} (hd : decode bytes pc = .ok (.lor, 1))  (go : ownGo p e m below n0 En Q T (pc + 1) Ls (.long (x ||| y) :: S)) : ownGo p e m below n0 En Q T pc Ls (.long y :: .long x :: S) := by
  obtain ⟨⟨hx, hZ, hby, hml, hown, hnm, hret, hlk⟩, locs, X, eT, hN⟩ := G
  exact ownGo.step (fun t k => XS.lor X.here hx rfl (hb hby hd) rfl k) go
theorem own_lxor (G : ownSt p l e R s m args below meth c Z n0 own bytes mx rt nm T h cells slots) {x y : Int64} (hd : decode bytes pc = .ok (.lxor, 1))  (go : ownGo p e m below n0 En Q T (pc + 1) Ls (.long (x ^^^ y) :: S)) : ownGo p e m below n0 En Q T pc Ls (.long y :: .long x :: S) := by
  obtain ⟨⟨hx, hZ, hby, hml, hown, hnm, hret, hlk⟩, locs, X, eT, hN⟩ := G
  exact ownGo.step (fun t k => XS.lxor X.here hx rfl (hb hby hd) rfl k) go
theorem own_lshl (G : ownSt p l e R s m args below meth c Z n0 own bytes mx rt nm T h cells slots) {x : Int64} {y : Int32} (hd : decode bytes pc = .ok (.lshl, 1))  (go : ownGo p e m below n0 En Q T (pc + 1) Ls (.long (x <<< (y &&& 0x3f).toInt64) :: S)) : ownGo p e m below n0 En Q T pc Ls (.int y :: .long x :: S) := by
  obtain ⟨⟨hx, hZ, hby, hml, hown, hnm, hret, hlk⟩, locs, X, eT, hN⟩ := G
  exact ownGo.step (fun t k => XS.lshl X.here hx rfl (hb hby hd) rfl k) go
theorem own_lshr (G : ownSt p l e R s m args below meth c Z n0 own bytes mx rt nm T h cells slots) {x : Int64} {y : Int32} (hd : decode bytes pc = .ok (.lshr, 1))  (go : ownGo p e m below n0 En Q T (pc + 1) Ls (.long (x >>> (y &&& 0x3f).toInt64) :: S)) : ownGo p e m below n0 En Q T pc Ls (.int y :: .long x :: S) := by
  obtain ⟨⟨hx, hZ, hby, hml, hown, hnm, hret, hlk⟩, locs, X, eT, hN⟩ := G
  exact ownGo.step (fun t k => XS.lshr X.here hx rfl (hb hby hd) rfl k) go
theorem own_lushr (G : ownSt p l e R s m args below meth c Z n0 own bytes mx rt nm T h cells slots) {x : Int64} {y : Int32} (hd : decode bytes pc = .ok (.lushr, 1))  (go : ownGo p e m below n0 En Q T (pc + 1) Ls (.long ((x.toUInt64 >>> (y &&& 0x3f).toInt64.toUInt64).toInt64) :: S)) : ownGo p e m below n0 En Q T pc Ls (.int y :: .long x :: S) := by
  obtain ⟨⟨hx, hZ, hby, hml, hown, hnm, hret, hlk⟩, locs, X, eT, hN⟩ := G
  exact ownGo.step (fun t k => XS.lushr X.here hx rfl (hb hby hd) rfl k) go
theorem own_ineg (G : ownSt p l e R s m args below meth c Z n0 own bytes mx rt nm T h cells slots) {x : Int32} (hd : decode bytes pc = .ok (.ineg, 1))  (go : ownGo p e m below n0 En Q T (pc + 1) Ls (.int (-x) :: S)) : ownGo p e m below n0 En Q T pc Ls (.int x :: S) := by
  obtain ⟨⟨hx, hZ, hby, hml, hown, hnm, hret, hlk⟩, locs, X, eT, hN⟩ := G
  exact ownGo.step (fun t k => XS.ineg X.here hx rfl (hb hby hd) rfl k) go
theorem own_lneg (G : ownSt p l e R s m args below meth c Z n0 own bytes mx rt nm T h cells slots) {x : Int64} (hd : decode bytes pc = .ok (.lneg, 1))  (go : ownGo p e m below n0 En Q T (pc + 1) Ls (.long (-x) :: S)) : ownGo p e m below n0 En Q T pc Ls (.long x :: S) := by
  obtain ⟨⟨hx, hZ, hby, hml, hown, hnm, hret, hlk⟩, locs, X, eT, hN⟩ := G
  exact ownGo.step (fun t k => XS.lneg X.here hx rfl (hb hby hd) rfl k) go
theorem own_i2l (G : ownSt p l e R s m args below meth c Z n0 own bytes mx rt nm T h cells slots) {x : Int32} (hd : decode bytes pc = .ok (.i2l, 1))  (go : ownGo p e m below n0 En Q T (pc + 1) Ls (.long (x.toInt64) :: S)) : ownGo p e m below n0 En Q T pc Ls (.int x :: S) := by
  obtain ⟨⟨hx, hZ, hby, hml, hown, hnm, hret, hlk⟩, locs, X, eT, hN⟩ := G
  exact ownGo.step (fun t k => XS.i2l X.here hx rfl (hb hby hd) rfl k) go
theorem own_l2i (G : ownSt p l e R s m args below meth c Z n0 own bytes mx rt nm T h cells slots) {x : Int64} (hd : decode bytes pc = .ok (.l2i, 1))  (go : ownGo p e m below n0 En Q T (pc + 1) Ls (.int (x.toInt32) :: S)) : ownGo p e m below n0 En Q T pc Ls (.long x :: S) := by
  obtain ⟨⟨hx, hZ, hby, hml, hown, hnm, hret, hlk⟩, locs, X, eT, hN⟩ := G
  exact ownGo.step (fun t k => XS.l2i X.here hx rfl (hb hby hd) rfl k) go
theorem own_i2b (G : ownSt p l e R s m args below meth c Z n0 own bytes mx rt nm T h cells slots) {x : Int32} (hd : decode bytes pc = .ok (.i2b, 1))  (go : ownGo p e m below n0 En Q T (pc + 1) Ls (.int (x.toInt8.toInt32) :: S)) : ownGo p e m below n0 En Q T pc Ls (.int x :: S) := by
  obtain ⟨⟨hx, hZ, hby, hml, hown, hnm, hret, hlk⟩, locs, X, eT, hN⟩ := G
  exact ownGo.step (fun t k => XS.i2b X.here hx rfl (hb hby hd) rfl k) go
theorem own_i2s (G : ownSt p l e R s m args below meth c Z n0 own bytes mx rt nm T h cells slots) {x : Int32} (hd : decode bytes pc = .ok (.i2s, 1))  (go : ownGo p e m below n0 En Q T (pc + 1) Ls (.int (x.toInt16.toInt32) :: S)) : ownGo p e m below n0 En Q T pc Ls (.int x :: S) := by
  obtain ⟨⟨hx, hZ, hby, hml, hown, hnm, hret, hlk⟩, locs, X, eT, hN⟩ := G
  exact ownGo.step (fun t k => XS.i2s X.here hx rfl (hb hby hd) rfl k) go
theorem own_i2c (G : ownSt p l e R s m args below meth c Z n0 own bytes mx rt nm T h cells slots) {x : Int32} (hd : decode bytes pc = .ok (.i2c, 1))  (go : ownGo p e m below n0 En Q T (pc + 1) Ls (.int (x.toUInt32.toUInt16.toUInt32.toInt32) :: S)) : ownGo p e m below n0 En Q T pc Ls (.int x :: S) := by
  obtain ⟨⟨hx, hZ, hby, hml, hown, hnm, hret, hlk⟩, locs, X, eT, hN⟩ := G
  exact ownGo.step (fun t k => XS.i2c X.here hx rfl (hb hby hd) rfl k) go
theorem own_lcmp (G : ownSt p l e R s m args below meth c Z n0 own bytes mx rt nm T h cells slots) {x y : Int64} (hd : decode bytes pc = .ok (.lcmp, 1))  (go : ownGo p e m below n0 En Q T (pc + 1) Ls (.int (lcmpW x y) :: S)) : ownGo p e m below n0 En Q T pc Ls (.long y :: .long x :: S) := by
  obtain ⟨⟨hx, hZ, hby, hml, hown, hnm, hret, hlk⟩, locs, X, eT, hN⟩ := G
  exact ownGo.step (fun t k => XS.lcmp X.here hx rfl (hb hby hd) rfl k) go
theorem own_pop (G : ownSt p l e R s m args below meth c Z n0 own bytes mx rt nm T h cells slots) {v : Value} (hd : decode bytes pc = .ok (.pop, 1)) (hc : v.category = 1) (go : ownGo p e m below n0 En Q T (pc + 1) Ls S) : ownGo p e m below n0 En Q T pc Ls (v :: S) := by
  obtain ⟨⟨hx, hZ, hby, hml, hown, hnm, hret, hlk⟩, locs, X, eT, hN⟩ := G
  exact ownGo.step (fun t k => XS.pop X.here hx rfl (hb hby hd) rfl hc k) go
theorem own_dup (G : ownSt p l e R s m args below meth c Z n0 own bytes mx rt nm T h cells slots) {v : Value} (hd : decode bytes pc = .ok (.dup, 1)) (hc : v.category = 1) (go : ownGo p e m below n0 En Q T (pc + 1) Ls (v :: v :: S)) : ownGo p e m below n0 En Q T pc Ls (v :: S) := by
  obtain ⟨⟨hx, hZ, hby, hml, hown, hnm, hret, hlk⟩, locs, X, eT, hN⟩ := G
  exact ownGo.step (fun t k => XS.dup X.here hx rfl (hb hby hd) rfl hc k) go
theorem own_dup_x1 (G : ownSt p l e R s m args below meth c Z n0 own bytes mx rt nm T h cells slots) {v w : Value} (hd : decode bytes pc = .ok (.dup_x1, 1)) (hc : v.category = 1) (hc' : w.category = 1) (go : ownGo p e m below n0 En Q T (pc + 1) Ls (v :: w :: v :: S)) : ownGo p e m below n0 En Q T pc Ls (v :: w :: S) := by
  obtain ⟨⟨hx, hZ, hby, hml, hown, hnm, hret, hlk⟩, locs, X, eT, hN⟩ := G
  exact ownGo.step (fun t k => XS.dupX1 X.here hx rfl (hb hby hd) rfl hc hc' k) go
theorem own_irem (G : ownSt p l e R s m args below meth c Z n0 own bytes mx rt nm T h cells slots) {x y : Int32} (hd : decode bytes pc = .ok (.irem, 1)) (hy : y ≠ 0) (go : ownGo p e m below n0 En Q T (pc + 1) Ls (.int (x % y) :: S)) : ownGo p e m below n0 En Q T pc Ls (.int y :: .int x :: S) := by
  obtain ⟨⟨hx, hZ, hby, hml, hown, hnm, hret, hlk⟩, locs, X, eT, hN⟩ := G
  exact ownGo.step (fun t k => iremM X hx rfl (hb hby hd) rfl hy k) go
theorem own_iinc (G : ownSt p l e R s m args below meth c Z n0 own bytes mx rt nm T h cells slots) {k : Nat} {d : Int} {v : Int32} {L' : Array Slot} (hd : decode bytes pc = .ok (.iinc k d, 3)) (hv : Ls[k]? = some (.val (.int v))) (hl : storeLocals Ls k (.int (v + Int32.ofInt d)) = some L') (go : ownGo p e m below n0 En Q T (pc + 3) L' S) : ownGo p e m below n0 En Q T pc Ls S := by
  obtain ⟨⟨hx, hZ, hby, hml, hown, hnm, hret, hlk⟩, locs, X, eT, hN⟩ := G
  exact ownGo.step (fun t k => XS.iinc X.here hx rfl (hb hby hd) hv (l' := L') hl k) go
theorem own_goto (G : ownSt p l e R s m args below meth c Z n0 own bytes mx rt nm T h cells slots) {o : Int} {pc' : Nat} (hd : decode bytes pc = .ok (.goto o, 3)) (ho : 0 ≤ (pc : Int) + o) (hp : ((pc : Int) + o).toNat = pc') (go : ownGo p e m below n0 En Q T pc' Ls S) : ownGo p e m below n0 En Q T pc Ls S := by
  obtain ⟨⟨hx, hZ, hby, hml, hown, hnm, hret, hlk⟩, locs, X, eT, hN⟩ := G
  exact ownGo.step (fun t k => XS.goto X.here hx rfl (pc0 := pc) rfl (hb hby hd) ho hp k) go
theorem own_icmp_lt (G : ownSt p l e R s m args below meth c Z n0 own bytes mx rt nm T h cells slots) {x y : Int32} {o : Int} {pc' : Nat} (hd : decode bytes pc = .ok (.if_icmp .lt o, 3)) (ho : 0 ≤ (pc : Int) + o) (hp : ((pc : Int) + o).toNat = pc') (yes : x < y → ownGo p e m below n0 En Q T pc' Ls S) (no : ¬ x < y → ownGo p e m below n0 En Q T (pc + 3) Ls S) : ownGo p e m below n0 En Q T pc Ls (.int y :: .int x :: S) := by
  obtain ⟨⟨hx, hZ, hby, hml, hown, hnm, hret, hlk⟩, locs, X, eT, hN⟩ := G
  by_cases q : x < y
  · exact ownGo.step (fun t k => XS.icmpYes X.here hx rfl (pc0 := pc) rfl (hb hby hd) rfl (tlt q).1 ho hp k) (yes q)
  · exact ownGo.step (fun t k => XS.icmpNo X.here hx rfl (hb hby hd) rfl (flt q).1 k) (no q)
theorem own_if_lt (G : ownSt p l e R s m args below meth c Z n0 own bytes mx rt nm T h cells slots) {x : Int32} {o : Int} {pc' : Nat} (hd : decode bytes pc = .ok (.ifCond .lt o, 3)) (ho : 0 ≤ (pc : Int) + o) (hp : ((pc : Int) + o).toNat = pc') (yes : x < (0 : Int32) → ownGo p e m below n0 En Q T pc' Ls S) (no : ¬ x < (0 : Int32) → ownGo p e m below n0 En Q T (pc + 3) Ls S) : ownGo p e m below n0 En Q T pc Ls (.int x :: S) := by
  obtain ⟨⟨hx, hZ, hby, hml, hown, hnm, hret, hlk⟩, locs, X, eT, hN⟩ := G
  by_cases q : x < (0 : Int32)
  · exact ownGo.step (fun t k => XS.ifYes X.here hx rfl (pc0 := pc) rfl (hb hby hd) rfl ((if0 _ _).trans (tlt q).1) ho hp k) (yes q)
  · exact ownGo.step (fun t k => XS.ifNo X.here hx rfl (hb hby hd) rfl ((if0 _ _).trans (flt q).1) k) (no q)
theorem own_icmp_ge (G : ownSt p l e R s m args below meth c Z n0 own bytes mx rt nm T h cells slots) {x y : Int32} {o : Int} {pc' : Nat} (hd : decode bytes pc = .ok (.if_icmp .ge o, 3)) (ho : 0 ≤ (pc : Int) + o) (hp : ((pc : Int) + o).toNat = pc') (yes : ¬ x < y → ownGo p e m below n0 En Q T pc' Ls S) (no : x < y → ownGo p e m below n0 En Q T (pc + 3) Ls S) : ownGo p e m below n0 En Q T pc Ls (.int y :: .int x :: S) := by
  obtain ⟨⟨hx, hZ, hby, hml, hown, hnm, hret, hlk⟩, locs, X, eT, hN⟩ := G
  by_cases q : x < y
  · exact ownGo.step (fun t k => XS.icmpNo X.here hx rfl (hb hby hd) rfl (tlt q).2.1 k) (no q)
  · exact ownGo.step (fun t k => XS.icmpYes X.here hx rfl (pc0 := pc) rfl (hb hby hd) rfl (flt q).2.1 ho hp k) (yes q)
theorem own_if_ge (G : ownSt p l e R s m args below meth c Z n0 own bytes mx rt nm T h cells slots) {x : Int32} {o : Int} {pc' : Nat} (hd : decode bytes pc = .ok (.ifCond .ge o, 3)) (ho : 0 ≤ (pc : Int) + o) (hp : ((pc : Int) + o).toNat = pc') (yes : ¬ x < (0 : Int32) → ownGo p e m below n0 En Q T pc' Ls S) (no : x < (0 : Int32) → ownGo p e m below n0 En Q T (pc + 3) Ls S) : ownGo p e m below n0 En Q T pc Ls (.int x :: S) := by
  obtain ⟨⟨hx, hZ, hby, hml, hown, hnm, hret, hlk⟩, locs, X, eT, hN⟩ := G
  by_cases q : x < (0 : Int32)
  · exact ownGo.step (fun t k => XS.ifNo X.here hx rfl (hb hby hd) rfl ((if0 _ _).trans (tlt q).2.1) k) (no q)
  · exact ownGo.step (fun t k => XS.ifYes X.here hx rfl (pc0 := pc) rfl (hb hby hd) rfl ((if0 _ _).trans (flt q).2.1) ho hp k) (yes q)
theorem own_icmp_gt (G : ownSt p l e R s m args below meth c Z n0 own bytes mx rt nm T h cells slots) {x y : Int32} {o : Int} {pc' : Nat} (hd : decode bytes pc = .ok (.if_icmp .gt o, 3)) (ho : 0 ≤ (pc : Int) + o) (hp : ((pc : Int) + o).toNat = pc') (yes : y < x → ownGo p e m below n0 En Q T pc' Ls S) (no : ¬ y < x → ownGo p e m below n0 En Q T (pc + 3) Ls S) : ownGo p e m below n0 En Q T pc Ls (.int y :: .int x :: S) := by
  obtain ⟨⟨hx, hZ, hby, hml, hown, hnm, hret, hlk⟩, locs, X, eT, hN⟩ := G
  by_cases q : y < x
  · exact ownGo.step (fun t k => XS.icmpYes X.here hx rfl (pc0 := pc) rfl (hb hby hd) rfl (tlt q).2.2.1 ho hp k) (yes q)
  · exact ownGo.step (fun t k => XS.icmpNo X.here hx rfl (hb hby hd) rfl (flt q).2.2.1 k) (no q)
theorem own_if_gt (G : ownSt p l e R s m args below meth c Z n0 own bytes mx rt nm T h cells slots) {x : Int32} {o : Int} {pc' : Nat} (hd : decode bytes pc = .ok (.ifCond .gt o, 3)) (ho : 0 ≤ (pc : Int) + o) (hp : ((pc : Int) + o).toNat = pc') (yes : (0 : Int32) < x → ownGo p e m below n0 En Q T pc' Ls S) (no : ¬ (0 : Int32) < x → ownGo p e m below n0 En Q T (pc + 3) Ls S) : ownGo p e m below n0 En Q T pc Ls (.int x :: S) := by
  obtain ⟨⟨hx, hZ, hby, hml, hown, hnm, hret, hlk⟩, locs, X, eT, hN⟩ := G
  by_cases q : (0 : Int32) < x
  · exact ownGo.step (fun t k => XS.ifYes X.here hx rfl (pc0 := pc) rfl (hb hby hd) rfl ((if0 _ _).trans (tlt q).2.2.1) ho hp k) (yes q)
  · exact ownGo.step (fun t k => XS.ifNo X.here hx rfl (hb hby hd) rfl ((if0 _ _).trans (flt q).2.2.1) k) (no q)
theorem own_icmp_le (G : ownSt p l e R s m args below meth c Z n0 own bytes mx rt nm T h cells slots) {x y : Int32} {o : Int} {pc' : Nat} (hd : decode bytes pc = .ok (.if_icmp .le o, 3)) (ho : 0 ≤ (pc : Int) + o) (hp : ((pc : Int) + o).toNat = pc') (yes : ¬ y < x → ownGo p e m below n0 En Q T pc' Ls S) (no : y < x → ownGo p e m below n0 En Q T (pc + 3) Ls S) : ownGo p e m below n0 En Q T pc Ls (.int y :: .int x :: S) := by
  obtain ⟨⟨hx, hZ, hby, hml, hown, hnm, hret, hlk⟩, locs, X, eT, hN⟩ := G
  by_cases q : y < x
  · exact ownGo.step (fun t k => XS.icmpNo X.here hx rfl (hb hby hd) rfl (tlt q).2.2.2 k) (no q)
  · exact ownGo.step (fun t k => XS.icmpYes X.here hx rfl (pc0 := pc) rfl (hb hby hd) rfl (flt q).2.2.2 ho hp k) (yes q)
theorem own_if_le (G : ownSt p l e R s m args below meth c Z n0 own bytes mx rt nm T h cells slots) {x : Int32} {o : Int} {pc' : Nat} (hd : decode bytes pc = .ok (.ifCond .le o, 3)) (ho : 0 ≤ (pc : Int) + o) (hp : ((pc : Int) + o).toNat = pc') (yes : ¬ (0 : Int32) < x → ownGo p e m below n0 En Q T pc' Ls S) (no : (0 : Int32) < x → ownGo p e m below n0 En Q T (pc + 3) Ls S) : ownGo p e m below n0 En Q T pc Ls (.int x :: S) := by
  obtain ⟨⟨hx, hZ, hby, hml, hown, hnm, hret, hlk⟩, locs, X, eT, hN⟩ := G
  by_cases q : (0 : Int32) < x
  · exact ownGo.step (fun t k => XS.ifNo X.here hx rfl (hb hby hd) rfl ((if0 _ _).trans (tlt q).2.2.2) k) (no q)
  · exact ownGo.step (fun t k => XS.ifYes X.here hx rfl (pc0 := pc) rfl (hb hby hd) rfl ((if0 _ _).trans (flt q).2.2.2) ho hp k) (yes q)
theorem own_icmp_eq (G : ownSt p l e R s m args below meth c Z n0 own bytes mx rt nm T h cells slots) {x y : Int32} {o : Int} {pc' : Nat} (hd : decode bytes pc = .ok (.if_icmp .eq o, 3)) (ho : 0 ≤ (pc : Int) + o) (hp : ((pc : Int) + o).toNat = pc') (yes : x = y → ownGo p e m below n0 En Q T pc' Ls S) (no : ¬ x = y → ownGo p e m below n0 En Q T (pc + 3) Ls S) : ownGo p e m below n0 En Q T pc Ls (.int y :: .int x :: S) := by
  obtain ⟨⟨hx, hZ, hby, hml, hown, hnm, hret, hlk⟩, locs, X, eT, hN⟩ := G
  by_cases q : x = y
  · exact ownGo.step (fun t k => XS.icmpYes X.here hx rfl (pc0 := pc) rfl (hb hby hd) rfl (teq q).1 ho hp k) (yes q)
  · exact ownGo.step (fun t k => XS.icmpNo X.here hx rfl (hb hby hd) rfl (feq q).1 k) (no q)
theorem own_if_eq (G : ownSt p l e R s m args below meth c Z n0 own bytes mx rt nm T h cells slots) {x : Int32} {o : Int} {pc' : Nat} (hd : decode bytes pc = .ok (.ifCond .eq o, 3)) (ho : 0 ≤ (pc : Int) + o) (hp : ((pc : Int) + o).toNat = pc') (yes : x = (0 : Int32) → ownGo p e m below n0 En Q T pc' Ls S) (no : ¬ x = (0 : Int32) → ownGo p e m below n0 En Q T (pc + 3) Ls S) : ownGo p e m below n0 En Q T pc Ls (.int x :: S) := by
  obtain ⟨⟨hx, hZ, hby, hml, hown, hnm, hret, hlk⟩, locs, X, eT, hN⟩ := G
  by_cases q : x = (0 : Int32)
  · exact ownGo.step (fun t k => XS.ifYes X.here hx rfl (pc0 := pc) rfl (hb hby hd) rfl ((if0 _ _).trans (teq q).1) ho hp k) (yes q)
  · exact ownGo.step (fun t k => XS.ifNo X.here hx rfl (hb hby hd) rfl ((if0 _ _).trans (feq q).1) k) (no q)
theorem own_icmp_ne (G : ownSt p l e R s m args below meth c Z n0 own bytes mx rt nm T h cells slots) {x y : Int32} {o : Int} {pc' : Nat} (hd : decode bytes pc = .ok (.if_icmp .ne o, 3)) (ho : 0 ≤ (pc : Int) + o) (hp : ((pc : Int) + o).toNat = pc') (yes : ¬ x = y → ownGo p e m below n0 En Q T pc' Ls S) (no : x = y → ownGo p e m below n0 En Q T (pc + 3) Ls S) : ownGo p e m below n0 En Q T pc Ls (.int y :: .int x :: S) := by
  obtain ⟨⟨hx, hZ, hby, hml, hown, hnm, hret, hlk⟩, locs, X, eT, hN⟩ := G
  by_cases q : x = y
  · exact ownGo.step (fun t k => XS.icmpNo X.here hx rfl (hb hby hd) rfl (teq q).2 k) (no q)
  · exact ownGo.step (fun t k => XS.icmpYes X.here hx rfl (pc0 := pc) rfl (hb hby hd) rfl (feq q).2 ho hp k) (yes q)
theorem own_if_ne (G : ownSt p l e R s m args below meth c Z n0 own bytes mx rt nm T h cells slots) {x : Int32} {o : Int} {pc' : Nat} (hd : decode bytes pc = .ok (.ifCond .ne o, 3)) (ho : 0 ≤ (pc : Int) + o) (hp : ((pc : Int) + o).toNat = pc') (yes : ¬ x = (0 : Int32) → ownGo p e m below n0 En Q T pc' Ls S) (no : x = (0 : Int32) → ownGo p e m below n0 En Q T (pc + 3) Ls S) : ownGo p e m below n0 En Q T pc Ls (.int x :: S) := by
  obtain ⟨⟨hx, hZ, hby, hml, hown, hnm, hret, hlk⟩, locs, X, eT, hN⟩ := G
  by_cases q : x = (0 : Int32)
  · exact ownGo.step (fun t k => XS.ifNo X.here hx rfl (hb hby hd) rfl ((if0 _ _).trans (teq q).2) k) (no q)
  · exact ownGo.step (fun t k => XS.ifYes X.here hx rfl (pc0 := pc) rfl (hb hby hd) rfl ((if0 _ _).trans (feq q).2) ho hp k) (yes q)
theorem own_lcif_lt (G : ownSt p l e R s m args below meth c Z n0 own bytes mx rt nm T h cells slots) {x y : Int64} {o : Int} {pc' : Nat} (hd : decode bytes pc = .ok (.lcmp, 1)) (hd' : decode bytes (pc + 1) = .ok (.ifCond .lt o, 3)) (ho : 0 ≤ ((pc + 1 : Nat) : Int) + o) (hp : (((pc + 1 : Nat) : Int) + o).toNat = pc') (yes : x < y → ownGo p e m below n0 En Q T pc' Ls S) (no : ¬ x < y → ownGo p e m below n0 En Q T (pc + 1 + 3) Ls S) : ownGo p e m below n0 En Q T pc Ls (.long y :: .long x :: S) :=
  own_lcmp G hd (own_if_lt G hd' ho hp (fun q => yes ((lw_lt _ _).mp q)) (fun q => no (fun r => q ((lw_lt _ _).mpr r))))
theorem own_lcif_ge (G : ownSt p l e R s m args below meth c Z n0 own bytes mx rt nm T h cells slots) {x y : Int64} {o : Int} {pc' : Nat} (hd : decode bytes pc = .ok (.lcmp, 1)) (hd' : decode bytes (pc + 1) = .ok (.ifCond .ge o, 3)) (ho : 0 ≤ ((pc + 1 : Nat) : Int) + o) (hp : (((pc + 1 : Nat) : Int) + o).toNat = pc') (yes : ¬ x < y → ownGo p e m below n0 En Q T pc' Ls S) (no : x < y → ownGo p e m below n0 En Q T (pc + 1 + 3) Ls S) : ownGo p e m below n0 En Q T pc Ls (.long y :: .long x :: S) :=
  own_lcmp G hd (own_if_ge G hd' ho hp (fun q => yes (fun r => q ((lw_lt _ _).mpr r))) (fun q => no ((lw_lt _ _).mp q)))
theorem own_lcif_gt (G : ownSt p l e R s m args below meth c Z n0 own bytes mx rt nm T h cells slots) {x y : Int64} {o : Int} {pc' : Nat} (hd : decode bytes pc = .ok (.lcmp, 1)) (hd' : decode bytes (pc + 1) = .ok (.ifCond .gt o, 3)) (ho : 0 ≤ ((pc + 1 : Nat) : Int) + o) (hp : (((pc + 1 : Nat) : Int) + o).toNat = pc') (yes : y < x → ownGo p e m below n0 En Q T pc' Ls S) (no : ¬ y < x → ownGo p e m below n0 En Q T (pc + 1 + 3) Ls S) : ownGo p e m below n0 En Q T pc Ls (.long y :: .long x :: S) :=
  own_lcmp G hd (own_if_gt G hd' ho hp (fun q => yes ((lw_gt _ _).mp q)) (fun q => no (fun r => q ((lw_gt _ _).mpr r))))
theorem own_lcif_le (G : ownSt p l e R s m args below meth c Z n0 own bytes mx rt nm T h cells slots) {x y : Int64} {o : Int} {pc' : Nat} (hd : decode bytes pc = .ok (.lcmp, 1)) (hd' : decode bytes (pc + 1) = .ok (.ifCond .le o, 3)) (ho : 0 ≤ ((pc + 1 : Nat) : Int) + o) (hp : (((pc + 1 : Nat) : Int) + o).toNat = pc') (yes : ¬ y < x → ownGo p e m below n0 En Q T pc' Ls S) (no : y < x → ownGo p e m below n0 En Q T (pc + 1 + 3) Ls S) : ownGo p e m below n0 En Q T pc Ls (.long y :: .long x :: S) :=
  own_lcmp G hd (own_if_le G hd' ho hp (fun q => yes (fun r => q ((lw_gt _ _).mpr r))) (fun q => no ((lw_gt _ _).mp q)))
theorem own_lcif_eq (G : ownSt p l e R s m args below meth c Z n0 own bytes mx rt nm T h cells slots) {x y : Int64} {o : Int} {pc' : Nat} (hd : decode bytes pc = .ok (.lcmp, 1)) (hd' : decode bytes (pc + 1) = .ok (.ifCond .eq o, 3)) (ho : 0 ≤ ((pc + 1 : Nat) : Int) + o) (hp : (((pc + 1 : Nat) : Int) + o).toNat = pc') (yes : x = y → ownGo p e m below n0 En Q T pc' Ls S) (no : ¬ x = y → ownGo p e m below n0 En Q T (pc + 1 + 3) Ls S) : ownGo p e m below n0 En Q T pc Ls (.long y :: .long x :: S) :=
  own_lcmp G hd (own_if_eq G hd' ho hp (fun q => yes ((lw_eq _ _).mp q)) (fun q => no (fun r => q ((lw_eq _ _).mpr r))))
theorem own_lcif_ne (G : ownSt p l e R s m args below meth c Z n0 own bytes mx rt nm T h cells slots) {x y : Int64} {o : Int} {pc' : Nat} (hd : decode bytes pc = .ok (.lcmp, 1)) (hd' : decode bytes (pc + 1) = .ok (.ifCond .ne o, 3)) (ho : 0 ≤ ((pc + 1 : Nat) : Int) + o) (hp : (((pc + 1 : Nat) : Int) + o).toNat = pc') (yes : ¬ x = y → ownGo p e m below n0 En Q T pc' Ls S) (no : x = y → ownGo p e m below n0 En Q T (pc + 1 + 3) Ls S) : ownGo p e m below n0 En Q T pc Ls (.long y :: .long x :: S) :=
  own_lcmp G hd (own_if_ne G hd' ho hp (fun q => yes (fun r => q ((lw_eq _ _).mpr r))) (fun q => no ((lw_eq _ _).mp q)))
theorem own_ifnull_null (G : ownSt p l e R s m args below meth c Z n0 own bytes mx rt nm T h cells slots) {o : Int} {pc' : Nat} (hd : decode bytes pc = .ok (.ifnull o, 3)) (ho : 0 ≤ (pc : Int) + o) (hp : ((pc : Int) + o).toNat = pc') (go : ownGo p e m below n0 En Q T pc' Ls S) : ownGo p e m below n0 En Q T pc Ls (.null :: S) := by
  obtain ⟨⟨hx, hZ, hby, hml, hown, hnm, hret, hlk⟩, locs, X, eT, hN⟩ := G
  exact ownGo.step (fun t k => XS.ifnullYes X.here hx rfl (pc0 := pc) rfl (hb hby hd) rfl ho hp k) go
theorem own_ifnull_ref (G : ownSt p l e R s m args below meth c Z n0 own bytes mx rt nm T h cells slots) {o : Int} (hd : decode bytes pc = .ok (.ifnull o, 3)) (go : ownGo p e m below n0 En Q T (pc + 3) Ls S) : ownGo p e m below n0 En Q T pc Ls (.ref b :: S) := by
  obtain ⟨⟨hx, hZ, hby, hml, hown, hnm, hret, hlk⟩, locs, X, eT, hN⟩ := G
  exact ownGo.step (fun t k => XS.ifnullNo X.here hx rfl (hb hby hd) rfl k) go
theorem own_ifnonnull_ref (G : ownSt p l e R s m args below meth c Z n0 own bytes mx rt nm T h cells slots) {o : Int} {pc' : Nat} (hd : decode bytes pc = .ok (.ifnonnull o, 3)) (ho : 0 ≤ (pc : Int) + o) (hp : ((pc : Int) + o).toNat = pc') (go : ownGo p e m below n0 En Q T pc' Ls S) : ownGo p e m below n0 En Q T pc Ls (.ref b :: S) := by
  obtain ⟨⟨hx, hZ, hby, hml, hown, hnm, hret, hlk⟩, locs, X, eT, hN⟩ := G
  exact ownGo.step (fun t k => XS.ifnonnullYes X.here hx rfl (pc0 := pc) rfl (hb hby hd) rfl ho hp k) go
theorem own_ifnonnull_null (G : ownSt p l e R s m args below meth c Z n0 own bytes mx rt nm T h cells slots) {o : Int} (hd : decode bytes pc = .ok (.ifnonnull o, 3)) (go : ownGo p e m below n0 En Q T (pc + 3) Ls S) : ownGo p e m below n0 En Q T pc Ls (.null :: S) := by
  obtain ⟨⟨hx, hZ, hby, hml, hown, hnm, hret, hlk⟩, locs, X, eT, hN⟩ := G
  exact ownGo.step (fun t k => XS.ifnonnullNo X.here hx rfl (hb hby hd) rfl k) go
theorem own_acmp (G : ownSt p l e R s m args below meth c Z n0 own bytes mx rt nm T h cells slots) {cd : ACond} {x y : Value} {o : Int} {pc' : Nat} {same : Bool} (hd : decode bytes pc = .ok (.if_acmp cd o, 3)) (h1 : x.isRef = true) (h2 : y.isRef = true) (hq : decide (x = y) = same) (ho : 0 ≤ (pc : Int) + o) (hp : pc' = if acV cd same = true then ((pc : Int) + o).toNat else pc + 3) (go : ownGo p e m below n0 En Q T pc' Ls S) : ownGo p e m below n0 En Q T pc Ls (y :: x :: S) := by
  obtain ⟨⟨hx, hZ, hby, hml, hown, hnm, hret, hlk⟩, locs, X, eT, hN⟩ := G
  exact ownGo.step (fun t k => Jvm.RoadKit.acmp (g := mkF m pc Ls (y :: x :: S)) X hx rfl h1 h2 (pc0 := pc) rfl (hb hby hd) rfl hq ho hp k) go
theorem own_ret (G : ownSt p l e R s m args below meth c Z n0 own bytes mx rt nm T h cells slots) (hd : decode bytes pc = .ok (.return_, 1)) (hrt : rt = none) (hc : cells ≤ R.cells) (hs : slots ≤ R.slots) (q : Q none h) : ownGo p e m below n0 (ownEnd s R) Q T pc Ls [] := by
  obtain ⟨⟨hx, hZ, hby, hml, hown, hnm, hret, hlk⟩, locs, X, eT, hN⟩ := G
  obtain ⟨fs, hr, hrun, hended, hW, hsame⟩ := X.leave (v := none) (fun _ => rfl)
  exact ⟨_, _, X.returnOut hx (hret.trans hrt) (hb hby hd) hr, hrun, hended, _, _, rfl, ⟨by show Q none T.heap; rw [eT]; exact q, hN⟩, ⟨_, rfl⟩, hW, hsame.mono hc hs⟩
theorem own_ireturn (G : ownSt p l e R s m args below meth c Z n0 own bytes mx rt nm T h cells slots) {z : Int32} (hd : decode bytes pc = .ok (.ireturn, 1)) (hrt : rt = some .int) (hc : cells ≤ R.cells) (hs : slots ≤ R.slots) (q : Q (some (.int z)) h) : ownGo p e m below n0 (ownEnd s R) Q T pc Ls (.int z :: S) := by
  obtain ⟨⟨hx, hZ, hby, hml, hown, hnm, hret, hlk⟩, locs, X, eT, hN⟩ := G
  obtain ⟨fs, hr, hrun, hended, hW, hsame⟩ := X.leave (v := some (.int z)) (fun h => by rw [hret, hrt] at h; cases h)
  exact ⟨_, _, retOut X hx (hret.trans hrt) rfl (Or.inl ⟨rfl, Or.inl rfl, _, rfl⟩) (hb hby hd) hr, hrun, hended, _, _, rfl, ⟨by show Q _ T.heap; rw [eT]; exact q, hN⟩, ⟨_, rfl⟩, hW, hsame.mono hc hs⟩
theorem own_zreturn (G : ownSt p l e R s m args below meth c Z n0 own bytes mx rt nm T h cells slots) {z : Int32} (hd : decode bytes pc = .ok (.ireturn, 1)) (hrt : rt = some .boolean) (hc : cells ≤ R.cells) (hs : slots ≤ R.slots) (q : Q (some (.int (nar .boolean z))) h) : ownGo p e m below n0 (ownEnd s R) Q T pc Ls (.int z :: S) := by
  obtain ⟨⟨hx, hZ, hby, hml, hown, hnm, hret, hlk⟩, locs, X, eT, hN⟩ := G
  obtain ⟨fs, hr, hrun, hended, hW, hsame⟩ := X.leave (v := some (.int (nar .boolean z))) (fun h => by rw [hret, hrt] at h; cases h)
  exact ⟨_, _, retN X hx (t := .boolean) (hret.trans hrt) (by simp) (hb hby hd) hr, hrun, hended, _, _, rfl, ⟨by show Q _ T.heap; rw [eT]; exact q, hN⟩, ⟨_, rfl⟩, hW, hsame.mono hc hs⟩
theorem own_lreturn (G : ownSt p l e R s m args below meth c Z n0 own bytes mx rt nm T h cells slots) {z : Int64} (hd : decode bytes pc = .ok (.lreturn, 1)) (hrt : rt = some .long) (hc : cells ≤ R.cells) (hs : slots ≤ R.slots) (q : Q (some (.long z)) h) : ownGo p e m below n0 (ownEnd s R) Q T pc Ls (.long z :: S) := by
  obtain ⟨⟨hx, hZ, hby, hml, hown, hnm, hret, hlk⟩, locs, X, eT, hN⟩ := G
  obtain ⟨fs, hr, hrun, hended, hW, hsame⟩ := X.leave (v := some (.long z)) (fun h => by rw [hret, hrt] at h; cases h)
  exact ⟨_, _, retOut X hx (hret.trans hrt) rfl (Or.inr (Or.inl ⟨rfl, rfl, _, rfl⟩)) (hb hby hd) hr, hrun, hended, _, _, rfl, ⟨by show Q _ T.heap; rw [eT]; exact q, hN⟩, ⟨_, rfl⟩, hW, hsame.mono hc hs⟩
theorem own_areturn (G : ownSt p l e R s m args below meth c Z n0 own bytes mx rt nm T h cells slots) {v : Value} {t : FieldType} (hd : decode bytes pc = .ok (.areturn, 1)) (hrt : rt = some t) (ht : t.isReference = true) (hv : v.isRef = true) (hn : narrow t v = v) (hc : cells ≤ R.cells) (hs : slots ≤ R.slots) (q : Q (some v) h) : ownGo p e m below n0 (ownEnd s R) Q T pc Ls (v :: S) := by
  obtain ⟨⟨hx, hZ, hby, hml, hown, hnm, hret, hlk⟩, locs, X, eT, hN⟩ := G
  obtain ⟨fs, hr, hrun, hended, hW, hsame⟩ := X.leave (v := some v) (fun h => by rw [hret, hrt] at h; cases h)
  exact ⟨_, _, retOut X hx (hret.trans hrt) hn (Or.inr (Or.inr (Or.inr (Or.inr ⟨rfl, ht, hv⟩)))) (hb hby hd) hr, hrun, hended, _, _, rfl, ⟨by show Q _ T.heap; rw [eT]; exact q, hN⟩, ⟨_, rfl⟩, hW, hsame.mono hc hs⟩
theorem own_ldcInt (G : ownSt p l e R s m args below meth c Z n0 own bytes mx rt nm T h cells slots) {index : Nat} {v : Int32} (hd : decode bytes pc = .ok (.ldc index, 2)) (w : (Cond.constant own index v).before a0 Z = true) (go : ownGo p e m below n0 En Q T (pc + 2) Ls (.int v :: S)) : ownGo p e m below n0 En Q T pc Ls S := by
  obtain ⟨⟨hx, hZ, hby, hml, hown, hnm, hret, hlk⟩, locs, X, eT, hN⟩ := G
  exact ownGo.step (fun t k => X.ldcInt hx hown (mvT hZ w) (g := mkF m pc Ls S) rfl (hb hby hd) _ k) go
theorem own_ldcw (G : ownSt p l e R s m args below meth c Z n0 own bytes mx rt nm T h cells slots) {index : Nat} {v : Int32} (hd : decode bytes pc = .ok (.ldc_w index, 3)) (w : (Cond.constant own index v).before a0 Z = true) (go : ownGo p e m below n0 En Q T (pc + 3) Ls (.int v :: S)) : ownGo p e m below n0 En Q T pc Ls S := by
  obtain ⟨⟨hx, hZ, hby, hml, hown, hnm, hret, hlk⟩, locs, X, eT, hN⟩ := G
  exact ownGo.step (fun t k => X.ldcwInt hx hown (mvT hZ w) (g := mkF m pc Ls S) rfl (hb hby hd) _ k) go
theorem own_ldc2 (G : ownSt p l e R s m args below meth c Z n0 own bytes mx rt nm T h cells slots) {index : Nat} {v : Int64} (hd : decode bytes pc = .ok (.ldc2_w index, 3)) (w : (Cond.constantLong own index v).before a0 Z = true) (go : ownGo p e m below n0 En Q T (pc + 3) Ls (.long v :: S)) : ownGo p e m below n0 En Q T pc Ls S := by
  obtain ⟨⟨hx, hZ, hby, hml, hown, hnm, hret, hlk⟩, locs, X, eT, hN⟩ := G
  exact ownGo.step (fun t k => X.ldc2Long hx hown (mvT hZ w) (g := mkF m pc Ls S) rfl (hb hby hd) _ k) go
theorem own_getF (G : ownSt p l e R s m args below meth c Z n0 own bytes mx rt nm T h cells slots) {R0 O n d : String} {index : Nat} {v : Value} (hd : decode bytes pc = .ok (.getfield index, 3)) (w : (Cond.fieldLink own index R0 n d).before a0 Z = true) (via : Via Z R0 O n d) (F : Fld Z h a O n d v)
    (go : ∀ T', ownSt p l e R s m args below meth c Z n0 own bytes mx rt nm T' h cells slots → ownGo p e m below n0 En Q T' (pc + 3) Ls (v :: S)) : ownGo p e m below n0 En Q T pc Ls (.ref a :: S) := by
  obtain ⟨⟨hx, hZ, hby, hml, hown, hnm, hret, hlk⟩, locs, X, eT, hN⟩ := G
  obtain ⟨T', X', e', st⟩ := getF X hx hZ hown (host := "") (Or.inl w) via eT F (g := mkF m pc Ls (.ref a :: S)) rfl rfl (hb hby hd)
  exact ownGo.step (fun t k => st t k) (go T' ⟨⟨hx, hZ, hby, hml, hown, hnm, hret, hlk⟩, locs, X', e', hN⟩)
theorem own_putF (G : ownSt p l e R s m args below meth c Z n0 own bytes mx rt nm T h cells slots) {R0 O n d C : String} {index kk : Nat} {ty : FieldType} {v old : Value} (hd : decode bytes pc = .ok (.putfield index, 3)) (w : (Cond.fieldLink own index R0 n d).before a0 Z = true) (via : Via Z R0 O n d) (F : Fld Z h a O n d old) (E : Exa Z h a C) (L : (Cond.lays C O n d).before a0 Z = true ∨ ((Cond.laysFinal C O n d).before a0 Z = true ∧ own = O ∧ nm = "<init>")) (wi : (Cond.instantiable C kk).before a0 Z = true)
    (hty : parseFieldDescriptor d = some ty) (hn : narrow ty v = v) (hf : fits ty v = true) (hfr : n0 ≤ a)
    (go : ∀ T' h', Wr h h' a (Jvm.RoadKit.slotOf Z O n d) v → ownSt p l e R s m args below meth c Z n0 own bytes mx rt nm T' h' cells slots → ownGo p e m below n0 En Q T' (pc + 3) Ls S) : ownGo p e m below n0 En Q T pc Ls (v :: .ref a :: S) := by
  obtain ⟨⟨hx, hZ, hby, hml, hown, hnm, hret, hlk⟩, locs, X, eT, hN⟩ := G
  obtain ⟨T', h', X', e', W', st⟩ := putF X hx hZ hown (host := "") (Or.inl w) via eT F E (L.imp id fun q => ⟨q.1, q.2.1, hnm.trans q.2.2⟩) wi hty hn hf (g := mkF m pc Ls (v :: .ref a :: S)) rfl rfl (hb hby hd)
  exact ownGo.step (fun t k => st t k) (go T' h' W' ⟨⟨hx, hZ, hby, hml, hown, hnm, hret, hlk⟩, _, X', e', Fr.snoc X' hN hfr⟩)
theorem own_getS (G : ownSt p l e R s m args below meth c Z n0 own bytes mx rt nm T h cells slots) {R0 O n d : String} {index : Nat} {v : Value} (hd : decode bytes pc = .ok (.getstatic index, 3)) (w : (Cond.fieldLink own index R0 n d).before a0 Z = true) (via : Via Z R0 O n d) (F : Sta Z h O n d v)
    (go : ∀ T', ownSt p l e R s m args below meth c Z n0 own bytes mx rt nm T' h cells slots → ownGo p e m below n0 En Q T' (pc + 3) Ls (v :: S)) : ownGo p e m below n0 En Q T pc Ls S := by
  obtain ⟨⟨hx, hZ, hby, hml, hown, hnm, hret, hlk⟩, locs, X, eT, hN⟩ := G
  obtain ⟨T', X', e', st⟩ := getS2 X hx hZ hown (host := "") (Or.inl w) via eT F (g := mkF m pc Ls S) rfl (hb hby hd)
  exact ownGo.step (fun t k => st t k) (go T' ⟨⟨hx, hZ, hby, hml, hown, hnm, hret, hlk⟩, locs, X', e', hN⟩)
theorem own_new (G : ownSt p l e R s m args below meth c Z n0 own bytes mx rt nm T h cells slots) {C : String} {index n : Nat} (hd : decode bytes pc = .ok (.new index, 3)) (w : (Cond.classLink own index C).before a0 Z = true) (wi : (Cond.instantiable C n).before a0 Z = true) (wz : (Cond.initialized C).before a0 Z = true) (hc : cells + 1 ≤ R.cells) (hl : slots + n ≤ R.slots)
    (go : ∀ T' h' a, a = h.size → Ext h h' → Exa Z h' a C → (∀ {O nm d : String} {ty : FieldType}, Laid Z a0 C O nm d → parseFieldDescriptor d = some ty → Fld Z h' a O nm d (defaultValue ty)) → ownSt p l e R s m args below meth c Z n0 own bytes mx rt nm T' h' (cells + 1) (slots + n) → ownGo p e m below n0 En Q T' (pc + 3) Ls (.ref a :: S)) : ownGo p e m below n0 En Q T pc Ls S := by
  obtain ⟨⟨hx, hZ, hby, hml, hown, hnm, hret, hlk⟩, locs, X, eT, hN⟩ := G
  obtain ⟨T', h', X', e', E', A', D', -, st⟩ := newO X hx hZ hown w wi wz eT (g := mkF m pc Ls S) rfl (hb hby hd) hc hl
  exact ownGo.step (fun t k => st t k) (go T' h' h.size rfl E' A' D' ⟨⟨hx, hZ, hby, hml, hown, hnm, hret, hlk⟩, locs, X', e', hN⟩)
/-- an array of n places: place j holds f j -/
def ownArr (Z : State) (h : Heap) (a : Addr) (ty : FieldType) (n : Nat) (f : Nat → Value) : Prop := ∃ cl : Cell, Arr Z h a cl ty ∧ cl.slots.size = n ∧ ∀ j, j < n → cl.slots[j]? = some (f j)
variable {ty : FieldType} {n i : Nat} {f g : Nat → Value} {j : Int32}
theorem ownArr.lt (A : ownArr Z h a ty n f) : a < h.size := by obtain ⟨cl, A, -⟩ := A; exact A.lt
theorem ownArr.ext (A : ownArr Z h a ty n f) (E : Ext h h') : ownArr Z h' a ty n f := by obtain ⟨cl, A, r⟩ := A; exact ⟨cl, A.ext E, r⟩
theorem ownArr.keep (A : ownArr Z h a ty n f) {ws : List Addr} (K : Keep h h' ws) (q : a ∉ ws) : ownArr Z h' a ty n f := by obtain ⟨cl, A, r⟩ := A; exact ⟨cl, ⟨K.2.1 a cl A.1 q, A.2⟩, r⟩
theorem ownArr.congr (A : ownArr Z h a ty n f) (q : ∀ j, j < n → f j = g j) : ownArr Z h a ty n g := by obtain ⟨cl, A, r1, r2⟩ := A; exact ⟨cl, A, r1, fun j hj => by rw [← q j hj]; exact r2 j hj⟩
theorem ownArr.other (A : ownArr Z h a ty n f) {sl : Nat} {v : Value} (W : Wr h h' b sl v) (q : a ≠ b) : ownArr Z h' a ty n f := by obtain ⟨cl, A, r⟩ := A; exact ⟨cl, A.other W q, r⟩
theorem ownArr.same (A : ownArr Z h a ty n f) {v : Value} (W : Wr h h' a i v) : ownArr Z h' a ty n (fun j => if j = i then v else f j) := by
  obtain ⟨cl, A, r1, r2⟩ := A
  refine ⟨_, A.same W, by rw [sz_set]; exact r1, fun j hj => ?_⟩
  by_cases q : j = i
  · subst q; simp [Cell.setSlot, r1, hj]
  · simp only [if_neg q]; rw [← r2 j hj]; exact Array.getElem?_setIfInBounds_ne (Ne.symm q)
theorem ownArr.wr (A : ownArr Z h a ty n f) {v : Value} (W : Wr h h' b i v) : ownArr Z h' a ty n (fun j => if a = b ∧ j = i then v else f j) := by
  by_cases q : a = b
  · subst q; exact (A.same W).congr fun j _ => by simp
  · exact (A.other W q).congr fun j _ => by simp [q]
theorem own_in {cl : Cell} (S : cl.slots.size = n) (ix : ¬ j < 0 ∧ j.toNatClampNeg = i ∧ i < n) : ¬ (j < 0 ∨ cl.slots.size ≤ j.toNatClampNeg) := by
  obtain ⟨q1, q2, q3⟩ := ix; rw [S, q2]; intro q; exact q.elim q1 fun r => absurd q3 (Nat.not_lt.mpr r)
theorem own_iaload (G : ownSt p l e R s m args below meth c Z n0 own bytes mx rt nm T h cells slots) {v : Value} (hd : decode bytes pc = .ok (.iaload, 1)) (A : ownArr Z h a .int n f) (ix : ¬ j < 0 ∧ j.toNatClampNeg = i ∧ i < n) (hv : f i = v) (go : ownGo p e m below n0 En Q T (pc + 1) Ls (v :: S)) : ownGo p e m below n0 En Q T pc Ls (.int j :: .ref a :: S) := by
  obtain ⟨⟨hx, hZ, hby, hml, hown, hnm, hret, hlk⟩, locs, X, eT, hN⟩ := G
  obtain ⟨cl, A, r1, r2⟩ := A
  exact ownGo.step (fun t k => X.iaload hx (by rw [eT]; exact A.1) (State.isArrayOf_alike hZ.alike A.2.1) A.2.2 (own_in r1 ix) (by rw [ix.2.1, ← hv]; exact r2 i ix.2.2) (g := mkF m pc Ls (.int j :: .ref a :: S)) rfl rfl (hb hby hd) _ k) go
theorem own_laload (G : ownSt p l e R s m args below meth c Z n0 own bytes mx rt nm T h cells slots) {v : Value} (hd : decode bytes pc = .ok (.laload, 1)) (A : ownArr Z h a .long n f) (ix : ¬ j < 0 ∧ j.toNatClampNeg = i ∧ i < n) (hv : f i = v) (go : ownGo p e m below n0 En Q T (pc + 1) Ls (v :: S)) : ownGo p e m below n0 En Q T pc Ls (.int j :: .ref a :: S) := by
  obtain ⟨⟨hx, hZ, hby, hml, hown, hnm, hret, hlk⟩, locs, X, eT, hN⟩ := G
  obtain ⟨cl, A, r1, r2⟩ := A
  exact ownGo.step (fun t k => X.laload hx (by rw [eT]; exact A.1) (State.isArrayOf_alike hZ.alike A.2.1) A.2.2 (own_in r1 ix) (by rw [ix.2.1, ← hv]; exact r2 i ix.2.2) (g := mkF m pc Ls (.int j :: .ref a :: S)) rfl rfl (hb hby hd) _ k) go
theorem own_baload (G : ownSt p l e R s m args below meth c Z n0 own bytes mx rt nm T h cells slots) {v : Value} (hd : decode bytes pc = .ok (.baload, 1)) (A : ownArr Z h a .byte n f) (ix : ¬ j < 0 ∧ j.toNatClampNeg = i ∧ i < n) (hv : f i = v) (go : ownGo p e m below n0 En Q T (pc + 1) Ls (v :: S)) : ownGo p e m below n0 En Q T pc Ls (.int j :: .ref a :: S) := by
  obtain ⟨⟨hx, hZ, hby, hml, hown, hnm, hret, hlk⟩, locs, X, eT, hN⟩ := G
  obtain ⟨cl, A, r1, r2⟩ := A
  exact ownGo.step (fun t k => X.baloadBytes hx (by rw [eT]; exact A.1) (State.isArrayOf_alike hZ.alike A.2.1) A.2.2 (own_in r1 ix) (by rw [ix.2.1, ← hv]; exact r2 i ix.2.2) (g := mkF m pc Ls (.int j :: .ref a :: S)) rfl rfl (hb hby hd) _ k) go
theorem own_aaload (G : ownSt p l e R s m args below meth c Z n0 own bytes mx rt nm T h cells slots) {v : Value} (hd : decode bytes pc = .ok (.aaload, 1)) (A : ownArr Z h a ty n f) (hty : ty.isReference = true) (ix : ¬ j < 0 ∧ j.toNatClampNeg = i ∧ i < n) (hv : f i = v) (go : ownGo p e m below n0 En Q T (pc + 1) Ls (v :: S)) : ownGo p e m below n0 En Q T pc Ls (.int j :: .ref a :: S) := by
  obtain ⟨⟨hx, hZ, hby, hml, hown, hnm, hret, hlk⟩, locs, X, eT, hN⟩ := G
  obtain ⟨cl, A, r1, r2⟩ := A
  exact ownGo.step (fun t k => X.aaload hx (by rw [eT]; exact A.1) (State.isArrayOf_alike hZ.alike A.2.1) hty A.2.2 (own_in r1 ix) (by rw [ix.2.1, ← hv]; exact r2 i ix.2.2) (g := mkF m pc Ls (.int j :: .ref a :: S)) rfl rfl (hb hby hd) _ k) go
theorem own_arraylength (G : ownSt p l e R s m args below meth c Z n0 own bytes mx rt nm T h cells slots) (hd : decode bytes pc = .ok (.arraylength, 1)) (A : ownArr Z h a ty n f) (go : ownGo p e m below n0 En Q T (pc + 1) Ls (.int n.toInt32 :: S)) : ownGo p e m below n0 En Q T pc Ls (.ref a :: S) := by
  obtain ⟨⟨hx, hZ, hby, hml, hown, hnm, hret, hlk⟩, locs, X, eT, hN⟩ := G
  obtain ⟨cl, A, r1, r2⟩ := A
  subst r1
  exact ownGo.step (fun t k => X.arraylength hx (by rw [eT]; exact A.1) (State.isArrayOf_alike hZ.alike A.2.1) (g := mkF m pc Ls (.ref a :: S)) rfl rfl (hb hby hd) _ k) go
theorem own_iastore (G : ownSt p l e R s m args below meth c Z n0 own bytes mx rt nm T h cells slots) {x : Int32} (hd : decode bytes pc = .ok (.iastore, 1)) (A : ownArr Z h a .int n f) (ix : ¬ j < 0 ∧ j.toNatClampNeg = i ∧ i < n) (hfr : n0 ≤ a) (go : ∀ T' h', Wr h h' a i (.int x) → ownSt p l e R s m args below meth c Z n0 own bytes mx rt nm T' h' cells slots → ownGo p e m below n0 En Q T' (pc + 1) Ls S) : ownGo p e m below n0 En Q T pc Ls (.int x :: .int j :: .ref a :: S) := by
  obtain ⟨⟨hx, hZ, hby, hml, hown, hnm, hret, hlk⟩, locs, X, eT, hN⟩ := G
  obtain ⟨cl, A, r1, r2⟩ := A
  obtain ⟨T', h', X', e', W', st⟩ := stI X hx hZ eT A (own_in r1 ix) (g := mkF m pc Ls (.int x :: .int j :: .ref a :: S)) rfl rfl (hb hby hd)
  exact ownGo.step (fun t k => st t k) (go T' h' (ix.2.1 ▸ W') ⟨⟨hx, hZ, hby, hml, hown, hnm, hret, hlk⟩, _, X', e', Fr.snoc X' hN hfr⟩)
theorem own_lastore (G : ownSt p l e R s m args below meth c Z n0 own bytes mx rt nm T h cells slots) {x : Int64} (hd : decode bytes pc = .ok (.lastore, 1)) (A : ownArr Z h a .long n f) (ix : ¬ j < 0 ∧ j.toNatClampNeg = i ∧ i < n) (hfr : n0 ≤ a) (go : ∀ T' h', Wr h h' a i (.long x) → ownSt p l e R s m args below meth c Z n0 own bytes mx rt nm T' h' cells slots → ownGo p e m below n0 En Q T' (pc + 1) Ls S) : ownGo p e m below n0 En Q T pc Ls (.long x :: .int j :: .ref a :: S) := by
  obtain ⟨⟨hx, hZ, hby, hml, hown, hnm, hret, hlk⟩, locs, X, eT, hN⟩ := G
  obtain ⟨cl, A, r1, r2⟩ := A
  obtain ⟨T', h', X', e', W', st⟩ := stJ X hx hZ eT A (own_in r1 ix) (g := mkF m pc Ls (.long x :: .int j :: .ref a :: S)) rfl rfl (hb hby hd)
  exact ownGo.step (fun t k => st t k) (go T' h' (ix.2.1 ▸ W') ⟨⟨hx, hZ, hby, hml, hown, hnm, hret, hlk⟩, _, X', e', Fr.snoc X' hN hfr⟩)
theorem own_bastore (G : ownSt p l e R s m args below meth c Z n0 own bytes mx rt nm T h cells slots) {x : Int32} (hd : decode bytes pc = .ok (.bastore, 1)) (A : ownArr Z h a .byte n f) (ix : ¬ j < 0 ∧ j.toNatClampNeg = i ∧ i < n) (hfr : n0 ≤ a) (go : ∀ T' h', Wr h h' a i (.int (nar .byte x)) → ownSt p l e R s m args below meth c Z n0 own bytes mx rt nm T' h' cells slots → ownGo p e m below n0 En Q T' (pc + 1) Ls S) : ownGo p e m below n0 En Q T pc Ls (.int x :: .int j :: .ref a :: S) := by
  obtain ⟨⟨hx, hZ, hby, hml, hown, hnm, hret, hlk⟩, locs, X, eT, hN⟩ := G
  obtain ⟨cl, A, r1, r2⟩ := A
  obtain ⟨T', h', X', e', W', st⟩ := stB X hx hZ eT A (own_in r1 ix) (g := mkF m pc Ls (.int x :: .int j :: .ref a :: S)) rfl rfl (hb hby hd)
  exact ownGo.step (fun t k => st t k) (go T' h' (ix.2.1 ▸ W') ⟨⟨hx, hZ, hby, hml, hown, hnm, hret, hlk⟩, _, X', e', Fr.snoc X' hN hfr⟩)
theorem own_newarr (G : ownSt p l e R s m args below meth c Z n0 own bytes mx rt nm T h cells slots) {aty : ArrayType} {x : Int32} (hd : decode bytes pc = .ok (.newarray aty, 2)) (w : (Cond.arrayClass (newarray.typeOf aty)).before a0 Z = true) (hn : ¬ x < 0) {k cap : Nat} (hk : x.toNatClampNeg = k) (hcap : k ≤ cap) (hb8 : cap * 8 ≤ 536870912) (hc : cells + 1 ≤ R.cells) (hl : slots + cap ≤ R.slots)
    (go : ∀ T' h' a, a = h.size → Ext h h' → ownArr Z h' a (newarray.typeOf aty) k (fun _ => defaultValue (newarray.typeOf aty)) → ownSt p l e R s m args below meth c Z n0 own bytes mx rt nm T' h' (cells + 1) (slots + cap) → ownGo p e m below n0 En Q T' (pc + 2) Ls (.ref a :: S)) : ownGo p e m below n0 En Q T pc Ls (.int x :: S) := by
  obtain ⟨⟨hx, hZ, hby, hml, hown, hnm, hret, hlk⟩, locs, X, eT, hN⟩ := G
  subst hk
  obtain ⟨T', h', cA, X', e', E', A', st⟩ := newP X hx hZ w eT (g := mkF m pc Ls (.int x :: S)) rfl (hb hby hd) rfl hn hcap hb8 hc hl
  exact ownGo.step (fun t k => st t k) (go T' h' h.size rfl E' ⟨_, A', sz_new _ _ _, fun j hj => by simp [newA, hj]⟩ ⟨⟨hx, hZ, hby, hml, hown, hnm, hret, hlk⟩, locs, X', e', hN⟩)
theorem own_ldcFloat (G : ownSt p l e R s m args below meth c Z n0 own bytes mx rt nm T h cells slots) {index : Nat} {v : UInt32} (hd : decode bytes pc = .ok (.ldc index, 2)) (w : (Cond.constantFloat own index v).before a0 Z = true) (go : ownGo p e m below n0 En Q T (pc + 2) Ls (.float v :: S)) : ownGo p e m below n0 En Q T pc Ls S := by
  obtain ⟨⟨hx, hZ, hby, hml, hown, hnm, hret, hlk⟩, locs, X, eT, hN⟩ := G
  exact ownGo.step (fun t k => X.ldcFloatC hx hown (mvT hZ w) (g := mkF m pc Ls S) rfl (hb hby hd) _ k) go
/-- an array of references to objects of C -/
def ownRef (Z : State) (h : Heap) (a : Addr) (C : String) (n : Nat) (f : Nat → Value) : Prop := ∃ cl : Cell, Arr Z h a cl (.object C) ∧ Ovr Z cl.cls C ∧ cl.slots.size = n ∧ ∀ j, j < n → cl.slots[j]? = some (f j)
theorem ownRef.arr {C : String} (A : ownRef Z h a C n f) : ownArr Z h a (.object C) n f := by obtain ⟨cl, A, -, r⟩ := A; exact ⟨cl, A, r⟩
theorem ownRef.lt {C : String} (A : ownRef Z h a C n f) : a < h.size := A.arr.lt
theorem ownRef.ext {C : String} (A : ownRef Z h a C n f) (E : Ext h h') : ownRef Z h' a C n f := by obtain ⟨cl, A, r⟩ := A; exact ⟨cl, A.ext E, r⟩
theorem ownRef.keep {C : String} (A : ownRef Z h a C n f) {ws : List Addr} (K : Keep h h' ws) (q : a ∉ ws) : ownRef Z h' a C n f := by obtain ⟨cl, A, r⟩ := A; exact ⟨cl, ⟨K.2.1 a cl A.1 q, A.2⟩, r⟩
theorem ownRef.congr {C : String} (A : ownRef Z h a C n f) (q : ∀ j, j < n → f j = g j) : ownRef Z h a C n g := by obtain ⟨cl, A, r0, r1, r2⟩ := A; exact ⟨cl, A, r0, r1, fun j hj => by rw [← q j hj]; exact r2 j hj⟩
theorem ownRef.other {C : String} (A : ownRef Z h a C n f) {sl : Nat} {v : Value} (W : Wr h h' b sl v) (q : a ≠ b) : ownRef Z h' a C n f := by obtain ⟨cl, A, r⟩ := A; exact ⟨cl, A.other W q, r⟩
theorem ownRef.same {C : String} (A : ownRef Z h a C n f) {v : Value} (W : Wr h h' a i v) : ownRef Z h' a C n (fun j => if j = i then v else f j) := by
  obtain ⟨cl, A, r0, r1, r2⟩ := A
  refine ⟨_, A.same W, r0, by rw [sz_set]; exact r1, fun j hj => ?_⟩
  by_cases q : j = i
  · subst q; simp [Cell.setSlot, r1, hj]
  · simp only [if_neg q]; rw [← r2 j hj]; exact Array.getElem?_setIfInBounds_ne (Ne.symm q)
theorem own_aastore (G : ownSt p l e R s m args below meth c Z n0 own bytes mx rt nm T h cells slots) {C : String} {v : Value} (hd : decode bytes pc = .ok (.aastore, 1)) (A : ownRef Z h a C n f) (ix : ¬ j < 0 ∧ j.toNatClampNeg = i ∧ i < n) (hv : v = .null ∨ ∃ y, v = .ref y ∧ Ins Z h y C true) (hfr : n0 ≤ a) (go : ∀ T' h', Wr h h' a i v → ownSt p l e R s m args below meth c Z n0 own bytes mx rt nm T' h' cells slots → ownGo p e m below n0 En Q T' (pc + 1) Ls S) : ownGo p e m below n0 En Q T pc Ls (v :: .int j :: .ref a :: S) := by
  obtain ⟨⟨hx, hZ, hby, hml, hown, hnm, hret, hlk⟩, locs, X, eT, hN⟩ := G
  obtain ⟨cl, A, r0, r1, r2⟩ := A
  have F : Sto Z h a v := by
    rcases hv with rfl | ⟨y, rfl, I⟩
    · exact Or.inl rfl
    · exact Sto.of A r0 I
  obtain ⟨T', h', X', e', W', st⟩ := stR X hx hZ eT A (own_in r1 ix) rfl F (g := mkF m pc Ls (v :: .int j :: .ref a :: S)) rfl rfl (hb hby hd)
  exact ownGo.step (fun t k => st t k) (go T' h' (ix.2.1 ▸ W') ⟨⟨hx, hZ, hby, hml, hown, hnm, hret, hlk⟩, _, X', e', Fr.snoc X' hN hfr⟩)
theorem own_anewarr (G : ownSt p l e R s m args below meth c Z n0 own bytes mx rt nm T h cells slots) {C : String} {index : Nat} {x : Int32} (hd : decode bytes pc = .ok (.anewarray index, 3)) (w1 : (Cond.classLink own index C).before a0 Z = true) (w2 : (Cond.arrayOver (.object C)).before a0 Z = true) (hn : ¬ x < 0) {k cap : Nat} (hk : x.toNatClampNeg = k) (hcap : k ≤ cap) (hb8 : cap * 8 ≤ 536870912) (hc : cells + 1 ≤ R.cells) (hl : slots + cap ≤ R.slots)
    (go : ∀ T' h' a, a = h.size → Ext h h' → ownRef Z h' a C k (fun _ => .null) → ownSt p l e R s m args below meth c Z n0 own bytes mx rt nm T' h' (cells + 1) (slots + cap) → ownGo p e m below n0 En Q T' (pc + 3) Ls (.ref a :: S)) : ownGo p e m below n0 En Q T pc Ls (.int x :: S) := by
  obtain ⟨⟨hx, hZ, hby, hml, hown, hnm, hret, hlk⟩, locs, X, eT, hN⟩ := G
  subst hk
  obtain ⟨T', h', cA, X', e', E', A', O', st⟩ := newR X hx hZ hown w1 w2 eT (g := mkF m pc Ls (.int x :: S)) rfl (hb hby hd) rfl hn hcap hb8 hc hl
  exact ownGo.step (fun t k => st t k) (go T' h' h.size rfl E' ⟨_, A', O', sz_new _ _ _, fun j hj => by simp [newA, hj, defaultValue]⟩ ⟨⟨hx, hZ, hby, hml, hown, hnm, hret, hlk⟩, locs, X', e', hN⟩)
theorem own_callS (G : ownSt p l e R s m args below meth c Z n0 own bytes mx rt nm T h cells slots) {index : Nat} {y : MethodName} {by' : ByteArray} {mx' : Nat} {rt' : Option FieldType} {rm : Room} {as' : Array Value} {Q' : Option Value → Heap → Prop} (hd : decode bytes pc = .ok (.invokestatic index, 3))
    (w1 : (Cond.methodLink own index y).before a0 Z = true) (w2 : (Cond.static y).before a0 Z = true) (w3 : (Cond.initialized y.cls).before a0 Z = true) (w4 : (Cond.code y by' mx' rt').before a0 Z = true) (hy : y.cls ≠ "java/lang/invoke/MethodHandle" ∧ y.cls ≠ "java/lang/invoke/VarHandle")
    {argsL rest : List Value} (hM : ownMet l [] y by' mx' rt' rm Z n0 as' h Q') (has : as' = argsL.toArray) (hst : S = argsL.reverse ++ rest) (hsz : Ls.size = mx) (hlen : ∀ sig, parseMethodDescriptor y.desc = some sig → argsL.length = sig.parameters.length)
    {W : Nat} (hW : (rest.map fun v => v.category).sum ≤ W) (hf : rm.frames + 1 ≤ R.frames) (hl : W + (mx' + 11) + rm.locals ≤ R.locals) (hc : cells + rm.cells ≤ R.cells) (hs : slots + rm.slots ≤ R.slots)
    (go : ∀ v T' h', Q' v h' → ownSt p l e R s m args below meth c Z n0 own bytes mx rt nm T' h' (cells + rm.cells) (slots + rm.slots) → ownGo p e m below n0 En Q T' (pc + 3) Ls (v.toList ++ rest)) : ownGo p e m below n0 En Q T pc Ls S := by
  obtain ⟨⟨hx, hZ, hby, hml, hown, hnm, hret, hlk⟩, locs, X, eT, hN⟩ := G
  subst has hst
  obtain ⟨v, _, ⟨T', L', k', n'⟩, -, X', ⟨Lc, ⟨hQ, hN'⟩, l', y', z'⟩, st⟩ := Jvm.LawKit.callS X hx (y := y) hown (mvT hZ w1) (mvT hZ w2) (mvT hZ w3) (mvT hZ w4) hy (backOf (W := W) (Q := fun v h L => Q' v h ∧ Fr n0 L) hM hZ w4 w3 hf hl) (g := mkF m pc Ls (argsL.reverse ++ rest)) rfl (hsz.trans hml.symm) (argsL := argsL) (rest := rest) hlen rfl (by show 2 * 0 + _ ≤ _; omega) (hb hby hd) (fun _ _ => ⟨rfl, eT, hc, hs⟩)
  dsimp only [Pt.U, Pt.locs, Pt.cells, Pt.slots] at X' l' y' z' st hQ
  subst l' y' z'
  exact ownGo.step (fun t k => st t k) (go v T' T'.heap hQ ⟨⟨hx, hZ, hby, hml, hown, hnm, hret, hlk⟩, _, X', rfl, Fr.app hN hN'⟩)
theorem own_callSUp (G : ownSt p l e R s m args below meth c Z n0 own bytes mx rt nm T h cells slots) {owner : String} {index : Nat} {x : MethodName} {by' : ByteArray} {mx' : Nat} {rt' : Option FieldType} {rm : Room} {as' : Array Value} {Q' : Option Value → Heap → Prop} (hd : decode bytes pc = .ok (.invokestatic index, 3))
    (w1 : (Cond.methodLink own index x).before a0 Z = true) (wm : (Cond.sameMethod x.cls owner x.name x.desc).before a0 Z = true) (w2 : (Cond.static ⟨owner, x.name, x.desc⟩).before a0 Z = true) (w3 : (Cond.initialized owner).before a0 Z = true) (w4 : (Cond.code ⟨owner, x.name, x.desc⟩ by' mx' rt').before a0 Z = true) (hy : owner ≠ "java/lang/invoke/MethodHandle" ∧ owner ≠ "java/lang/invoke/VarHandle")
    {argsL rest : List Value} (hM : ownMet l [] ⟨owner, x.name, x.desc⟩ by' mx' rt' rm Z n0 as' h Q') (has : as' = argsL.toArray) (hst : S = argsL.reverse ++ rest) (hsz : Ls.size = mx) (hlen : ∀ sig, parseMethodDescriptor x.desc = some sig → argsL.length = sig.parameters.length)
    {W : Nat} (hW : (rest.map fun v => v.category).sum ≤ W) (hf : rm.frames + 1 ≤ R.frames) (hl : W + (mx' + 11) + rm.locals ≤ R.locals) (hc : cells + rm.cells ≤ R.cells) (hs : slots + rm.slots ≤ R.slots)
    (go : ∀ v T' h', Q' v h' → ownSt p l e R s m args below meth c Z n0 own bytes mx rt nm T' h' (cells + rm.cells) (slots + rm.slots) → ownGo p e m below n0 En Q T' (pc + 3) Ls (v.toList ++ rest)) : ownGo p e m below n0 En Q T pc Ls S := by
  obtain ⟨⟨hx, hZ, hby, hml, hown, hnm, hret, hlk⟩, locs, X, eT, hN⟩ := G
  subst has hst
  have w4s : (Cond.code ⟨owner, x.name, x.desc⟩ by' mx' rt').before args s = true := mvT hZ w4
  obtain ⟨mk, hnamed⟩ := Cond.code_named w4s
  obtain ⟨methM, cM, hmethM, -, -, -, -, -, -, hsigM⟩ := Cond.code_spec hnamed w4s
  obtain ⟨v, _, ⟨T', L', k', n'⟩, -, X', ⟨Lc, ⟨hQ, hN'⟩, l', y', z'⟩, st⟩ := X.staticBackUp hx (x := x) hown (mvT hZ w1) (mvT hZ wm) (mvT hZ w2) (mvT hZ w3) hnamed hmethM hsigM hy (backOf (W := W) (Q := fun v h L => Q' v h ∧ Fr n0 L) hM hZ w4 w3 hf hl) (g := mkF m pc Ls (argsL.reverse ++ rest)) rfl (hsz.trans hml.symm) (Steps.refl _) (argsL := argsL) (rest := rest) hlen rfl (by show 2 * 0 + _ ≤ _; omega) (hb hby hd) (fun _ _ => ⟨rfl, eT, hc, hs⟩)
  dsimp only [Pt.U, Pt.locs, Pt.cells, Pt.slots] at X' l' y' z' st hQ
  subst l' y' z'
  exact ownGo.step (fun t k => st.trans k) (go v T' T'.heap hQ ⟨⟨hx, hZ, hby, hml, hown, hnm, hret, hlk⟩, _, X', rfl, Fr.app hN hN'⟩)
theorem own_special (G : ownSt p l e R s m args below meth c Z n0 own bytes mx rt nm T h cells slots) {index : Nat} {y : MethodName} {by' : ByteArray} {mx' : Nat} {rm : Room} {as' : Array Value} {Q' : Option Value → Heap → Prop} (hd : decode bytes pc = .ok (.invokespecial index, 3)) (hy1 : y.name = "<init>")
    (w1 : (Cond.methodLink own index y).before a0 Z = true) (w2 : (Cond.instanceMethod y).before a0 Z = true) (w3 : (Cond.initialized y.cls).before a0 Z = true) (w4 : (Cond.code y by' mx' none).before a0 Z = true) (hy : y.cls ≠ "java/lang/invoke/MethodHandle" ∧ y.cls ≠ "java/lang/invoke/VarHandle")
    {argsL rest : List Value} (hM : ownMet l [] y by' mx' none rm Z n0 as' h Q') (has : as' = (.ref a :: argsL).toArray) (hst : S = argsL.reverse ++ .ref a :: rest) (hsz : Ls.size = mx) (hlen : ∀ sig, parseMethodDescriptor y.desc = some sig → argsL.length = sig.parameters.length)
    {W : Nat} (hW : (rest.map fun v => v.category).sum ≤ W) (hf : rm.frames + 1 ≤ R.frames) (hl : W + (mx' + 11) + rm.locals ≤ R.locals) (hc : cells + rm.cells ≤ R.cells) (hs : slots + rm.slots ≤ R.slots)
    (go : ∀ v T' h', Q' v h' → ownSt p l e R s m args below meth c Z n0 own bytes mx rt nm T' h' (cells + rm.cells) (slots + rm.slots) → ownGo p e m below n0 En Q T' (pc + 3) Ls (v.toList ++ rest)) : ownGo p e m below n0 En Q T pc Ls S := by
  obtain ⟨⟨hx, hZ, hby, hml, hown, hnm, hret, hlk⟩, locs, X, eT, hN⟩ := G
  subst has hst
  obtain ⟨v, _, ⟨T', L', k', n'⟩, -, X', ⟨Lc, ⟨hQ, hN'⟩, l', y', z'⟩, st⟩ := X.specialBack hx (y := y) hy1 hown (mvT hZ w1) (mvT hZ w2) (mvT hZ w4) hy (backOf (W := W) (Q := fun v h L => Q' v h ∧ Fr n0 L) hM hZ w4 w3 hf hl) (g := mkF m pc Ls (argsL.reverse ++ .ref a :: rest)) rfl (hsz.trans hml.symm) (Steps.refl _) (a := a) (argsL := argsL) (rest := rest) hlen rfl (by show 2 * 0 + _ ≤ _; omega) (hb hby hd) (fun _ _ => ⟨rfl, eT, hc, hs⟩)
  dsimp only [Pt.U, Pt.locs, Pt.cells, Pt.slots] at X' l' y' z' st hQ
  subst l' y' z'
  exact ownGo.step (fun t k => st.trans k) (go v T' T'.heap hQ ⟨⟨hx, hZ, hby, hml, hown, hnm, hret, hlk⟩, _, X', rfl, Fr.app hN hN'⟩)
theorem own_virtual (G : ownSt p l e R s m args below meth c Z n0 own bytes mx rt nm T h cells slots) {C : String} {index : Nat} {y : MethodName} {by' : ByteArray} {mx' : Nat} {rt' : Option FieldType} {rm : Room} {as' : Array Value} {Q' : Option Value → Heap → Prop} (hd : decode bytes pc = .ok (.invokevirtual index, 3))
    (w1 : (Cond.methodLink own index y).before a0 Z = true) (w2 : (Cond.declares y).before a0 Z = true) (ws : (Cond.selects C y y).before a0 Z = true) (wi : (Cond.instanceMethod y).before a0 Z = true) (w3 : (Cond.initialized y.cls).before a0 Z = true) (w4 : (Cond.code y by' mx' rt').before a0 Z = true) (hy : y.cls ≠ "java/lang/invoke/MethodHandle" ∧ y.cls ≠ "java/lang/invoke/VarHandle")
    {argsL rest : List Value} (E : Exa Z h a C) (hM : ownMet l [] y by' mx' rt' rm Z n0 as' h Q') (has : as' = (.ref a :: argsL).toArray) (hst : S = argsL.reverse ++ .ref a :: rest) (hsz : Ls.size = mx) (hlen : ∀ sig, parseMethodDescriptor y.desc = some sig → argsL.length = sig.parameters.length)
    {W : Nat} (hW : (rest.map fun v => v.category).sum ≤ W) (hf : rm.frames + 1 ≤ R.frames) (hl : W + (mx' + 11) + rm.locals ≤ R.locals) (hc : cells + rm.cells ≤ R.cells) (hs : slots + rm.slots ≤ R.slots)
    (go : ∀ v T' h', Q' v h' → ownSt p l e R s m args below meth c Z n0 own bytes mx rt nm T' h' (cells + rm.cells) (slots + rm.slots) → ownGo p e m below n0 En Q T' (pc + 3) Ls (v.toList ++ rest)) : ownGo p e m below n0 En Q T pc Ls S := by
  obtain ⟨⟨hx, hZ, hby, hml, hown, hnm, hret, hlk⟩, locs, X, eT, hN⟩ := G
  subst has hst
  obtain ⟨cq, kq, qa, qb, qc⟩ := isOf hZ eT E
  obtain ⟨v, _, ⟨T', L', k', n'⟩, -, X', ⟨Lc, ⟨hQ, hN'⟩, l', y', z'⟩, st⟩ := X.virtualBack hx (y := y) (z := y) hown (mvT hZ w1) (mvT hZ w2) (notFace_of_selects (args := #[]) (mvT hZ ws)) (mvT hZ ws) (mvT hZ wi) hy (backOf (W := W) (Q := fun v h L => Q' v h ∧ Fr n0 L) hM hZ w4 w3 hf hl) qa qc (g := mkF m pc Ls (argsL.reverse ++ .ref a :: rest)) rfl (hsz.trans hml.symm) (Steps.refl _) (argsL := argsL) (rest := rest) hlen rfl (by show 2 * 0 + _ ≤ _; omega) (hb hby hd) (fun _ _ => ⟨rfl, eT, hc, hs⟩)
  dsimp only [Pt.U, Pt.locs, Pt.cells, Pt.slots] at X' l' y' z' st hQ
  subst l' y' z'
  exact ownGo.step (fun t k => st.trans k) (go v T' T'.heap hQ ⟨⟨hx, hZ, hby, hml, hown, hnm, hret, hlk⟩, _, X', rfl, Fr.app hN hN'⟩)
theorem own_interface (G : ownSt p l e R s m args below meth c Z n0 own bytes mx rt nm T h cells slots) {C : String} {index count : Nat} {xi y : MethodName} {by' : ByteArray} {mx' : Nat} {rt' : Option FieldType} {rm : Room} {as' : Array Value} {Q' : Option Value → Heap → Prop} (hd : decode bytes pc = .ok (.invokeinterface index count, 5))
    (w1 : (Cond.methodLink own index xi).before a0 Z = true) (w2 : (Cond.declares xi).before a0 Z = true) (wf : (Cond.interfaceMethod xi.cls xi.cls xi.name xi.desc).before a0 Z = true) (ws : (Cond.selects C xi y).before a0 Z = true) (wi : (Cond.instanceMethod y).before a0 Z = true) (wp : (Cond.publicMethod y).before a0 Z = true) (wu : (Cond.unhidden C xi.name xi.desc).before a0 Z = true) (wc : (Cond.castable C xi.cls).before a0 Z = true) (w3 : (Cond.initialized y.cls).before a0 Z = true) (w4 : (Cond.code y by' mx' rt').before a0 Z = true) (hy : xi.cls ≠ "java/lang/invoke/MethodHandle" ∧ xi.cls ≠ "java/lang/invoke/VarHandle")
    {argsL rest : List Value} (E : Exa Z h a C) (hM : ownMet l [] y by' mx' rt' rm Z n0 as' h Q') (has : as' = (.ref a :: argsL).toArray) (hst : S = argsL.reverse ++ .ref a :: rest) (hsz : Ls.size = mx) (hlen : ∀ sig, parseMethodDescriptor xi.desc = some sig → argsL.length = sig.parameters.length)
    {W : Nat} (hW : (rest.map fun v => v.category).sum ≤ W) (hf : rm.frames + 1 ≤ R.frames) (hl : W + (mx' + 11) + rm.locals ≤ R.locals) (hc : cells + rm.cells ≤ R.cells) (hs : slots + rm.slots ≤ R.slots)
    (go : ∀ v T' h', Q' v h' → ownSt p l e R s m args below meth c Z n0 own bytes mx rt nm T' h' (cells + rm.cells) (slots + rm.slots) → ownGo p e m below n0 En Q T' (pc + 5) Ls (v.toList ++ rest)) : ownGo p e m below n0 En Q T pc Ls S := by
  obtain ⟨⟨hx, hZ, hby, hml, hown, hnm, hret, hlk⟩, locs, X, eT, hN⟩ := G
  subst has hst
  obtain ⟨cq, kq, qa, qb, qc⟩ := isOf hZ eT E
  obtain ⟨v, _, ⟨T', L', k', n'⟩, -, X', ⟨Lc, ⟨hQ, hN'⟩, l', y', z'⟩, st⟩ := X.interfaceBack hx (xi := xi) (y := y) hown (mvT hZ w1) (mvT hZ w2) (mvT hZ wf (by simp [Cond.onTables, Cond.keepsFace, Cond.keeps, Cond.steady, Cond.faceAtom, hy])) (mvT hZ ws) (mvT hZ wi) (mvT hZ wp) (mvT hZ wu) (mvT hZ wc) hy (backOf (W := W) (Q := fun v h L => Q' v h ∧ Fr n0 L) hM hZ w4 w3 hf hl) qa qb qc (g := mkF m pc Ls (argsL.reverse ++ .ref a :: rest)) rfl (hsz.trans hml.symm) (Steps.refl _) (argsL := argsL) (rest := rest) hlen rfl (by show 2 * 0 + _ ≤ _; omega) (hb hby hd) (fun _ _ => ⟨rfl, eT, hc, hs⟩)
  dsimp only [Pt.U, Pt.locs, Pt.cells, Pt.slots] at X' l' y' z' st hQ
  subst l' y' z'
  exact ownGo.step (fun t k => st.trans k) (go v T' T'.heap hQ ⟨⟨hx, hZ, hby, hml, hown, hnm, hret, hlk⟩, _, X', rfl, Fr.app hN hN'⟩)
theorem own_private (G : ownSt p l e R s m args below meth c Z n0 own bytes mx rt nm T h cells slots) {index : Nat} {y : MethodName} {by' : ByteArray} {mx' : Nat} {rt' : Option FieldType} {rm : Room} {as' : Array Value} {Q' : Option Value → Heap → Prop} {C : String} (hd : decode bytes pc = .ok (.invokevirtual index, 3))
    (w1 : (Cond.methodLink own index y).before a0 Z = true) (wi : (Cond.instanceMethod y).before a0 Z = true) (ws : (Cond.selects y.cls y y).before a0 Z = true) (wp : (Cond.privateMethod y).before a0 Z = true) (w3 : (Cond.initialized y.cls).before a0 Z = true) (w4 : (Cond.code y by' mx' rt').before a0 Z = true) (hy : y.cls ≠ "java/lang/invoke/MethodHandle" ∧ y.cls ≠ "java/lang/invoke/VarHandle")
    {argsL rest : List Value} (E : Exa Z h a C) (hM : ownMet l [] y by' mx' rt' rm Z n0 as' h Q') (has : as' = (.ref a :: argsL).toArray) (hst : S = argsL.reverse ++ .ref a :: rest) (hsz : Ls.size = mx) (hlen : ∀ sig, parseMethodDescriptor y.desc = some sig → argsL.length = sig.parameters.length)
    {W : Nat} (hW : (rest.map fun v => v.category).sum ≤ W) (hf : rm.frames + 1 ≤ R.frames) (hl : W + (mx' + 11) + rm.locals ≤ R.locals) (hc : cells + rm.cells ≤ R.cells) (hs : slots + rm.slots ≤ R.slots)
    (go : ∀ v T' h', Q' v h' → ownSt p l e R s m args below meth c Z n0 own bytes mx rt nm T' h' (cells + rm.cells) (slots + rm.slots) → ownGo p e m below n0 En Q T' (pc + 3) Ls (v.toList ++ rest)) : ownGo p e m below n0 En Q T pc Ls S := by
  obtain ⟨⟨hx, hZ, hby, hml, hown, hnm, hret, hlk⟩, locs, X, eT, hN⟩ := G
  subst has hst
  obtain ⟨cq, q1, q2⟩ := E.cell
  obtain ⟨v, _, ⟨T', L', k', n'⟩, -, X', ⟨Lc, ⟨hQ, hN'⟩, l', y', z'⟩, st⟩ := X.privateBack hx (y := y) hown (mvT hZ w1) (mvT hZ wi) (mvT hZ ws) (Cond.privateMethod_at (mvP hZ wp (args := #[]))) (mvT hZ w4) hy (backOf (W := W) (Q := fun v h L => Q' v h ∧ Fr n0 L) hM hZ w4 w3 hf hl) (g := mkF m pc Ls (argsL.reverse ++ .ref a :: rest)) rfl (hsz.trans hml.symm) (Steps.refl _) (a := a) (by rw [eT]; exact q1) q2 (argsL := argsL) (rest := rest) hlen rfl (by show 2 * 0 + _ ≤ _; omega) (hb hby hd) (fun _ _ => ⟨rfl, eT, hc, hs⟩)
  dsimp only [Pt.U, Pt.locs, Pt.cells, Pt.slots] at X' l' y' z' st hQ
  subst l' y' z'
  exact ownGo.step (fun t k => st.trans k) (go v T' T'.heap hQ ⟨⟨hx, hZ, hby, hml, hown, hnm, hret, hlk⟩, _, X', rfl, Fr.app hN hN'⟩)
theorem own_more (G : ownSt p l e R s m args below meth c Z n0 own bytes mx rt nm T h cells slots) {k n' : Nat} (hc : cells ≤ k) (hs : slots ≤ n') : ownSt p l e R s m args below meth c Z n0 own bytes mx rt nm T h k n' := by
  obtain ⟨⟨hx, hZ, hby, hml, hown, hnm, hret, hlk⟩, locs, X, eT, hN⟩ := G
  exact ⟨⟨hx, hZ, hby, hml, hown, hnm, hret, hlk⟩, locs, X.more hc hs, eT, hN⟩
end Own
def ownUpd {α : Type} (f : Nat → α) (i : Nat) (v : α) (j : Nat) : α := if j = i then v else f j
theorem ownArr.setL {Z : State} {h h' : Heap} {a : Addr} {n i : Nat} {f : Nat → Int64} {v : Int64} (A : ownArr Z h a .long n (fun j => .long (f j))) (W : Wr h h' a i (.long v)) : ownArr Z h' a .long n (fun j => .long (ownUpd f i v j)) :=
  (A.same W).congr fun j _ => by unfold ownUpd; by_cases q : j = i <;> simp [q]
theorem ownArr.setI {Z : State} {h h' : Heap} {a : Addr} {n i : Nat} {f : Nat → Int32} {v : Int32} (A : ownArr Z h a .int n (fun j => .int (f j))) (W : Wr h h' a i (.int v)) : ownArr Z h' a .int n (fun j => .int (ownUpd f i v j)) :=
  (A.same W).congr fun j _ => by unfold ownUpd; by_cases q : j = i <;> simp [q]
theorem ownArr.setN {Z : State} {h h' : Heap} {a : Addr} {n i : Nat} {f : Nat → Nat} {v : Nat} (A : ownArr Z h a .int n (fun j => .int (Int32.ofNat (f j)))) (W : Wr h h' a i (.int (Int32.ofNat v))) : ownArr Z h' a .int n (fun j => .int (Int32.ofNat (ownUpd f i v j))) :=
  (A.same W).congr fun j _ => by unfold ownUpd; by_cases q : j = i <;> simp [q]
theorem own_neA {a b : Nat} (h : ¬ @Eq Nat a b) : @Ne Addr a b := h
theorem own_n32 {i : Nat} (hi : i < 2147483648) : (Int32.ofNat i).toInt = (i : Int) := by
  rw [Int32.toInt_ofNat_of_lt (by simpa using hi)]
theorem own_ltN {i n : Nat} (hi : i < 2147483648) (hn : n < 2147483648) : Int32.ofNat i < Int32.ofNat n ↔ i < n := by
  rw [Int32.lt_iff_toInt_lt, own_n32 hi, own_n32 hn]; omega
theorem own_injN {i n : Nat} (hi : i < 2147483648) (hn : n < 2147483648) (h : Int32.ofNat i = Int32.ofNat n) : i = n := by
  have q := congrArg Int32.toInt h; rw [own_n32 hi, own_n32 hn] at q; omega
theorem own_clampN {i : Nat} (hi : i < 2147483648) : (Int32.ofNat i).toNatClampNeg = i := by
  show (Int32.ofNat i).toInt.toNat = i; rw [own_n32 hi]; omega
theorem own_nonneg {i : Nat} (hi : i < 2147483648) : ¬ Int32.ofNat i < 0 := by
  rw [Int32.lt_iff_toInt_lt, own_n32 hi]; show ¬ (i : Int) < 0; omega
theorem own_ixN {i n : Nat} (hi : i < n) (hn : n < 2147483648) : ¬ Int32.ofNat i < 0 ∧ (Int32.ofNat i).toNatClampNeg = i ∧ i < n := ⟨own_nonneg (by omega), own_clampN (by omega), hi⟩
theorem own_succN' (i : Nat) : Int32.ofNat i + 1 = Int32.ofNat (i + 1) := (Int32.ofNat_add i 1).symm
theorem own_predN (i : Nat) : Int32.ofNat (i + 1) - 1 = Int32.ofNat i := by
  rw [← own_succN']; exact Int32.add_sub_cancel _ _
theorem own_decN (i : Nat) : Int32.ofNat i + (-1 : Int32) = Int32.ofNat i - 1 := (Int32.sub_eq_add_neg _ _).symm
theorem own_succN (i : Nat) : Int32.ofNat i + 1 = Int32.ofNat (i + 1) := (Int32.ofNat_add i 1).symm
theorem d1_0 : decode prog_8_method_4_code 0 = .ok (.iconst (-1), 1) := by decide +kernel
theorem d1_1 : decode prog_8_method_4_code 1 = .ok (.istore 4, 2) := by decide +kernel
theorem d1_3 : decode prog_8_method_4_code 3 = .ok (.iload_n 2, 1) := by decide +kernel
theorem d1_4 : decode prog_8_method_4_code 4 = .ok (.istore 5, 2) := by decide +kernel
theorem d1_6 : decode prog_8_method_4_code 6 = .ok (.iload 5, 2) := by decide +kernel
theorem d1_8 : decode prog_8_method_4_code 8 = .ok (.iload_n 3, 1) := by decide +kernel
theorem d1_9 : decode prog_8_method_4_code 9 = .ok (.if_icmp .ge 26, 3) := by decide +kernel
theorem d1_12 : decode prog_8_method_4_code 12 = .ok (.iload 4, 2) := by decide +kernel
theorem d1_14 : decode prog_8_method_4_code 14 = .ok (.ifCond .ge 21, 3) := by decide +kernel
theorem d1_17 : decode prog_8_method_4_code 17 = .ok (.aload_n 0, 1) := by decide +kernel
theorem d1_18 : decode prog_8_method_4_code 18 = .ok (.iload 5, 2) := by decide +kernel
theorem d1_20 : decode prog_8_method_4_code 20 = .ok (.baload, 1) := by decide +kernel
theorem d1_21 : decode prog_8_method_4_code 21 = .ok (.iload_n 1, 1) := by decide +kernel
theorem d1_22 : decode prog_8_method_4_code 22 = .ok (.if_icmp .ne 7, 3) := by decide +kernel
theorem d1_25 : decode prog_8_method_4_code 25 = .ok (.iload 5, 2) := by decide +kernel
theorem d1_27 : decode prog_8_method_4_code 27 = .ok (.istore 4, 2) := by decide +kernel
theorem d1_29 : decode prog_8_method_4_code 29 = .ok (.iinc 5 1, 3) := by decide +kernel
theorem d1_32 : decode prog_8_method_4_code 32 = .ok (.goto (-26), 3) := by decide +kernel
theorem d1_35 : decode prog_8_method_4_code 35 = .ok (.iload 4, 2) := by decide +kernel
theorem d1_37 : decode prog_8_method_4_code 37 = .ok (.ireturn, 1) := by decide +kernel
theorem d2_0 : decode method_3_code 0 = .ok (.iload_n 2, 1) := by decide +kernel
theorem d2_1 : decode method_3_code 1 = .ok (.ifCond .gt 17, 3) := by decide +kernel
theorem d2_4 : decode method_3_code 4 = .ok (.iconst 0, 1) := by decide +kernel
theorem d2_5 : decode method_3_code 5 = .ok (.iload_n 3, 1) := by decide +kernel
theorem d2_6 : decode method_3_code 6 = .ok (.if_icmp .ge 12, 3) := by decide +kernel
theorem d2_9 : decode method_3_code 9 = .ok (.aload_n 0, 1) := by decide +kernel
theorem d2_10 : decode method_3_code 10 = .ok (.iconst 0, 1) := by decide +kernel
theorem d2_11 : decode method_3_code 11 = .ok (.baload, 1) := by decide +kernel
theorem d2_12 : decode method_3_code 12 = .ok (.iload_n 1, 1) := by decide +kernel
theorem d2_13 : decode method_3_code 13 = .ok (.if_icmp .ne 5, 3) := by decide +kernel
theorem d2_16 : decode method_3_code 16 = .ok (.iconst 0, 1) := by decide +kernel
theorem d2_17 : decode method_3_code 17 = .ok (.ireturn, 1) := by decide +kernel
theorem d2_18 : decode method_3_code 18 = .ok (.iload_n 2, 1) := by decide +kernel
theorem d2_19 : decode method_3_code 19 = .ok (.iconst 1, 1) := by decide +kernel
theorem d2_20 : decode method_3_code 20 = .ok (.if_icmp .gt 17, 3) := by decide +kernel
theorem d2_23 : decode method_3_code 23 = .ok (.iconst 1, 1) := by decide +kernel
theorem d2_24 : decode method_3_code 24 = .ok (.iload_n 3, 1) := by decide +kernel
theorem d2_25 : decode method_3_code 25 = .ok (.if_icmp .ge 12, 3) := by decide +kernel
theorem d2_28 : decode method_3_code 28 = .ok (.aload_n 0, 1) := by decide +kernel
theorem d2_29 : decode method_3_code 29 = .ok (.iconst 1, 1) := by decide +kernel
theorem d2_30 : decode method_3_code 30 = .ok (.baload, 1) := by decide +kernel
theorem d2_31 : decode method_3_code 31 = .ok (.iload_n 1, 1) := by decide +kernel
theorem d2_32 : decode method_3_code 32 = .ok (.if_icmp .ne 5, 3) := by decide +kernel
theorem d2_35 : decode method_3_code 35 = .ok (.iconst 1, 1) := by decide +kernel
theorem d2_36 : decode method_3_code 36 = .ok (.ireturn, 1) := by decide +kernel
theorem d2_37 : decode method_3_code 37 = .ok (.iload_n 2, 1) := by decide +kernel
theorem d2_38 : decode method_3_code 38 = .ok (.iconst 2, 1) := by decide +kernel
theorem d2_39 : decode method_3_code 39 = .ok (.if_icmp .gt 17, 3) := by decide +kernel
theorem d2_42 : decode method_3_code 42 = .ok (.iconst 2, 1) := by decide +kernel
theorem d2_43 : decode method_3_code 43 = .ok (.iload_n 3, 1) := by decide +kernel
theorem d2_44 : decode method_3_code 44 = .ok (.if_icmp .ge 12, 3) := by decide +kernel
theorem d2_47 : decode method_3_code 47 = .ok (.aload_n 0, 1) := by decide +kernel
theorem d2_48 : decode method_3_code 48 = .ok (.iconst 2, 1) := by decide +kernel
theorem d2_49 : decode method_3_code 49 = .ok (.baload, 1) := by decide +kernel
theorem d2_50 : decode method_3_code 50 = .ok (.iload_n 1, 1) := by decide +kernel
theorem d2_51 : decode method_3_code 51 = .ok (.if_icmp .ne 5, 3) := by decide +kernel
theorem d2_54 : decode method_3_code 54 = .ok (.iconst 2, 1) := by decide +kernel
theorem d2_55 : decode method_3_code 55 = .ok (.ireturn, 1) := by decide +kernel
theorem d2_56 : decode method_3_code 56 = .ok (.iload_n 2, 1) := by decide +kernel
theorem d2_57 : decode method_3_code 57 = .ok (.iconst 3, 1) := by decide +kernel
theorem d2_58 : decode method_3_code 58 = .ok (.if_icmp .gt 17, 3) := by decide +kernel
theorem d2_61 : decode method_3_code 61 = .ok (.iconst 3, 1) := by decide +kernel
theorem d2_62 : decode method_3_code 62 = .ok (.iload_n 3, 1) := by decide +kernel
theorem d2_63 : decode method_3_code 63 = .ok (.if_icmp .ge 12, 3) := by decide +kernel
theorem d2_66 : decode method_3_code 66 = .ok (.aload_n 0, 1) := by decide +kernel
theorem d2_67 : decode method_3_code 67 = .ok (.iconst 3, 1) := by decide +kernel
theorem d2_68 : decode method_3_code 68 = .ok (.baload, 1) := by decide +kernel
theorem d2_69 : decode method_3_code 69 = .ok (.iload_n 1, 1) := by decide +kernel
theorem d2_70 : decode method_3_code 70 = .ok (.if_icmp .ne 5, 3) := by decide +kernel
theorem d2_73 : decode method_3_code 73 = .ok (.iconst 3, 1) := by decide +kernel
theorem d2_74 : decode method_3_code 74 = .ok (.ireturn, 1) := by decide +kernel
theorem d2_75 : decode method_3_code 75 = .ok (.iconst (-1), 1) := by decide +kernel
theorem d2_76 : decode method_3_code 76 = .ok (.ireturn, 1) := by decide +kernel
theorem pd_0 : parseMethodDescriptor "([BBII)I" = some ⟨[(.array .byte), .byte, .int, .int], some .int⟩ := by decide +kernel
def ownFind (f : Nat → Int32) (b : Int32) : Nat → Nat → Int32
  | 0, _ => -1
  | k + 1, i => if f i = b then Int32.ofNat i else ownFind f b k (i + 1)
theorem own_hit {f : Nat → Int32} {b : Int32} : ∀ (k F i : Nat), F ≤ i → i < F + k → f i = b → (∀ j, F ≤ j → j < i → ¬ f j = b) → ownFind f b k F = Int32.ofNat i
  | 0, F, i, h1, h2, _, _ => by omega
  | k + 1, F, i, h1, h2, h3, h4 => by
    by_cases q : F = i
    · subst q; simp [ownFind, h3]
    · have r := h4 F (Nat.le_refl _) (by omega)
      simp only [ownFind, if_neg r]
      exact own_hit k (F + 1) i (by omega) (by omega) h3 fun j a b => h4 j (by omega) b
theorem own_miss {f : Nat → Int32} {b : Int32} : ∀ (k F : Nat), (∀ j, F ≤ j → j < F + k → ¬ f j = b) → ownFind f b k F = -1
  | 0, _, _ => rfl
  | k + 1, F, h => by
    simp only [ownFind, if_neg (h F (Nat.le_refl _) (by omega))]
    exact own_miss k (F + 1) fun j a b => h j (by omega) (by omega)
theorem own_rem5 (x : Int32) : ∃ F : Nat, F ≤ 4 ∧ ((x &&& (2147483647 : Int32)) % (5 : Int32)) = Int32.ofNat F := by
  have h1 : (x &&& (2147483647 : Int32)).toInt = x.toInt % 2 ^ 31 := Jvm.Kit.i32_mask x 2147483647 (k := 31) (by decide) (by decide)
  have h2 : ((x &&& (2147483647 : Int32)) % (5 : Int32)).toInt = (x &&& (2147483647 : Int32)).toInt.tmod 5 := Int32.toInt_mod _ _
  have h3 : 0 ≤ (x &&& (2147483647 : Int32)).toInt := by rw [h1]; omega
  rw [Int.tmod_eq_emod_of_nonneg h3] at h2
  refine ⟨((x &&& (2147483647 : Int32)) % (5 : Int32)).toInt.toNat, by omega, ?_⟩
  apply Int32.toInt_inj.mp
  rw [own_n32 (by omega)]; omega
theorem own_and3 (x : Int32) : ¬ (x &&& (3 : Int32)) < 0 ∧ (x &&& (3 : Int32)).toNatClampNeg = (x &&& (3 : Int32)).toNatClampNeg ∧ (x &&& (3 : Int32)).toNatClampNeg < 4 := by
  have h1 : (x &&& (3 : Int32)).toInt = x.toInt % 2 ^ 2 := Jvm.Kit.i32_mask x 3 (k := 2) (by decide) (by decide)
  refine ⟨?_, rfl, ?_⟩
  · rw [Int32.lt_iff_toInt_lt, h1]; show ¬ _ < (0 : Int); omega
  · show (x &&& (3 : Int32)).toInt.toNat < 4; rw [h1]; omega
def ownX (a : Int32) : Nat → Int32
  | 0 => nar .byte (a.toInt8.toInt32)
  | 1 => nar .byte ((a >>> ((8 : Int32) &&& 31)).toInt8.toInt32)
  | 2 => nar .byte ((a >>> ((16 : Int32) &&& 31)).toInt8.toInt32)
  | _ => nar .byte ((a >>> ((24 : Int32) &&& 31)).toInt8.toInt32)
theorem pn_rmI : plainFor (⟨"com/example/redrush/redrush/HttpHeads", "indexOf", "([BBII)I"⟩ : MethodName) = true := plainFor_of_name (by first | (simp [plainName, overriddenIn]; done) | decide +kernel)
theorem ef_rmI (m : MethodId) (a1 : Addr) (p2 : Int32) (p3 : Int32) (p4 : Int32) : entryFrame m #[(.ref a1), (.int p2), (.int p3), (.int p4)] 6 = mkF m 0 #[.val (.ref a1), .val (.int p2), .val (.int p3), .val (.int p4), .unset, .unset] [] := by first | (simp [entryFrame, mkF, argsToLocals, Value.category]; done) | rfl
set_option maxRecDepth 65536 in
set_option maxHeartbeats 40000000 in
theorem rmI (l : Launch) (Z : State) (a0 : Array Value) (hw : ∀ d ∈ tables_1, d.before a0 Z = true) (a1 : Addr) (p2 p3 p4 : Int32) (f : Nat → Int32) (F G : Nat) (h0 : Heap) (n0 : Nat) (Z0 : n0 ≤ h0.size) (A1 : ownArr Z h0 a1 .byte 4 (fun j => .int (f j))) (hF : F ≤ 4) (hG : G ≤ 4) (e3 : p3 = Int32.ofNat F) (e4 : p4 = Int32.ofNat G) :
    ownMet l [] (⟨"com/example/redrush/redrush/HttpHeads", "indexOf", "([BBII)I"⟩ : MethodName) prog_8_method_4_code 6 (some .int) ({ frames := 0, cells := 0, slots := 0, locals := 0 } : Room) Z n0 #[(.ref a1), (.int p2), (.int p3), (.int p4)] h0 (fun v h => v = some (.int (ownFind f p2 (G - F) F)) ∧ h0 = h) := by
  refine own_body (own := "com/example/redrush/redrush/HttpHeads") (nm := "indexOf") pn_rmI (fun m => ef_rmI m a1 p2 p3 p4) rfl rfl ?_
  intro p e s m below meth c T0 G0
  show ownGo _ _ _ _ _ _ _ T0 0 #[.val (.ref a1), .val (.int p2), .val (.int p3), .val (.int p4), .unset, .unset] []
  subst e3 e4
  show ownGo _ _ _ _ _ _ _ T0 0 #[.val (.ref a1), .val (.int p2), .val (.int (Int32.ofNat F)), .val (.int (Int32.ofNat G)), .unset, .unset] []
  have loop : ∀ k J, J ≤ 4 → G - J = k → ownGo p e m below n0 (ownEnd s ({ frames := 0, cells := 0, slots := 0, locals := 0 } : Room)) (fun v h => v = some (.int (ownFind f p2 k J)) ∧ h0 = h) T0 6 #[.val (.ref a1), .val (.int p2), .val (.int (Int32.ofNat F)), .val (.int (Int32.ofNat G)), .val (.int (-1 : Int32)), .val (.int (Int32.ofNat J))] [] := by
    intro k
    induction k with
    | zero =>
      intro J hJ hk
      show ownGo _ _ _ _ _ _ _ T0 6 #[.val (.ref a1), .val (.int p2), .val (.int (Int32.ofNat F)), .val (.int (Int32.ofNat G)), .val (.int (-1 : Int32)), .val (.int (Int32.ofNat J))] []
      refine own_iload G0 d1_6 rfl ?_
      show ownGo _ _ _ _ _ _ _ T0 8 #[.val (.ref a1), .val (.int p2), .val (.int (Int32.ofNat F)), .val (.int (Int32.ofNat G)), .val (.int (-1 : Int32)), .val (.int (Int32.ofNat J))] [(.int (Int32.ofNat J))]
      refine own_iloadN G0 d1_8 rfl ?_
      show ownGo _ _ _ _ _ _ _ T0 9 #[.val (.ref a1), .val (.int p2), .val (.int (Int32.ofNat F)), .val (.int (Int32.ofNat G)), .val (.int (-1 : Int32)), .val (.int (Int32.ofNat J))] [(.int (Int32.ofNat G)), (.int (Int32.ofNat J))]
      refine own_icmp_ge G0 d1_9 (pc' := 35) (by decide) (by decide) (fun hc => ?_) (fun hc => False.elim (absurd ((own_ltN (by omega) (by omega)).mp hc) (by omega)))
      show ownGo _ _ _ _ _ _ _ T0 35 #[.val (.ref a1), .val (.int p2), .val (.int (Int32.ofNat F)), .val (.int (Int32.ofNat G)), .val (.int (-1 : Int32)), .val (.int (Int32.ofNat J))] []
      refine own_iload G0 d1_35 rfl ?_
      show ownGo _ _ _ _ _ _ _ T0 37 #[.val (.ref a1), .val (.int p2), .val (.int (Int32.ofNat F)), .val (.int (Int32.ofNat G)), .val (.int (-1 : Int32)), .val (.int (Int32.ofNat J))] [(.int (-1 : Int32))]
      exact own_ireturn G0 d1_37 rfl (by decide) (by decide) ⟨rfl, rfl⟩
    | succ k ih =>
      intro J hJ hk
      show ownGo _ _ _ _ _ _ _ T0 6 #[.val (.ref a1), .val (.int p2), .val (.int (Int32.ofNat F)), .val (.int (Int32.ofNat G)), .val (.int (-1 : Int32)), .val (.int (Int32.ofNat J))] []
      refine own_iload G0 d1_6 rfl ?_
      show ownGo _ _ _ _ _ _ _ T0 8 #[.val (.ref a1), .val (.int p2), .val (.int (Int32.ofNat F)), .val (.int (Int32.ofNat G)), .val (.int (-1 : Int32)), .val (.int (Int32.ofNat J))] [(.int (Int32.ofNat J))]
      refine own_iloadN G0 d1_8 rfl ?_
      show ownGo _ _ _ _ _ _ _ T0 9 #[.val (.ref a1), .val (.int p2), .val (.int (Int32.ofNat F)), .val (.int (Int32.ofNat G)), .val (.int (-1 : Int32)), .val (.int (Int32.ofNat J))] [(.int (Int32.ofNat G)), (.int (Int32.ofNat J))]
      refine own_icmp_ge G0 d1_9 (pc' := 35) (by decide) (by decide) (fun hc => False.elim (hc ((own_ltN (by omega) (by omega)).mpr (by omega)))) (fun hc => ?_)
      show ownGo _ _ _ _ _ _ _ T0 12 #[.val (.ref a1), .val (.int p2), .val (.int (Int32.ofNat F)), .val (.int (Int32.ofNat G)), .val (.int (-1 : Int32)), .val (.int (Int32.ofNat J))] []
      refine own_iload G0 d1_12 rfl ?_
      show ownGo _ _ _ _ _ _ _ T0 14 #[.val (.ref a1), .val (.int p2), .val (.int (Int32.ofNat F)), .val (.int (Int32.ofNat G)), .val (.int (-1 : Int32)), .val (.int (Int32.ofNat J))] [(.int (-1 : Int32))]
      refine own_if_ge G0 d1_14 (pc' := 35) (by decide) (by decide) (fun hc => False.elim (absurd hc (by decide))) (fun hc => ?_)
      show ownGo _ _ _ _ _ _ _ T0 17 #[.val (.ref a1), .val (.int p2), .val (.int (Int32.ofNat F)), .val (.int (Int32.ofNat G)), .val (.int (-1 : Int32)), .val (.int (Int32.ofNat J))] []
      refine own_aloadN G0 d1_17 rfl rfl ?_
      show ownGo _ _ _ _ _ _ _ T0 18 #[.val (.ref a1), .val (.int p2), .val (.int (Int32.ofNat F)), .val (.int (Int32.ofNat G)), .val (.int (-1 : Int32)), .val (.int (Int32.ofNat J))] [(.ref a1)]
      refine own_iload G0 d1_18 rfl ?_
      show ownGo _ _ _ _ _ _ _ T0 20 #[.val (.ref a1), .val (.int p2), .val (.int (Int32.ofNat F)), .val (.int (Int32.ofNat G)), .val (.int (-1 : Int32)), .val (.int (Int32.ofNat J))] [(.int (Int32.ofNat J)), (.ref a1)]
      refine own_baload G0 d1_20 (v := (.int (f J))) A1  (own_ixN (by omega) (by decide)) rfl ?_
      show ownGo _ _ _ _ _ _ _ T0 21 #[.val (.ref a1), .val (.int p2), .val (.int (Int32.ofNat F)), .val (.int (Int32.ofNat G)), .val (.int (-1 : Int32)), .val (.int (Int32.ofNat J))] [(.int (f J))]
      refine own_iloadN G0 d1_21 rfl ?_
      show ownGo _ _ _ _ _ _ _ T0 22 #[.val (.ref a1), .val (.int p2), .val (.int (Int32.ofNat F)), .val (.int (Int32.ofNat G)), .val (.int (-1 : Int32)), .val (.int (Int32.ofNat J))] [(.int p2), (.int (f J))]
      refine own_icmp_ne G0 d1_22 (pc' := 29) (by decide) (by decide) (fun hne => ?_) (fun heq => ?_)
      · show ownGo _ _ _ _ _ _ _ T0 29 #[.val (.ref a1), .val (.int p2), .val (.int (Int32.ofNat F)), .val (.int (Int32.ofNat G)), .val (.int (-1 : Int32)), .val (.int (Int32.ofNat J))] []
        refine own_iinc G0 d1_29 (L' := #[.val (.ref a1), .val (.int p2), .val (.int (Int32.ofNat F)), .val (.int (Int32.ofNat G)), .val (.int (-1 : Int32)), .val (.int ((Int32.ofNat J) + (1 : Int32)))]) rfl rfl ?_
        show ownGo _ _ _ _ _ _ _ T0 32 #[.val (.ref a1), .val (.int p2), .val (.int (Int32.ofNat F)), .val (.int (Int32.ofNat G)), .val (.int (-1 : Int32)), .val (.int ((Int32.ofNat J) + (1 : Int32)))] []
        refine own_goto G0 d1_32 (pc' := 6) (by decide) (by decide) ?_
        show ownGo _ _ _ _ _ _ _ T0 6 #[.val (.ref a1), .val (.int p2), .val (.int (Int32.ofNat F)), .val (.int (Int32.ofNat G)), .val (.int (-1 : Int32)), .val (.int ((Int32.ofNat J) + (1 : Int32)))] []
        rw [own_succN]
        exact (ih (J + 1) (by omega) (by omega)).mono fun v h q => ⟨by rw [q.1]; simp only [ownFind, if_neg hne], q.2⟩
      · show ownGo _ _ _ _ _ _ _ T0 25 #[.val (.ref a1), .val (.int p2), .val (.int (Int32.ofNat F)), .val (.int (Int32.ofNat G)), .val (.int (-1 : Int32)), .val (.int (Int32.ofNat J))] []
        refine own_iload G0 d1_25 rfl ?_
        show ownGo _ _ _ _ _ _ _ T0 27 #[.val (.ref a1), .val (.int p2), .val (.int (Int32.ofNat F)), .val (.int (Int32.ofNat G)), .val (.int (-1 : Int32)), .val (.int (Int32.ofNat J))] [(.int (Int32.ofNat J))]
        refine own_istore G0 d1_27 (L' := #[.val (.ref a1), .val (.int p2), .val (.int (Int32.ofNat F)), .val (.int (Int32.ofNat G)), .val (.int (Int32.ofNat J)), .val (.int (Int32.ofNat J))]) rfl ?_
        show ownGo _ _ _ _ _ _ _ T0 29 #[.val (.ref a1), .val (.int p2), .val (.int (Int32.ofNat F)), .val (.int (Int32.ofNat G)), .val (.int (Int32.ofNat J)), .val (.int (Int32.ofNat J))] []
        refine own_iinc G0 d1_29 (L' := #[.val (.ref a1), .val (.int p2), .val (.int (Int32.ofNat F)), .val (.int (Int32.ofNat G)), .val (.int (Int32.ofNat J)), .val (.int ((Int32.ofNat J) + (1 : Int32)))]) rfl rfl ?_
        show ownGo _ _ _ _ _ _ _ T0 32 #[.val (.ref a1), .val (.int p2), .val (.int (Int32.ofNat F)), .val (.int (Int32.ofNat G)), .val (.int (Int32.ofNat J)), .val (.int ((Int32.ofNat J) + (1 : Int32)))] []
        refine own_goto G0 d1_32 (pc' := 6) (by decide) (by decide) ?_
        show ownGo _ _ _ _ _ _ _ T0 6 #[.val (.ref a1), .val (.int p2), .val (.int (Int32.ofNat F)), .val (.int (Int32.ofNat G)), .val (.int (Int32.ofNat J)), .val (.int ((Int32.ofNat J) + (1 : Int32)))] []
        refine own_iload G0 d1_6 rfl ?_
        show ownGo _ _ _ _ _ _ _ T0 8 #[.val (.ref a1), .val (.int p2), .val (.int (Int32.ofNat F)), .val (.int (Int32.ofNat G)), .val (.int (Int32.ofNat J)), .val (.int ((Int32.ofNat J) + (1 : Int32)))] [(.int ((Int32.ofNat J) + (1 : Int32)))]
        refine own_iloadN G0 d1_8 rfl ?_
        show ownGo _ _ _ _ _ _ _ T0 9 #[.val (.ref a1), .val (.int p2), .val (.int (Int32.ofNat F)), .val (.int (Int32.ofNat G)), .val (.int (Int32.ofNat J)), .val (.int ((Int32.ofNat J) + (1 : Int32)))] [(.int (Int32.ofNat G)), (.int ((Int32.ofNat J) + (1 : Int32)))]
        have hres : ownFind f p2 (k + 1) J = Int32.ofNat J := by simp only [ownFind, if_pos heq]
        refine own_icmp_ge G0 d1_9 (pc' := 35) (by decide) (by decide) (fun hx1 => ?_) (fun hx1 => ?_)
        · show ownGo _ _ _ _ _ _ _ T0 35 #[.val (.ref a1), .val (.int p2), .val (.int (Int32.ofNat F)), .val (.int (Int32.ofNat G)), .val (.int (Int32.ofNat J)), .val (.int ((Int32.ofNat J) + (1 : Int32)))] []
          refine own_iload G0 d1_35 rfl ?_
          show ownGo _ _ _ _ _ _ _ T0 37 #[.val (.ref a1), .val (.int p2), .val (.int (Int32.ofNat F)), .val (.int (Int32.ofNat G)), .val (.int (Int32.ofNat J)), .val (.int ((Int32.ofNat J) + (1 : Int32)))] [(.int (Int32.ofNat J))]
          exact own_ireturn G0 d1_37 rfl (by decide) (by decide) ⟨by rw [hres], rfl⟩
        · show ownGo _ _ _ _ _ _ _ T0 12 #[.val (.ref a1), .val (.int p2), .val (.int (Int32.ofNat F)), .val (.int (Int32.ofNat G)), .val (.int (Int32.ofNat J)), .val (.int ((Int32.ofNat J) + (1 : Int32)))] []
          refine own_iload G0 d1_12 rfl ?_
          show ownGo _ _ _ _ _ _ _ T0 14 #[.val (.ref a1), .val (.int p2), .val (.int (Int32.ofNat F)), .val (.int (Int32.ofNat G)), .val (.int (Int32.ofNat J)), .val (.int ((Int32.ofNat J) + (1 : Int32)))] [(.int (Int32.ofNat J))]
          refine own_if_ge G0 d1_14 (pc' := 35) (by decide) (by decide) (fun hc => ?_) (fun hc => False.elim (own_nonneg (by omega) hc))
          show ownGo _ _ _ _ _ _ _ T0 35 #[.val (.ref a1), .val (.int p2), .val (.int (Int32.ofNat F)), .val (.int (Int32.ofNat G)), .val (.int (Int32.ofNat J)), .val (.int ((Int32.ofNat J) + (1 : Int32)))] []
          refine own_iload G0 d1_35 rfl ?_
          show ownGo _ _ _ _ _ _ _ T0 37 #[.val (.ref a1), .val (.int p2), .val (.int (Int32.ofNat F)), .val (.int (Int32.ofNat G)), .val (.int (Int32.ofNat J)), .val (.int ((Int32.ofNat J) + (1 : Int32)))] [(.int (Int32.ofNat J))]
          exact own_ireturn G0 d1_37 rfl (by decide) (by decide) ⟨by rw [hres], rfl⟩
  refine own_iconst G0 d1_0 ?_
  show ownGo _ _ _ _ _ _ _ T0 1 #[.val (.ref a1), .val (.int p2), .val (.int (Int32.ofNat F)), .val (.int (Int32.ofNat G)), .unset, .unset] [(.int (-1 : Int32))]
  refine own_istore G0 d1_1 (L' := #[.val (.ref a1), .val (.int p2), .val (.int (Int32.ofNat F)), .val (.int (Int32.ofNat G)), .val (.int (-1 : Int32)), .unset]) rfl ?_
  show ownGo _ _ _ _ _ _ _ T0 3 #[.val (.ref a1), .val (.int p2), .val (.int (Int32.ofNat F)), .val (.int (Int32.ofNat G)), .val (.int (-1 : Int32)), .unset] []
  refine own_iloadN G0 d1_3 rfl ?_
  show ownGo _ _ _ _ _ _ _ T0 4 #[.val (.ref a1), .val (.int p2), .val (.int (Int32.ofNat F)), .val (.int (Int32.ofNat G)), .val (.int (-1 : Int32)), .unset] [(.int (Int32.ofNat F))]
  refine own_istore G0 d1_4 (L' := #[.val (.ref a1), .val (.int p2), .val (.int (Int32.ofNat F)), .val (.int (Int32.ofNat G)), .val (.int (-1 : Int32)), .val (.int (Int32.ofNat F))]) rfl ?_
  show ownGo _ _ _ _ _ _ _ T0 6 #[.val (.ref a1), .val (.int p2), .val (.int (Int32.ofNat F)), .val (.int (Int32.ofNat G)), .val (.int (-1 : Int32)), .val (.int (Int32.ofNat F))] []
  exact loop (G - F) F hF rfl
theorem pn_rmR : plainFor (⟨"com/example/redrush/redrush/HttpHeadsIndexOfPinLaw", "ref", "([BBII)I"⟩ : MethodName) = true := plainFor_of_name (by first | (simp [plainName, overriddenIn]; done) | decide +kernel)
theorem ef_rmR (m : MethodId) (a1 : Addr) (p2 : Int32) (p3 : Int32) (p4 : Int32) : entryFrame m #[(.ref a1), (.int p2), (.int p3), (.int p4)] 4 = mkF m 0 #[.val (.ref a1), .val (.int p2), .val (.int p3), .val (.int p4)] [] := by first | (simp [entryFrame, mkF, argsToLocals, Value.category]; done) | rfl
set_option maxRecDepth 65536 in
set_option maxHeartbeats 40000000 in
theorem rmR (l : Launch) (Z : State) (a0 : Array Value) (hw : ∀ d ∈ tables_1, d.before a0 Z = true) (a1 : Addr) (p2 p3 p4 : Int32) (f : Nat → Int32) (F G : Nat) (h0 : Heap) (n0 : Nat) (Z0 : n0 ≤ h0.size) (A1 : ownArr Z h0 a1 .byte 4 (fun j => .int (f j))) (hF : F ≤ 4) (hG : G ≤ 4) (e3 : p3 = Int32.ofNat F) (e4 : p4 = Int32.ofNat G) :
    ownMet l [] (⟨"com/example/redrush/redrush/HttpHeadsIndexOfPinLaw", "ref", "([BBII)I"⟩ : MethodName) method_3_code 4 (some .int) ({ frames := 0, cells := 0, slots := 0, locals := 0 } : Room) Z n0 #[(.ref a1), (.int p2), (.int p3), (.int p4)] h0 (fun v h => v = some (.int (ownFind f p2 (G - F) F)) ∧ h0 = h) := by
  refine own_body (own := "com/example/redrush/redrush/HttpHeadsIndexOfPinLaw") (nm := "ref") pn_rmR (fun m => ef_rmR m a1 p2 p3 p4) rfl rfl ?_
  intro p e s m below meth c T0 G0
  show ownGo _ _ _ _ _ _ _ T0 0 #[.val (.ref a1), .val (.int p2), .val (.int p3), .val (.int p4)] []
  subst e3 e4
  show ownGo _ _ _ _ _ _ _ T0 0 #[.val (.ref a1), .val (.int p2), .val (.int (Int32.ofNat F)), .val (.int (Int32.ofNat G))] []
  have st4 : (∀ j, j < 4 → F ≤ j → j < G → ¬ f j = p2) → ownGo p e m below n0 (ownEnd s ({ frames := 0, cells := 0, slots := 0, locals := 0 } : Room)) (fun v h => v = some (.int (ownFind f p2 (G - F) F)) ∧ h0 = h) T0 75 #[.val (.ref a1), .val (.int p2), .val (.int (Int32.ofNat F)), .val (.int (Int32.ofNat G))] [] := by
    intro H
    show ownGo _ _ _ _ _ _ _ T0 75 #[.val (.ref a1), .val (.int p2), .val (.int (Int32.ofNat F)), .val (.int (Int32.ofNat G))] []
    refine own_iconst G0 d2_75 ?_
    show ownGo _ _ _ _ _ _ _ T0 76 #[.val (.ref a1), .val (.int p2), .val (.int (Int32.ofNat F)), .val (.int (Int32.ofNat G))] [(.int (-1 : Int32))]
    exact own_ireturn G0 d2_76 rfl (by decide) (by decide) ⟨by rw [own_miss (G - F) F fun j a b => H j (by omega) a (by omega)], rfl⟩
  have st3 : (∀ j, j < 3 → F ≤ j → j < G → ¬ f j = p2) → ownGo p e m below n0 (ownEnd s ({ frames := 0, cells := 0, slots := 0, locals := 0 } : Room)) (fun v h => v = some (.int (ownFind f p2 (G - F) F)) ∧ h0 = h) T0 56 #[.val (.ref a1), .val (.int p2), .val (.int (Int32.ofNat F)), .val (.int (Int32.ofNat G))] [] := by
    intro H
    show ownGo _ _ _ _ _ _ _ T0 56 #[.val (.ref a1), .val (.int p2), .val (.int (Int32.ofNat F)), .val (.int (Int32.ofNat G))] []
    refine own_iloadN G0 d2_56 rfl ?_
    show ownGo _ _ _ _ _ _ _ T0 57 #[.val (.ref a1), .val (.int p2), .val (.int (Int32.ofNat F)), .val (.int (Int32.ofNat G))] [(.int (Int32.ofNat F))]
    refine own_iconst G0 d2_57 ?_
    show ownGo _ _ _ _ _ _ _ T0 58 #[.val (.ref a1), .val (.int p2), .val (.int (Int32.ofNat F)), .val (.int (Int32.ofNat G))] [(.int (3 : Int32)), (.int (Int32.ofNat F))]
    refine own_icmp_gt G0 d2_58 (pc' := 75) (by decide) (by decide) (fun q1 => ?_) (fun q1 => ?_)
    · show ownGo _ _ _ _ _ _ _ T0 75 #[.val (.ref a1), .val (.int p2), .val (.int (Int32.ofNat F)), .val (.int (Int32.ofNat G))] []
      exact st4 fun j a b c => if q : j = 3 then by subst q; exact absurd ((own_ltN (i := 3) (by decide) (by omega)).mp q1) (by omega) else H j (by omega) b c
    · show ownGo _ _ _ _ _ _ _ T0 61 #[.val (.ref a1), .val (.int p2), .val (.int (Int32.ofNat F)), .val (.int (Int32.ofNat G))] []
      refine own_iconst G0 d2_61 ?_
      show ownGo _ _ _ _ _ _ _ T0 62 #[.val (.ref a1), .val (.int p2), .val (.int (Int32.ofNat F)), .val (.int (Int32.ofNat G))] [(.int (3 : Int32))]
      refine own_iloadN G0 d2_62 rfl ?_
      show ownGo _ _ _ _ _ _ _ T0 63 #[.val (.ref a1), .val (.int p2), .val (.int (Int32.ofNat F)), .val (.int (Int32.ofNat G))] [(.int (Int32.ofNat G)), (.int (3 : Int32))]
      refine own_icmp_ge G0 d2_63 (pc' := 75) (by decide) (by decide) (fun q2 => ?_) (fun q2 => ?_)
      · show ownGo _ _ _ _ _ _ _ T0 75 #[.val (.ref a1), .val (.int p2), .val (.int (Int32.ofNat F)), .val (.int (Int32.ofNat G))] []
        exact st4 fun j a b c => if q : j = 3 then by subst q; exact absurd ((own_ltN (i := 3) (by decide) (by omega)).mpr c) q2 else H j (by omega) b c
      · show ownGo _ _ _ _ _ _ _ T0 66 #[.val (.ref a1), .val (.int p2), .val (.int (Int32.ofNat F)), .val (.int (Int32.ofNat G))] []
        refine own_aloadN G0 d2_66 rfl rfl ?_
        show ownGo _ _ _ _ _ _ _ T0 67 #[.val (.ref a1), .val (.int p2), .val (.int (Int32.ofNat F)), .val (.int (Int32.ofNat G))] [(.ref a1)]
        refine own_iconst G0 d2_67 ?_
        show ownGo _ _ _ _ _ _ _ T0 68 #[.val (.ref a1), .val (.int p2), .val (.int (Int32.ofNat F)), .val (.int (Int32.ofNat G))] [(.int (3 : Int32)), (.ref a1)]
        refine own_baload G0 d2_68 (v := (.int (f 3))) A1 (i := 3) (by decide) rfl ?_
        show ownGo _ _ _ _ _ _ _ T0 69 #[.val (.ref a1), .val (.int p2), .val (.int (Int32.ofNat F)), .val (.int (Int32.ofNat G))] [(.int (f 3))]
        refine own_iloadN G0 d2_69 rfl ?_
        show ownGo _ _ _ _ _ _ _ T0 70 #[.val (.ref a1), .val (.int p2), .val (.int (Int32.ofNat F)), .val (.int (Int32.ofNat G))] [(.int p2), (.int (f 3))]
        refine own_icmp_ne G0 d2_70 (pc' := 75) (by decide) (by decide) (fun q3 => ?_) (fun q3 => ?_)
        · show ownGo _ _ _ _ _ _ _ T0 75 #[.val (.ref a1), .val (.int p2), .val (.int (Int32.ofNat F)), .val (.int (Int32.ofNat G))] []
          exact st4 fun j a b c => if q : j = 3 then by subst q; exact q3 else H j (by omega) b c
        · show ownGo _ _ _ _ _ _ _ T0 73 #[.val (.ref a1), .val (.int p2), .val (.int (Int32.ofNat F)), .val (.int (Int32.ofNat G))] []
          refine own_iconst G0 d2_73 ?_
          show ownGo _ _ _ _ _ _ _ T0 74 #[.val (.ref a1), .val (.int p2), .val (.int (Int32.ofNat F)), .val (.int (Int32.ofNat G))] [(.int (3 : Int32))]
          have q4 : F ≤ 3 := Nat.le_of_not_lt fun r => q1 ((own_ltN (i := 3) (by decide) (by omega)).mpr r)
          have q5 : 3 < G := (own_ltN (i := 3) (by decide) (by omega)).mp q2
          exact own_ireturn G0 d2_74 rfl (by decide) (by decide) ⟨by rw [own_hit (G - F) F 3 q4 (by omega) q3 fun j a b => H j b a (by omega)]; rfl, rfl⟩
  have st2 : (∀ j, j < 2 → F ≤ j → j < G → ¬ f j = p2) → ownGo p e m below n0 (ownEnd s ({ frames := 0, cells := 0, slots := 0, locals := 0 } : Room)) (fun v h => v = some (.int (ownFind f p2 (G - F) F)) ∧ h0 = h) T0 37 #[.val (.ref a1), .val (.int p2), .val (.int (Int32.ofNat F)), .val (.int (Int32.ofNat G))] [] := by
    intro H
    show ownGo _ _ _ _ _ _ _ T0 37 #[.val (.ref a1), .val (.int p2), .val (.int (Int32.ofNat F)), .val (.int (Int32.ofNat G))] []
    refine own_iloadN G0 d2_37 rfl ?_
    show ownGo _ _ _ _ _ _ _ T0 38 #[.val (.ref a1), .val (.int p2), .val (.int (Int32.ofNat F)), .val (.int (Int32.ofNat G))] [(.int (Int32.ofNat F))]
    refine own_iconst G0 d2_38 ?_
    show ownGo _ _ _ _ _ _ _ T0 39 #[.val (.ref a1), .val (.int p2), .val (.int (Int32.ofNat F)), .val (.int (Int32.ofNat G))] [(.int (2 : Int32)), (.int (Int32.ofNat F))]
    refine own_icmp_gt G0 d2_39 (pc' := 56) (by decide) (by decide) (fun q1 => ?_) (fun q1 => ?_)
    · show ownGo _ _ _ _ _ _ _ T0 56 #[.val (.ref a1), .val (.int p2), .val (.int (Int32.ofNat F)), .val (.int (Int32.ofNat G))] []
      exact st3 fun j a b c => if q : j = 2 then by subst q; exact absurd ((own_ltN (i := 2) (by decide) (by omega)).mp q1) (by omega) else H j (by omega) b c
    · show ownGo _ _ _ _ _ _ _ T0 42 #[.val (.ref a1), .val (.int p2), .val (.int (Int32.ofNat F)), .val (.int (Int32.ofNat G))] []
      refine own_iconst G0 d2_42 ?_
      show ownGo _ _ _ _ _ _ _ T0 43 #[.val (.ref a1), .val (.int p2), .val (.int (Int32.ofNat F)), .val (.int (Int32.ofNat G))] [(.int (2 : Int32))]
      refine own_iloadN G0 d2_43 rfl ?_
      show ownGo _ _ _ _ _ _ _ T0 44 #[.val (.ref a1), .val (.int p2), .val (.int (Int32.ofNat F)), .val (.int (Int32.ofNat G))] [(.int (Int32.ofNat G)), (.int (2 : Int32))]
      refine own_icmp_ge G0 d2_44 (pc' := 56) (by decide) (by decide) (fun q2 => ?_) (fun q2 => ?_)
      · show ownGo _ _ _ _ _ _ _ T0 56 #[.val (.ref a1), .val (.int p2), .val (.int (Int32.ofNat F)), .val (.int (Int32.ofNat G))] []
        exact st3 fun j a b c => if q : j = 2 then by subst q; exact absurd ((own_ltN (i := 2) (by decide) (by omega)).mpr c) q2 else H j (by omega) b c
      · show ownGo _ _ _ _ _ _ _ T0 47 #[.val (.ref a1), .val (.int p2), .val (.int (Int32.ofNat F)), .val (.int (Int32.ofNat G))] []
        refine own_aloadN G0 d2_47 rfl rfl ?_
        show ownGo _ _ _ _ _ _ _ T0 48 #[.val (.ref a1), .val (.int p2), .val (.int (Int32.ofNat F)), .val (.int (Int32.ofNat G))] [(.ref a1)]
        refine own_iconst G0 d2_48 ?_
        show ownGo _ _ _ _ _ _ _ T0 49 #[.val (.ref a1), .val (.int p2), .val (.int (Int32.ofNat F)), .val (.int (Int32.ofNat G))] [(.int (2 : Int32)), (.ref a1)]
        refine own_baload G0 d2_49 (v := (.int (f 2))) A1 (i := 2) (by decide) rfl ?_
        show ownGo _ _ _ _ _ _ _ T0 50 #[.val (.ref a1), .val (.int p2), .val (.int (Int32.ofNat F)), .val (.int (Int32.ofNat G))] [(.int (f 2))]
        refine own_iloadN G0 d2_50 rfl ?_
        show ownGo _ _ _ _ _ _ _ T0 51 #[.val (.ref a1), .val (.int p2), .val (.int (Int32.ofNat F)), .val (.int (Int32.ofNat G))] [(.int p2), (.int (f 2))]
        refine own_icmp_ne G0 d2_51 (pc' := 56) (by decide) (by decide) (fun q3 => ?_) (fun q3 => ?_)
        · show ownGo _ _ _ _ _ _ _ T0 56 #[.val (.ref a1), .val (.int p2), .val (.int (Int32.ofNat F)), .val (.int (Int32.ofNat G))] []
          exact st3 fun j a b c => if q : j = 2 then by subst q; exact q3 else H j (by omega) b c
        · show ownGo _ _ _ _ _ _ _ T0 54 #[.val (.ref a1), .val (.int p2), .val (.int (Int32.ofNat F)), .val (.int (Int32.ofNat G))] []
          refine own_iconst G0 d2_54 ?_
          show ownGo _ _ _ _ _ _ _ T0 55 #[.val (.ref a1), .val (.int p2), .val (.int (Int32.ofNat F)), .val (.int (Int32.ofNat G))] [(.int (2 : Int32))]
          have q4 : F ≤ 2 := Nat.le_of_not_lt fun r => q1 ((own_ltN (i := 2) (by decide) (by omega)).mpr r)
          have q5 : 2 < G := (own_ltN (i := 2) (by decide) (by omega)).mp q2
          exact own_ireturn G0 d2_55 rfl (by decide) (by decide) ⟨by rw [own_hit (G - F) F 2 q4 (by omega) q3 fun j a b => H j b a (by omega)]; rfl, rfl⟩
  have st1 : (∀ j, j < 1 → F ≤ j → j < G → ¬ f j = p2) → ownGo p e m below n0 (ownEnd s ({ frames := 0, cells := 0, slots := 0, locals := 0 } : Room)) (fun v h => v = some (.int (ownFind f p2 (G - F) F)) ∧ h0 = h) T0 18 #[.val (.ref a1), .val (.int p2), .val (.int (Int32.ofNat F)), .val (.int (Int32.ofNat G))] [] := by
    intro H
    show ownGo _ _ _ _ _ _ _ T0 18 #[.val (.ref a1), .val (.int p2), .val (.int (Int32.ofNat F)), .val (.int (Int32.ofNat G))] []
    refine own_iloadN G0 d2_18 rfl ?_
    show ownGo _ _ _ _ _ _ _ T0 19 #[.val (.ref a1), .val (.int p2), .val (.int (Int32.ofNat F)), .val (.int (Int32.ofNat G))] [(.int (Int32.ofNat F))]
    refine own_iconst G0 d2_19 ?_
    show ownGo _ _ _ _ _ _ _ T0 20 #[.val (.ref a1), .val (.int p2), .val (.int (Int32.ofNat F)), .val (.int (Int32.ofNat G))] [(.int (1 : Int32)), (.int (Int32.ofNat F))]
    refine own_icmp_gt G0 d2_20 (pc' := 37) (by decide) (by decide) (fun q1 => ?_) (fun q1 => ?_)
    · show ownGo _ _ _ _ _ _ _ T0 37 #[.val (.ref a1), .val (.int p2), .val (.int (Int32.ofNat F)), .val (.int (Int32.ofNat G))] []
      exact st2 fun j a b c => if q : j = 1 then by subst q; exact absurd ((own_ltN (i := 1) (by decide) (by omega)).mp q1) (by omega) else H j (by omega) b c
    · show ownGo _ _ _ _ _ _ _ T0 23 #[.val (.ref a1), .val (.int p2), .val (.int (Int32.ofNat F)), .val (.int (Int32.ofNat G))] []
      refine own_iconst G0 d2_23 ?_
      show ownGo _ _ _ _ _ _ _ T0 24 #[.val (.ref a1), .val (.int p2), .val (.int (Int32.ofNat F)), .val (.int (Int32.ofNat G))] [(.int (1 : Int32))]
      refine own_iloadN G0 d2_24 rfl ?_
      show ownGo _ _ _ _ _ _ _ T0 25 #[.val (.ref a1), .val (.int p2), .val (.int (Int32.ofNat F)), .val (.int (Int32.ofNat G))] [(.int (Int32.ofNat G)), (.int (1 : Int32))]
      refine own_icmp_ge G0 d2_25 (pc' := 37) (by decide) (by decide) (fun q2 => ?_) (fun q2 => ?_)
      · show ownGo _ _ _ _ _ _ _ T0 37 #[.val (.ref a1), .val (.int p2), .val (.int (Int32.ofNat F)), .val (.int (Int32.ofNat G))] []
        exact st2 fun j a b c => if q : j = 1 then by subst q; exact absurd ((own_ltN (i := 1) (by decide) (by omega)).mpr c) q2 else H j (by omega) b c
      · show ownGo _ _ _ _ _ _ _ T0 28 #[.val (.ref a1), .val (.int p2), .val (.int (Int32.ofNat F)), .val (.int (Int32.ofNat G))] []
        refine own_aloadN G0 d2_28 rfl rfl ?_
        show ownGo _ _ _ _ _ _ _ T0 29 #[.val (.ref a1), .val (.int p2), .val (.int (Int32.ofNat F)), .val (.int (Int32.ofNat G))] [(.ref a1)]
        refine own_iconst G0 d2_29 ?_
        show ownGo _ _ _ _ _ _ _ T0 30 #[.val (.ref a1), .val (.int p2), .val (.int (Int32.ofNat F)), .val (.int (Int32.ofNat G))] [(.int (1 : Int32)), (.ref a1)]
        refine own_baload G0 d2_30 (v := (.int (f 1))) A1 (i := 1) (by decide) rfl ?_
        show ownGo _ _ _ _ _ _ _ T0 31 #[.val (.ref a1), .val (.int p2), .val (.int (Int32.ofNat F)), .val (.int (Int32.ofNat G))] [(.int (f 1))]
        refine own_iloadN G0 d2_31 rfl ?_
        show ownGo _ _ _ _ _ _ _ T0 32 #[.val (.ref a1), .val (.int p2), .val (.int (Int32.ofNat F)), .val (.int (Int32.ofNat G))] [(.int p2), (.int (f 1))]
        refine own_icmp_ne G0 d2_32 (pc' := 37) (by decide) (by decide) (fun q3 => ?_) (fun q3 => ?_)
        · show ownGo _ _ _ _ _ _ _ T0 37 #[.val (.ref a1), .val (.int p2), .val (.int (Int32.ofNat F)), .val (.int (Int32.ofNat G))] []
          exact st2 fun j a b c => if q : j = 1 then by subst q; exact q3 else H j (by omega) b c
        · show ownGo _ _ _ _ _ _ _ T0 35 #[.val (.ref a1), .val (.int p2), .val (.int (Int32.ofNat F)), .val (.int (Int32.ofNat G))] []
          refine own_iconst G0 d2_35 ?_
          show ownGo _ _ _ _ _ _ _ T0 36 #[.val (.ref a1), .val (.int p2), .val (.int (Int32.ofNat F)), .val (.int (Int32.ofNat G))] [(.int (1 : Int32))]
          have q4 : F ≤ 1 := Nat.le_of_not_lt fun r => q1 ((own_ltN (i := 1) (by decide) (by omega)).mpr r)
          have q5 : 1 < G := (own_ltN (i := 1) (by decide) (by omega)).mp q2
          exact own_ireturn G0 d2_36 rfl (by decide) (by decide) ⟨by rw [own_hit (G - F) F 1 q4 (by omega) q3 fun j a b => H j b a (by omega)]; rfl, rfl⟩
  have st0 : (∀ j, j < 0 → F ≤ j → j < G → ¬ f j = p2) → ownGo p e m below n0 (ownEnd s ({ frames := 0, cells := 0, slots := 0, locals := 0 } : Room)) (fun v h => v = some (.int (ownFind f p2 (G - F) F)) ∧ h0 = h) T0 0 #[.val (.ref a1), .val (.int p2), .val (.int (Int32.ofNat F)), .val (.int (Int32.ofNat G))] [] := by
    intro H
    show ownGo _ _ _ _ _ _ _ T0 0 #[.val (.ref a1), .val (.int p2), .val (.int (Int32.ofNat F)), .val (.int (Int32.ofNat G))] []
    refine own_iloadN G0 d2_0 rfl ?_
    show ownGo _ _ _ _ _ _ _ T0 1 #[.val (.ref a1), .val (.int p2), .val (.int (Int32.ofNat F)), .val (.int (Int32.ofNat G))] [(.int (Int32.ofNat F))]
    refine own_if_gt G0 d2_1 (pc' := 18) (by decide) (by decide) (fun q1 => ?_) (fun q1 => ?_)
    · show ownGo _ _ _ _ _ _ _ T0 18 #[.val (.ref a1), .val (.int p2), .val (.int (Int32.ofNat F)), .val (.int (Int32.ofNat G))] []
      exact st1 fun j a b c => if q : j = 0 then by subst q; exact absurd ((own_ltN (i := 0) (by decide) (by omega)).mp q1) (by omega) else H j (by omega) b c
    · show ownGo _ _ _ _ _ _ _ T0 4 #[.val (.ref a1), .val (.int p2), .val (.int (Int32.ofNat F)), .val (.int (Int32.ofNat G))] []
      refine own_iconst G0 d2_4 ?_
      show ownGo _ _ _ _ _ _ _ T0 5 #[.val (.ref a1), .val (.int p2), .val (.int (Int32.ofNat F)), .val (.int (Int32.ofNat G))] [(.int (0 : Int32))]
      refine own_iloadN G0 d2_5 rfl ?_
      show ownGo _ _ _ _ _ _ _ T0 6 #[.val (.ref a1), .val (.int p2), .val (.int (Int32.ofNat F)), .val (.int (Int32.ofNat G))] [(.int (Int32.ofNat G)), (.int (0 : Int32))]
      refine own_icmp_ge G0 d2_6 (pc' := 18) (by decide) (by decide) (fun q2 => ?_) (fun q2 => ?_)
      · show ownGo _ _ _ _ _ _ _ T0 18 #[.val (.ref a1), .val (.int p2), .val (.int (Int32.ofNat F)), .val (.int (Int32.ofNat G))] []
        exact st1 fun j a b c => if q : j = 0 then by subst q; exact absurd ((own_ltN (i := 0) (by decide) (by omega)).mpr c) q2 else H j (by omega) b c
      · show ownGo _ _ _ _ _ _ _ T0 9 #[.val (.ref a1), .val (.int p2), .val (.int (Int32.ofNat F)), .val (.int (Int32.ofNat G))] []
        refine own_aloadN G0 d2_9 rfl rfl ?_
        show ownGo _ _ _ _ _ _ _ T0 10 #[.val (.ref a1), .val (.int p2), .val (.int (Int32.ofNat F)), .val (.int (Int32.ofNat G))] [(.ref a1)]
        refine own_iconst G0 d2_10 ?_
        show ownGo _ _ _ _ _ _ _ T0 11 #[.val (.ref a1), .val (.int p2), .val (.int (Int32.ofNat F)), .val (.int (Int32.ofNat G))] [(.int (0 : Int32)), (.ref a1)]
        refine own_baload G0 d2_11 (v := (.int (f 0))) A1 (i := 0) (by decide) rfl ?_
        show ownGo _ _ _ _ _ _ _ T0 12 #[.val (.ref a1), .val (.int p2), .val (.int (Int32.ofNat F)), .val (.int (Int32.ofNat G))] [(.int (f 0))]
        refine own_iloadN G0 d2_12 rfl ?_
        show ownGo _ _ _ _ _ _ _ T0 13 #[.val (.ref a1), .val (.int p2), .val (.int (Int32.ofNat F)), .val (.int (Int32.ofNat G))] [(.int p2), (.int (f 0))]
        refine own_icmp_ne G0 d2_13 (pc' := 18) (by decide) (by decide) (fun q3 => ?_) (fun q3 => ?_)
        · show ownGo _ _ _ _ _ _ _ T0 18 #[.val (.ref a1), .val (.int p2), .val (.int (Int32.ofNat F)), .val (.int (Int32.ofNat G))] []
          exact st1 fun j a b c => if q : j = 0 then by subst q; exact q3 else H j (by omega) b c
        · show ownGo _ _ _ _ _ _ _ T0 16 #[.val (.ref a1), .val (.int p2), .val (.int (Int32.ofNat F)), .val (.int (Int32.ofNat G))] []
          refine own_iconst G0 d2_16 ?_
          show ownGo _ _ _ _ _ _ _ T0 17 #[.val (.ref a1), .val (.int p2), .val (.int (Int32.ofNat F)), .val (.int (Int32.ofNat G))] [(.int (0 : Int32))]
          have q4 : F ≤ 0 := Nat.le_of_not_lt fun r => q1 ((own_ltN (i := 0) (by decide) (by omega)).mpr r)
          have q5 : 0 < G := (own_ltN (i := 0) (by decide) (by omega)).mp q2
          exact own_ireturn G0 d2_17 rfl (by decide) (by decide) ⟨by rw [own_hit (G - F) F 0 q4 (by omega) q3 fun j a b => H j b a (by omega)]; rfl, rfl⟩
  exact st0 fun j a => absurd a (Nat.not_lt_zero j)
theorem pn_rm0 : plainFor (⟨"com/example/redrush/redrush/HttpHeadsIndexOfPinLaw", "law", "(III)Z"⟩ : MethodName) = true := plainFor_of_name (by first | (simp [plainName, overriddenIn]; done) | decide +kernel)
theorem ef_rm0 (m : MethodId) (p1 : Int32) (p2 : Int32) (p3 : Int32) : entryFrame m #[(.int p1), (.int p2), (.int p3)] maxLocals = mkF m 0 #[.val (.int p1), .val (.int p2), .val (.int p3), .unset, .unset, .unset, .unset] [] := by first | (simp [entryFrame, mkF, argsToLocals, Value.category, maxLocals]; done) | rfl
set_option maxRecDepth 65536 in
set_option maxHeartbeats 40000000 in
theorem rm0 (l : Launch) (Z : State) (a0 : Array Value) (hw : ∀ d ∈ tables_1, d.before a0 Z = true) (p1 p2 p3 : Int32) (h0 : Heap) (n0 : Nat) (Z0 : n0 ≤ h0.size) :
    ownMet l tables_1 x code maxLocals ret room_1 Z n0 #[(.int p1), (.int p2), (.int p3)] h0 (fun v h => v = some (.int 1)) := by
  refine own_body (own := "com/example/redrush/redrush/HttpHeadsIndexOfPinLaw") (nm := "law") pn_rm0 (fun m => ef_rm0 m p1 p2 p3) rfl rfl ?_
  intro p e s m below meth c T0 G0
  show ownGo _ _ _ _ _ _ _ T0 0 #[.val (.int p1), .val (.int p2), .val (.int p3), .unset, .unset, .unset, .unset] []
  refine own_iconst G0 at_0 ?_
  show ownGo _ _ _ _ _ _ _ T0 1 #[.val (.int p1), .val (.int p2), .val (.int p3), .unset, .unset, .unset, .unset] [(.int (4 : Int32))]
  refine own_newarr G0 at_1 (hw _ (List.mem_of_getElem? (i := 0) rfl)) (by decide) (k := 4) (cap := 4) (by decide) (by decide) (by decide) (by decide) (by decide) ?_
  intro T1 h1 b1 g1 E1 A1 G1
  replace A1 : ownArr Z h1 b1 .byte 4 (fun _ => .int 0) := A1
  show ownGo _ _ _ _ _ _ _ T1 3 #[.val (.int p1), .val (.int p2), .val (.int p3), .unset, .unset, .unset, .unset] [(.ref b1)]
  have fr : n0 ≤ b1 := Nat.le_trans Z0 (Nat.le_of_eq g1.symm)
  have Y : n0 ≤ h1.size := Nat.le_trans Z0 E1.1
  refine own_astoreN G1 at_3 (L' := #[.val (.int p1), .val (.int p2), .val (.int p3), .val (.ref b1), .unset, .unset, .unset]) rfl rfl ?_
  show ownGo _ _ _ _ _ _ _ T1 4 #[.val (.int p1), .val (.int p2), .val (.int p3), .val (.ref b1), .unset, .unset, .unset] []
  refine own_aloadN G1 at_4 rfl rfl ?_
  show ownGo _ _ _ _ _ _ _ T1 5 #[.val (.int p1), .val (.int p2), .val (.int p3), .val (.ref b1), .unset, .unset, .unset] [(.ref b1)]
  refine own_iconst G1 at_5 ?_
  show ownGo _ _ _ _ _ _ _ T1 6 #[.val (.int p1), .val (.int p2), .val (.int p3), .val (.ref b1), .unset, .unset, .unset] [(.int (0 : Int32)), (.ref b1)]
  refine own_iloadN G1 at_6 rfl ?_
  show ownGo _ _ _ _ _ _ _ T1 7 #[.val (.int p1), .val (.int p2), .val (.int p3), .val (.ref b1), .unset, .unset, .unset] [(.int p1), (.int (0 : Int32)), (.ref b1)]
  refine own_i2b G1 at_7 ?_
  show ownGo _ _ _ _ _ _ _ T1 8 #[.val (.int p1), .val (.int p2), .val (.int p3), .val (.ref b1), .unset, .unset, .unset] [(.int (p1.toInt8.toInt32)), (.int (0 : Int32)), (.ref b1)]
  refine own_bastore G1 at_8 A1 (i := 0) (by decide) fr ?_
  intro T2 h2 W2 G2
  show ownGo _ _ _ _ _ _ _ T2 9 #[.val (.int p1), .val (.int p2), .val (.int p3), .val (.ref b1), .unset, .unset, .unset] []
  replace A1 := A1.same W2
  replace Y : n0 ≤ h2.size := by rw [W2.size]; exact Y
  refine own_aloadN G2 at_9 rfl rfl ?_
  show ownGo _ _ _ _ _ _ _ T2 10 #[.val (.int p1), .val (.int p2), .val (.int p3), .val (.ref b1), .unset, .unset, .unset] [(.ref b1)]
  refine own_iconst G2 at_10 ?_
  show ownGo _ _ _ _ _ _ _ T2 11 #[.val (.int p1), .val (.int p2), .val (.int p3), .val (.ref b1), .unset, .unset, .unset] [(.int (1 : Int32)), (.ref b1)]
  refine own_iloadN G2 at_11 rfl ?_
  show ownGo _ _ _ _ _ _ _ T2 12 #[.val (.int p1), .val (.int p2), .val (.int p3), .val (.ref b1), .unset, .unset, .unset] [(.int p1), (.int (1 : Int32)), (.ref b1)]
  refine own_bipush G2 at_12 ?_
  show ownGo _ _ _ _ _ _ _ T2 14 #[.val (.int p1), .val (.int p2), .val (.int p3), .val (.ref b1), .unset, .unset, .unset] [(.int (8 : Int32)), (.int p1), (.int (1 : Int32)), (.ref b1)]
  refine own_ishr G2 at_14 ?_
  show ownGo _ _ _ _ _ _ _ T2 15 #[.val (.int p1), .val (.int p2), .val (.int p3), .val (.ref b1), .unset, .unset, .unset] [(.int (p1 >>> ((8 : Int32) &&& 31))), (.int (1 : Int32)), (.ref b1)]
  refine own_i2b G2 at_15 ?_
  show ownGo _ _ _ _ _ _ _ T2 16 #[.val (.int p1), .val (.int p2), .val (.int p3), .val (.ref b1), .unset, .unset, .unset] [(.int ((p1 >>> ((8 : Int32) &&& 31)).toInt8.toInt32)), (.int (1 : Int32)), (.ref b1)]
  refine own_bastore G2 at_16 A1 (i := 1) (by decide) fr ?_
  intro T3 h3 W3 G3
  show ownGo _ _ _ _ _ _ _ T3 17 #[.val (.int p1), .val (.int p2), .val (.int p3), .val (.ref b1), .unset, .unset, .unset] []
  replace A1 := A1.same W3
  replace Y : n0 ≤ h3.size := by rw [W3.size]; exact Y
  refine own_aloadN G3 at_17 rfl rfl ?_
  show ownGo _ _ _ _ _ _ _ T3 18 #[.val (.int p1), .val (.int p2), .val (.int p3), .val (.ref b1), .unset, .unset, .unset] [(.ref b1)]
  refine own_iconst G3 at_18 ?_
  show ownGo _ _ _ _ _ _ _ T3 19 #[.val (.int p1), .val (.int p2), .val (.int p3), .val (.ref b1), .unset, .unset, .unset] [(.int (2 : Int32)), (.ref b1)]
  refine own_iloadN G3 at_19 rfl ?_
  show ownGo _ _ _ _ _ _ _ T3 20 #[.val (.int p1), .val (.int p2), .val (.int p3), .val (.ref b1), .unset, .unset, .unset] [(.int p1), (.int (2 : Int32)), (.ref b1)]
  refine own_bipush G3 at_20 ?_
  show ownGo _ _ _ _ _ _ _ T3 22 #[.val (.int p1), .val (.int p2), .val (.int p3), .val (.ref b1), .unset, .unset, .unset] [(.int (16 : Int32)), (.int p1), (.int (2 : Int32)), (.ref b1)]
  refine own_ishr G3 at_22 ?_
  show ownGo _ _ _ _ _ _ _ T3 23 #[.val (.int p1), .val (.int p2), .val (.int p3), .val (.ref b1), .unset, .unset, .unset] [(.int (p1 >>> ((16 : Int32) &&& 31))), (.int (2 : Int32)), (.ref b1)]
  refine own_i2b G3 at_23 ?_
  show ownGo _ _ _ _ _ _ _ T3 24 #[.val (.int p1), .val (.int p2), .val (.int p3), .val (.ref b1), .unset, .unset, .unset] [(.int ((p1 >>> ((16 : Int32) &&& 31)).toInt8.toInt32)), (.int (2 : Int32)), (.ref b1)]
  refine own_bastore G3 at_24 A1 (i := 2) (by decide) fr ?_
  intro T4 h4 W4 G4
  show ownGo _ _ _ _ _ _ _ T4 25 #[.val (.int p1), .val (.int p2), .val (.int p3), .val (.ref b1), .unset, .unset, .unset] []
  replace A1 := A1.same W4
  replace Y : n0 ≤ h4.size := by rw [W4.size]; exact Y
  refine own_aloadN G4 at_25 rfl rfl ?_
  show ownGo _ _ _ _ _ _ _ T4 26 #[.val (.int p1), .val (.int p2), .val (.int p3), .val (.ref b1), .unset, .unset, .unset] [(.ref b1)]
  refine own_iconst G4 at_26 ?_
  show ownGo _ _ _ _ _ _ _ T4 27 #[.val (.int p1), .val (.int p2), .val (.int p3), .val (.ref b1), .unset, .unset, .unset] [(.int (3 : Int32)), (.ref b1)]
  refine own_iloadN G4 at_27 rfl ?_
  show ownGo _ _ _ _ _ _ _ T4 28 #[.val (.int p1), .val (.int p2), .val (.int p3), .val (.ref b1), .unset, .unset, .unset] [(.int p1), (.int (3 : Int32)), (.ref b1)]
  refine own_bipush G4 at_28 ?_
  show ownGo _ _ _ _ _ _ _ T4 30 #[.val (.int p1), .val (.int p2), .val (.int p3), .val (.ref b1), .unset, .unset, .unset] [(.int (24 : Int32)), (.int p1), (.int (3 : Int32)), (.ref b1)]
  refine own_ishr G4 at_30 ?_
  show ownGo _ _ _ _ _ _ _ T4 31 #[.val (.int p1), .val (.int p2), .val (.int p3), .val (.ref b1), .unset, .unset, .unset] [(.int (p1 >>> ((24 : Int32) &&& 31))), (.int (3 : Int32)), (.ref b1)]
  refine own_i2b G4 at_31 ?_
  show ownGo _ _ _ _ _ _ _ T4 32 #[.val (.int p1), .val (.int p2), .val (.int p3), .val (.ref b1), .unset, .unset, .unset] [(.int ((p1 >>> ((24 : Int32) &&& 31)).toInt8.toInt32)), (.int (3 : Int32)), (.ref b1)]
  refine own_bastore G4 at_32 A1 (i := 3) (by decide) fr ?_
  intro T5 h5 W5 G5
  show ownGo _ _ _ _ _ _ _ T5 33 #[.val (.int p1), .val (.int p2), .val (.int p3), .val (.ref b1), .unset, .unset, .unset] []
  replace A1 := A1.same W5
  replace Y : n0 ≤ h5.size := by rw [W5.size]; exact Y
  replace A1 : ownArr Z h5 b1 .byte 4 (fun j => .int (ownX p1 j)) := A1.congr fun j hj => by
    rcases j with _ | _ | _ | _ | j
    · rfl
    · rfl
    · rfl
    · rfl
    · omega
  refine own_iloadN G5 at_33 rfl ?_
  show ownGo _ _ _ _ _ _ _ T5 34 #[.val (.int p1), .val (.int p2), .val (.int p3), .val (.ref b1), .unset, .unset, .unset] [(.int p2)]
  refine own_iconst G5 at_34 ?_
  show ownGo _ _ _ _ _ _ _ T5 35 #[.val (.int p1), .val (.int p2), .val (.int p3), .val (.ref b1), .unset, .unset, .unset] [(.int (4 : Int32)), (.int p2)]
  refine own_iand G5 at_35 ?_
  show ownGo _ _ _ _ _ _ _ T5 36 #[.val (.int p1), .val (.int p2), .val (.int p3), .val (.ref b1), .unset, .unset, .unset] [(.int (p2 &&& (4 : Int32)))]
  have j56 : ∀ bb : Int32, ownGo p e m below n0 (ownEnd s room_1) (fun v h => v = some (.int 1)) T5 56 #[.val (.int p1), .val (.int p2), .val (.int p3), .val (.ref b1), .val (.int bb), .unset, .unset] [] := by
    intro bb
    show ownGo _ _ _ _ _ _ _ T5 56 #[.val (.int p1), .val (.int p2), .val (.int p3), .val (.ref b1), .val (.int bb), .unset, .unset] []
    refine own_iloadN G5 at_56 rfl ?_
    show ownGo _ _ _ _ _ _ _ T5 57 #[.val (.int p1), .val (.int p2), .val (.int p3), .val (.ref b1), .val (.int bb), .unset, .unset] [(.int p3)]
    refine own_ldcInt G5 at_57 (hw _ (List.mem_of_getElem? (i := 1) rfl)) ?_
    show ownGo _ _ _ _ _ _ _ T5 59 #[.val (.int p1), .val (.int p2), .val (.int p3), .val (.ref b1), .val (.int bb), .unset, .unset] [(.int (2147483647 : Int32)), (.int p3)]
    refine own_iand G5 at_59 ?_
    show ownGo _ _ _ _ _ _ _ T5 60 #[.val (.int p1), .val (.int p2), .val (.int p3), .val (.ref b1), .val (.int bb), .unset, .unset] [(.int (p3 &&& (2147483647 : Int32)))]
    refine own_iconst G5 at_60 ?_
    show ownGo _ _ _ _ _ _ _ T5 61 #[.val (.int p1), .val (.int p2), .val (.int p3), .val (.ref b1), .val (.int bb), .unset, .unset] [(.int (5 : Int32)), (.int (p3 &&& (2147483647 : Int32)))]
    refine own_irem G5 at_61 (by decide) ?_
    show ownGo _ _ _ _ _ _ _ T5 62 #[.val (.int p1), .val (.int p2), .val (.int p3), .val (.ref b1), .val (.int bb), .unset, .unset] [(.int ((p3 &&& (2147483647 : Int32)) % (5 : Int32)))]
    obtain ⟨F, hF, eF⟩ := own_rem5 p3
    rw [eF]
    show ownGo _ _ _ _ _ _ _ T5 62 #[.val (.int p1), .val (.int p2), .val (.int p3), .val (.ref b1), .val (.int bb), .unset, .unset] [(.int (Int32.ofNat F))]
    refine own_istore G5 at_62 (L' := #[.val (.int p1), .val (.int p2), .val (.int p3), .val (.ref b1), .val (.int bb), .val (.int (Int32.ofNat F)), .unset]) rfl ?_
    show ownGo _ _ _ _ _ _ _ T5 64 #[.val (.int p1), .val (.int p2), .val (.int p3), .val (.ref b1), .val (.int bb), .val (.int (Int32.ofNat F)), .unset] []
    refine own_iloadN G5 at_64 rfl ?_
    show ownGo _ _ _ _ _ _ _ T5 65 #[.val (.int p1), .val (.int p2), .val (.int p3), .val (.ref b1), .val (.int bb), .val (.int (Int32.ofNat F)), .unset] [(.int p3)]
    refine own_bipush G5 at_65 ?_
    show ownGo _ _ _ _ _ _ _ T5 67 #[.val (.int p1), .val (.int p2), .val (.int p3), .val (.ref b1), .val (.int bb), .val (.int (Int32.ofNat F)), .unset] [(.int (8 : Int32)), (.int p3)]
    refine own_iushr G5 at_67 ?_
    show ownGo _ _ _ _ _ _ _ T5 68 #[.val (.int p1), .val (.int p2), .val (.int p3), .val (.ref b1), .val (.int bb), .val (.int (Int32.ofNat F)), .unset] [(.int ((p3.toUInt32 >>> ((8 : Int32) &&& 31).toUInt32).toInt32))]
    refine own_ldcInt G5 at_68 (hw _ (List.mem_of_getElem? (i := 1) rfl)) ?_
    show ownGo _ _ _ _ _ _ _ T5 70 #[.val (.int p1), .val (.int p2), .val (.int p3), .val (.ref b1), .val (.int bb), .val (.int (Int32.ofNat F)), .unset] [(.int (2147483647 : Int32)), (.int ((p3.toUInt32 >>> ((8 : Int32) &&& 31).toUInt32).toInt32))]
    refine own_iand G5 at_70 ?_
    show ownGo _ _ _ _ _ _ _ T5 71 #[.val (.int p1), .val (.int p2), .val (.int p3), .val (.ref b1), .val (.int bb), .val (.int (Int32.ofNat F)), .unset] [(.int (((p3.toUInt32 >>> ((8 : Int32) &&& 31).toUInt32).toInt32) &&& (2147483647 : Int32)))]
    refine own_iconst G5 at_71 ?_
    show ownGo _ _ _ _ _ _ _ T5 72 #[.val (.int p1), .val (.int p2), .val (.int p3), .val (.ref b1), .val (.int bb), .val (.int (Int32.ofNat F)), .unset] [(.int (5 : Int32)), (.int (((p3.toUInt32 >>> ((8 : Int32) &&& 31).toUInt32).toInt32) &&& (2147483647 : Int32)))]
    refine own_irem G5 at_72 (by decide) ?_
    show ownGo _ _ _ _ _ _ _ T5 73 #[.val (.int p1), .val (.int p2), .val (.int p3), .val (.ref b1), .val (.int bb), .val (.int (Int32.ofNat F)), .unset] [(.int ((((p3.toUInt32 >>> ((8 : Int32) &&& 31).toUInt32).toInt32) &&& (2147483647 : Int32)) % (5 : Int32)))]
    obtain ⟨G, hG, eG⟩ := own_rem5 ((p3.toUInt32 >>> ((8 : Int32) &&& 31).toUInt32).toInt32)
    rw [eG]
    show ownGo _ _ _ _ _ _ _ T5 73 #[.val (.int p1), .val (.int p2), .val (.int p3), .val (.ref b1), .val (.int bb), .val (.int (Int32.ofNat F)), .unset] [(.int (Int32.ofNat G))]
    refine own_istore G5 at_73 (L' := #[.val (.int p1), .val (.int p2), .val (.int p3), .val (.ref b1), .val (.int bb), .val (.int (Int32.ofNat F)), .val (.int (Int32.ofNat G))]) rfl ?_
    show ownGo _ _ _ _ _ _ _ T5 75 #[.val (.int p1), .val (.int p2), .val (.int p3), .val (.ref b1), .val (.int bb), .val (.int (Int32.ofNat F)), .val (.int (Int32.ofNat G))] []
    refine own_aloadN G5 at_75 rfl rfl ?_
    show ownGo _ _ _ _ _ _ _ T5 76 #[.val (.int p1), .val (.int p2), .val (.int p3), .val (.ref b1), .val (.int bb), .val (.int (Int32.ofNat F)), .val (.int (Int32.ofNat G))] [(.ref b1)]
    refine own_iload G5 at_76 rfl ?_
    show ownGo _ _ _ _ _ _ _ T5 78 #[.val (.int p1), .val (.int p2), .val (.int p3), .val (.ref b1), .val (.int bb), .val (.int (Int32.ofNat F)), .val (.int (Int32.ofNat G))] [(.int bb), (.ref b1)]
    refine own_iload G5 at_78 rfl ?_
    show ownGo _ _ _ _ _ _ _ T5 80 #[.val (.int p1), .val (.int p2), .val (.int p3), .val (.ref b1), .val (.int bb), .val (.int (Int32.ofNat F)), .val (.int (Int32.ofNat G))] [(.int (Int32.ofNat F)), (.int bb), (.ref b1)]
    refine own_iload G5 at_80 rfl ?_
    show ownGo _ _ _ _ _ _ _ T5 82 #[.val (.int p1), .val (.int p2), .val (.int p3), .val (.ref b1), .val (.int bb), .val (.int (Int32.ofNat F)), .val (.int (Int32.ofNat G))] [(.int (Int32.ofNat G)), (.int (Int32.ofNat F)), (.int bb), (.ref b1)]
    refine own_callS G5 at_82 (y := (⟨"com/example/redrush/redrush/HttpHeads", "indexOf", "([BBII)I"⟩ : MethodName)) (hw _ (List.mem_of_getElem? (i := 2) rfl)) (hw _ (List.mem_of_getElem? (i := 3) rfl)) (hw _ (List.mem_of_getElem? (i := 4) rfl)) (hw _ (List.mem_of_getElem? (i := 5) rfl)) (by decide) (argsL := [(.ref b1), (.int bb), (.int (Int32.ofNat F)), (.int (Int32.ofNat G))]) (rest := []) (rmI l Z a0 hw b1 bb _ _ (ownX p1) F G h5 n0 Y A1 hF hG rfl rfl) rfl rfl rfl (lenOf pd_0 rfl) (W := 0) (Nat.le_of_eq rfl) (by decide) (by decide) (by decide) (by decide) ?_
    intro v6 T6 h6 hq6 G6
    obtain ⟨rfl, rfl⟩ := hq6
    show ownGo _ _ _ _ _ _ _ T6 85 #[.val (.int p1), .val (.int p2), .val (.int p3), .val (.ref b1), .val (.int bb), .val (.int (Int32.ofNat F)), .val (.int (Int32.ofNat G))] [(.int (ownFind (ownX p1) bb (G - F) F))]
    refine own_aloadN G6 at_85 rfl rfl ?_
    show ownGo _ _ _ _ _ _ _ T6 86 #[.val (.int p1), .val (.int p2), .val (.int p3), .val (.ref b1), .val (.int bb), .val (.int (Int32.ofNat F)), .val (.int (Int32.ofNat G))] [(.ref b1), (.int (ownFind (ownX p1) bb (G - F) F))]
    refine own_iload G6 at_86 rfl ?_
    show ownGo _ _ _ _ _ _ _ T6 88 #[.val (.int p1), .val (.int p2), .val (.int p3), .val (.ref b1), .val (.int bb), .val (.int (Int32.ofNat F)), .val (.int (Int32.ofNat G))] [(.int bb), (.ref b1), (.int (ownFind (ownX p1) bb (G - F) F))]
    refine own_iload G6 at_88 rfl ?_
    show ownGo _ _ _ _ _ _ _ T6 90 #[.val (.int p1), .val (.int p2), .val (.int p3), .val (.ref b1), .val (.int bb), .val (.int (Int32.ofNat F)), .val (.int (Int32.ofNat G))] [(.int (Int32.ofNat F)), (.int bb), (.ref b1), (.int (ownFind (ownX p1) bb (G - F) F))]
    refine own_iload G6 at_90 rfl ?_
    show ownGo _ _ _ _ _ _ _ T6 92 #[.val (.int p1), .val (.int p2), .val (.int p3), .val (.ref b1), .val (.int bb), .val (.int (Int32.ofNat F)), .val (.int (Int32.ofNat G))] [(.int (Int32.ofNat G)), (.int (Int32.ofNat F)), (.int bb), (.ref b1), (.int (ownFind (ownX p1) bb (G - F) F))]
    refine own_callS G6 at_92 (y := (⟨"com/example/redrush/redrush/HttpHeadsIndexOfPinLaw", "ref", "([BBII)I"⟩ : MethodName)) (hw _ (List.mem_of_getElem? (i := 6) rfl)) (hw _ (List.mem_of_getElem? (i := 7) rfl)) (hw _ (List.mem_of_getElem? (i := 8) rfl)) (hw _ (List.mem_of_getElem? (i := 9) rfl)) (by decide) (argsL := [(.ref b1), (.int bb), (.int (Int32.ofNat F)), (.int (Int32.ofNat G))]) (rest := [(.int (ownFind (ownX p1) bb (G - F) F))]) (rmR l Z a0 hw b1 bb _ _ (ownX p1) F G h5 n0 Y A1 hF hG rfl rfl) rfl rfl rfl (lenOf pd_0 rfl) (W := 1) (Nat.le_of_eq rfl) (by decide) (by decide) (by decide) (by decide) ?_
    intro v7 T7 h7 hq7 G7
    obtain ⟨rfl, rfl⟩ := hq7
    show ownGo _ _ _ _ _ _ _ T7 95 #[.val (.int p1), .val (.int p2), .val (.int p3), .val (.ref b1), .val (.int bb), .val (.int (Int32.ofNat F)), .val (.int (Int32.ofNat G))] [(.int (ownFind (ownX p1) bb (G - F) F)), (.int (ownFind (ownX p1) bb (G - F) F))]
    refine own_icmp_ne G7 at_95 (pc' := 102) (by decide) (by decide) (fun hc => False.elim (hc rfl)) (fun hc => ?_)
    show ownGo _ _ _ _ _ _ _ T7 98 #[.val (.int p1), .val (.int p2), .val (.int p3), .val (.ref b1), .val (.int bb), .val (.int (Int32.ofNat F)), .val (.int (Int32.ofNat G))] []
    refine own_iconst G7 at_98 ?_
    show ownGo _ _ _ _ _ _ _ T7 99 #[.val (.int p1), .val (.int p2), .val (.int p3), .val (.ref b1), .val (.int bb), .val (.int (Int32.ofNat F)), .val (.int (Int32.ofNat G))] [(.int (1 : Int32))]
    refine own_goto G7 at_99 (pc' := 103) (by decide) (by decide) ?_
    show ownGo _ _ _ _ _ _ _ T7 103 #[.val (.int p1), .val (.int p2), .val (.int p3), .val (.ref b1), .val (.int bb), .val (.int (Int32.ofNat F)), .val (.int (Int32.ofNat G))] [(.int (1 : Int32))]
    exact own_zreturn G7 at_103 rfl (by decide) (by decide) rfl
  refine own_if_eq G5 at_36 (pc' := 49) (by decide) (by decide) (fun q => ?_) (fun q => ?_)
  · show ownGo _ _ _ _ _ _ _ T5 49 #[.val (.int p1), .val (.int p2), .val (.int p3), .val (.ref b1), .unset, .unset, .unset] []
    refine own_aloadN G5 at_49 rfl rfl ?_
    show ownGo _ _ _ _ _ _ _ T5 50 #[.val (.int p1), .val (.int p2), .val (.int p3), .val (.ref b1), .unset, .unset, .unset] [(.ref b1)]
    refine own_iloadN G5 at_50 rfl ?_
    show ownGo _ _ _ _ _ _ _ T5 51 #[.val (.int p1), .val (.int p2), .val (.int p3), .val (.ref b1), .unset, .unset, .unset] [(.int p2), (.ref b1)]
    refine own_iconst G5 at_51 ?_
    show ownGo _ _ _ _ _ _ _ T5 52 #[.val (.int p1), .val (.int p2), .val (.int p3), .val (.ref b1), .unset, .unset, .unset] [(.int (3 : Int32)), (.int p2), (.ref b1)]
    refine own_iand G5 at_52 ?_
    show ownGo _ _ _ _ _ _ _ T5 53 #[.val (.int p1), .val (.int p2), .val (.int p3), .val (.ref b1), .unset, .unset, .unset] [(.int (p2 &&& (3 : Int32))), (.ref b1)]
    refine own_baload G5 at_53 (v := (.int (ownX p1 (p2 &&& (3 : Int32)).toNatClampNeg))) A1  (own_and3 p2) rfl ?_
    show ownGo _ _ _ _ _ _ _ T5 54 #[.val (.int p1), .val (.int p2), .val (.int p3), .val (.ref b1), .unset, .unset, .unset] [(.int (ownX p1 (p2 &&& (3 : Int32)).toNatClampNeg))]
    refine own_istore G5 at_54 (L' := #[.val (.int p1), .val (.int p2), .val (.int p3), .val (.ref b1), .val (.int (ownX p1 (p2 &&& (3 : Int32)).toNatClampNeg)), .unset, .unset]) rfl ?_
    show ownGo _ _ _ _ _ _ _ T5 56 #[.val (.int p1), .val (.int p2), .val (.int p3), .val (.ref b1), .val (.int (ownX p1 (p2 &&& (3 : Int32)).toNatClampNeg)), .unset, .unset] []
    exact j56 _
  · show ownGo _ _ _ _ _ _ _ T5 39 #[.val (.int p1), .val (.int p2), .val (.int p3), .val (.ref b1), .unset, .unset, .unset] []
    refine own_iloadN G5 at_39 rfl ?_
    show ownGo _ _ _ _ _ _ _ T5 40 #[.val (.int p1), .val (.int p2), .val (.int p3), .val (.ref b1), .unset, .unset, .unset] [(.int p2)]
    refine own_bipush G5 at_40 ?_
    show ownGo _ _ _ _ _ _ _ T5 42 #[.val (.int p1), .val (.int p2), .val (.int p3), .val (.ref b1), .unset, .unset, .unset] [(.int (8 : Int32)), (.int p2)]
    refine own_ishr G5 at_42 ?_
    show ownGo _ _ _ _ _ _ _ T5 43 #[.val (.int p1), .val (.int p2), .val (.int p3), .val (.ref b1), .unset, .unset, .unset] [(.int (p2 >>> ((8 : Int32) &&& 31)))]
    refine own_i2b G5 at_43 ?_
    show ownGo _ _ _ _ _ _ _ T5 44 #[.val (.int p1), .val (.int p2), .val (.int p3), .val (.ref b1), .unset, .unset, .unset] [(.int ((p2 >>> ((8 : Int32) &&& 31)).toInt8.toInt32))]
    refine own_istore G5 at_44 (L' := #[.val (.int p1), .val (.int p2), .val (.int p3), .val (.ref b1), .val (.int ((p2 >>> ((8 : Int32) &&& 31)).toInt8.toInt32)), .unset, .unset]) rfl ?_
    show ownGo _ _ _ _ _ _ _ T5 46 #[.val (.int p1), .val (.int p2), .val (.int p3), .val (.ref b1), .val (.int ((p2 >>> ((8 : Int32) &&& 31)).toInt8.toInt32)), .unset, .unset] []
    refine own_goto G5 at_46 (pc' := 56) (by decide) (by decide) ?_
    show ownGo _ _ _ _ _ _ _ T5 56 #[.val (.int p1), .val (.int p2), .val (.int p3), .val (.ref b1), .val (.int ((p2 >>> ((8 : Int32) &&& 31)).toInt8.toInt32)), .unset, .unset] []
    exact j56 _
set_option maxRecDepth 65536 in
set_option maxHeartbeats 40000000 in
theorem comes_1 {Post : Tables → Env → Array Value → State → Outcome → State → Prop} (hpost : ∀ tb e args s v u, (limb_1_1.after args s (.returned v) u = true ∧ limb_1_2.after args s (.returned v) u = true ∧ True) → FrameEnd s (.returned v) u (Jvm.fieldLocs frame_1_writes args s ++ Jvm.arrayLocs frame_1_arrays args s ++ Jvm.staticLocs frame_1_statics s) 16 128 → Post tb e args s (.returned v) u) :
    ArmFor flags0 classFile x code maxLocals ret World_1 tables_1 room_1 Calls_1 rest_1 Pre_1 Post := by
  intro l hfl _ _ p e ha hc hk s m args below hf hA hF happ hP
  obtain ⟨hcalls, hrest, hpre⟩ := hP
  obtain ⟨-, -, -, hnamed, -, -, -, hat⟩ := (Spec.applies_iff hf).mp happ
  obtain ⟨hg, hn⟩ := and_e (Cond.before_iff.mp (show (Jvm.Cond.and given_1 narrow_1).before args s = true from hpre))
  obtain ⟨g1, g2⟩ := and_e hg
  obtain ⟨g3, g4⟩ := and_e g2
  obtain ⟨g5, g6⟩ := and_e g4
  obtain ⟨w0, w1, w2, rfl⟩ : ∃ w0 w1 w2 : Value, args = #[w0, w1, w2] := by
    have hs : args.size = 3 := by simpa [Cond.value, given_1] using g1
    obtain ⟨L⟩ := args
    match L, hs with
    | [w0, w1, w2], _ => exact ⟨w0, w1, w2, rfl⟩
  have hw := fun d (hd : d ∈ tables_1) => atoms_spec (ws := Jvm.Cond.code x code maxLocals ret :: tables_1) hat d (List.mem_cons_of_mem _ hd)
  have hfit : Fit s := fun {y c} hc i hi => by
    obtain ⟨ha, rfl⟩ := Array.getElem?_eq_some_iff.mp hc
    have q := List.all_eq_true.mp ((Array.all_eq_true_iff_forall_mem.mp hF) _ (Array.getElem_mem ha)) i (List.mem_range.mpr hi)
    simpa [Array.getElem?_eq_getElem hi] using q
  obtain ⟨i0, ei0⟩ := is_v g3
  obtain rfl : w0 = (.int i0) := Option.some.inj ei0
  obtain ⟨i1, ei1⟩ := is_v g5
  obtain rfl : w1 = (.int i1) := Option.some.inj ei1
  obtain ⟨i2, ei2⟩ := is_v g6
  obtain rfl : w2 = (.int i2) := Option.some.inj ei2
  obtain ⟨n, o, h1, h2, h3, _, L, rfl, ⟨rfl, N⟩, hq⟩ := rm0 l s _ hw i0 i1 i2 s.heap s.heap.size (Nat.le_refl _) p e ha hc hk s m _ below hf ((Spec.applies_iff_loose hf).mp happ).1 ⟨rfl, State.Warmed39.refl s, rfl⟩ trivial
  refine ⟨n, _, h1, h2, h3, hpost _ _ _ _ _ _ ⟨Cond.after_iff.mpr rfl, Cond.after_iff.mpr (eq_i res_at (Term.int_eval (1)) rfl), trivial⟩ ⟨hq.1, hq.2.1, (hq.2.2.sift fun y hy => Or.inr (N y hy)).mono (by decide) (by decide)⟩⟩
theorem main_1_1 : Claimed_1_1 := comes_1 fun _ _ _ _ _ _ h hF => ⟨h.1, hF⟩
theorem main_1_2 : Claimed_1_2 := comes_1 fun _ _ _ _ _ _ h hF => ⟨h.2.1, hF⟩
end Jvm.Pilot.@@N@@
namespace Jvm.Pilot.@@N@@
open Jvm Jvm.ClassFile Sem Op Lib Jvm.Free Jvm.Stand Jvm.Pilot.@@N@@.Jvm.D
/-! MADE BY PROGRAM (witnessworld.py) out of the Statement's table words and the real class files: 9 classes; the members and pool entries that the words name. The judged class is class 1, her method 1. -/
namespace start1
open Jvm.ClassFile
def u (s : String) : CpInfo := .utf8 (stringToUtf16 s)
/-- a pool by its gaps: so many unusable entries, then the entry; so many at the end -/
def gap : Nat → List CpInfo → List CpInfo
  | 0, r => r
  | n + 1, r => .unusable :: gap n r
def poolList (es : List (Nat × CpInfo)) (last : Nat) : List CpInfo := es.foldr (fun e r => gap e.1 (e.2 :: r)) (gap last [])
def pool (es : List (Nat × CpInfo)) (last : Nat) : Array CpInfo := ⟨poolList es last⟩
def fileOf (pool : Array CpInfo) (this : Nat) (attrs : Array Attribute := #[]) (ms : Array MethodInfo := #[]) (fl : Nat := 33) (sup : Nat := 0) (ifs : Array Nat := #[]) (fds : Array FieldInfo := #[]) : ClassFile where
  minorVersion := 0
  majorVersion := 65
  constantPool := pool
  accessFlags := fl
  thisClass := this
  superClass := sup
  interfaces := ifs
  fields := fds
  methods := ms
  attributes := attrs
def plain (name : String) (sup : Option ClassId) : Class where
  name := name
  kind := .ordinary
  loader := none
  accessFlags := 33
  super := sup
  interfaces := #[]
  cf := none
  fields := #[]
  methods := #[]
  instanceTypes := #[]
  staticTypes := #[]
  resolved := #[]
  callSites := []
  init := .initialized
  statics := none
  mirror := none

def pool0 : Array CpInfo := pool [(5, u "<init>"), (0, u "()V"), (1, .class_ 10), (1, u "java/lang/Object")] 113

def k0m0 : Method := { name := "<init>", desc := "()V", sig := { parameters := [], returnType := none }, accessFlags := 1, code := none }
/-- java/lang/Object -/
def k0 : Class := { plain "java/lang/Object" none with
  accessFlags := 33
  interfaces := #[]
  cf := some (fileOf pool0 8 #[] #[{ accessFlags := 1, nameIndex := 5, descriptorIndex := 6, attributes := #[] }] 33 0 #[] #[])
  fields := #[]
  methods := #[k0m0]
  instanceTypes := #[]
  staticTypes := #[]
  resolved := Array.replicate 124 none
  statics := none }

def pool1 : Array CpInfo := pool [(2, .class_ 4), (1, u "java/lang/Object"), (0, u "<init>"), (0, u "()V"), (0, .integer 2147483647), (0, .methodref 9 10), (0, .class_ 11), (0, .nameAndType 12 13), (0, u "com/example/redrush/redrush/HttpHeads"), (0, u "indexOf"), (0, u "([BBII)I"), (0, .methodref 15 16), (0, .class_ 17), (0, .nameAndType 18 13), (0, u "com/example/redrush/redrush/HttpHeadsIndexOfPinLaw"), (0, u "ref"), (2, u "law"), (0, u "(III)Z")] 5

def k1m0 : Method := { name := "<init>", desc := "()V", sig := { parameters := [], returnType := none }, accessFlags := 2, code := none }
def k1c1 : Code := { maxStack := 5, maxLocals := 7, code := code, exceptionTable := #[], attributes := #[] }
def k1m1 : Method := { name := "law", desc := "(III)Z", sig := { parameters := [.int, .int, .int], returnType := some .boolean }, accessFlags := 9, code := some k1c1 }
def k1c2 : Code := { maxStack := 2, maxLocals := 4, code := method_3_code, exceptionTable := #[], attributes := #[] }
def k1m2 : Method := { name := "ref", desc := "([BBII)I", sig := { parameters := [(.array .byte), .byte, .int, .int], returnType := some .int }, accessFlags := 10, code := some k1c2 }
/-- com/example/redrush/redrush/HttpHeadsIndexOfPinLaw -/
def k1 : Class := { plain "com/example/redrush/redrush/HttpHeadsIndexOfPinLaw" (some 0) with
  accessFlags := 49
  interfaces := #[]
  cf := some (fileOf pool1 15 #[] #[{ accessFlags := 2, nameIndex := 5, descriptorIndex := 6, attributes := #[] }, { accessFlags := 9, nameIndex := 21, descriptorIndex := 22, attributes := #[] }, { accessFlags := 10, nameIndex := 18, descriptorIndex := 13, attributes := #[] }] 49 2 #[] #[])
  fields := #[]
  methods := #[k1m0, k1m1, k1m2]
  instanceTypes := #[]
  staticTypes := #[]
  resolved := Array.replicate 28 none
  statics := none }

def pool2 : Array CpInfo := pool [(2, .class_ 4), (1, u "java/lang/Object"), (0, u "<init>"), (0, u "()V"), (23, .class_ 32), (1, u "com/example/redrush/redrush/HttpHeads"), (27, u "indexOf"), (0, u "([BBII)I")] 8

def k2m0 : Method := { name := "<init>", desc := "()V", sig := { parameters := [], returnType := none }, accessFlags := 2, code := none }
def k2c1 : Code := { maxStack := 2, maxLocals := 6, code := prog_8_method_4_code, exceptionTable := #[], attributes := #[] }
def k2m1 : Method := { name := "indexOf", desc := "([BBII)I", sig := { parameters := [(.array .byte), .byte, .int, .int], returnType := some .int }, accessFlags := 8, code := some k2c1 }
/-- com/example/redrush/redrush/HttpHeads -/
def k2 : Class := { plain "com/example/redrush/redrush/HttpHeads" (some 0) with
  accessFlags := 48
  interfaces := #[]
  cf := some (fileOf pool2 30 #[] #[{ accessFlags := 2, nameIndex := 5, descriptorIndex := 6, attributes := #[] }, { accessFlags := 8, nameIndex := 60, descriptorIndex := 61, attributes := #[] }] 48 2 #[] #[])
  fields := #[]
  methods := #[k2m0, k2m1]
  instanceTypes := #[]
  staticTypes := #[]
  resolved := Array.replicate 70 none
  statics := none }

def pool3 : Array CpInfo := pool [(1, u "java/lang/Cloneable"), (0, .class_ 1), (0, u "java/lang/Object"), (0, .class_ 3)] 3

/-- java/lang/Cloneable -/
def k3 : Class := { plain "java/lang/Cloneable" (some 0) with
  accessFlags := 1537
  interfaces := #[]
  cf := some (fileOf pool3 2 #[] #[] 1537 4 #[] #[])
  fields := #[]
  methods := #[]
  instanceTypes := #[]
  staticTypes := #[]
  resolved := Array.replicate 8 none
  statics := none }

def pool4 : Array CpInfo := pool [(1, u "java/io/Serializable"), (0, .class_ 1), (0, u "java/lang/Object"), (0, .class_ 3)] 3

/-- java/io/Serializable -/
def k4 : Class := { plain "java/io/Serializable" (some 0) with
  accessFlags := 1537
  interfaces := #[]
  cf := some (fileOf pool4 2 #[] #[] 1537 4 #[] #[])
  fields := #[]
  methods := #[]
  instanceTypes := #[]
  staticTypes := #[]
  resolved := Array.replicate 8 none
  statics := none }

/-- the primitive byte -/
def k5 : Class := { plain "byte" none with kind := .primitive 'B', accessFlags := 0x411 }
/-- [B -/
def k6 : Class := { plain "[B" (some 0) with kind := .array 5 .byte, interfaces := #[3, 4], accessFlags := 1041 }

/-- the primitive int -/
def k7 : Class := { plain "int" none with kind := .primitive 'I', accessFlags := 0x411 }
/-- [I -/
def k8 : Class := { plain "[I" (some 0) with kind := .array 7 .int, interfaces := #[3, 4], accessFlags := 1041 }

def heap : Heap := #[]
def classes : Array Class := #[k0, k1, k2, k3, k4, k5, k6, k7, k8]
def interned : List (Array UInt16 × Addr) := []
def slotsUsed : Nat := 0
def theMethod : MethodId := ⟨1, 1⟩
def args0 : Array Value := #[.int 5, .int 6, .int 7]
def aboutOver (below : List Frame) : State where
  vm := { classes := classes, interned := interned.toArray }
  heap := heap
  slotsUsed := slotsUsed
  threads := #[{ frames := .invoking theMethod args0 :: below }]
def below0 : List Frame := [.native { method := ⟨0, 0⟩, args := #[] }]
def about1 : State := aboutOver below0
def p0 : Program := .bare "" "" ""
def e0 : Env := launch0.env 0 0 0
theorem w_frames : about1.frames = Frame.invoking theMethod args0 :: below0 := rfl
set_option maxRecDepth 65536 in
theorem w_args : argsFit about1.vm theMethod args0 = true := by decide +kernel
set_option maxRecDepth 65536 in
theorem w_heap : heapFits about1 = true := by decide +kernel
set_option maxRecDepth 65536 in
theorem w_runnable : about1.curStatus? = some .runnable := by decide +kernel
set_option maxRecDepth 65536 in
theorem w_alone : about1.alone = true := by decide +kernel
set_option maxRecDepth 65536 in
theorem w_named : about1.methodNamed? x = some theMethod := by decide +kernel
set_option maxRecDepth 65536 in
theorem w_hears : about1.hears theMethod below0 = true := by decide +kernel
set_option maxRecDepth 65536 in
theorem w_ripe : about1.ripe theMethod args0 below0 = true := by decide +kernel
theorem w_running : about1.status = .running := rfl
set_option maxRecDepth 65536 in
theorem w_room : about1.hasRoom e0.platform room_1 = true :=
  launch0.hasRoom_least _ room_1 (by decide +kernel) (by decide +kernel) (by decide +kernel) (by decide +kernel) (by decide +kernel) (by decide +kernel)
theorem allAtoms_all (ts : List Jvm.Cond) (a : Array Jvm.Value) (st : Jvm.State) : (allAtoms ts).before a st = ts.all (fun c => c.before a st) := by
  induction ts with
  | nil => rfl
  | cons c t ih =>
    show (Jvm.Cond.and c (allAtoms t)).before a st = _
    rw [Jvm.Cond.before_and, ih, List.all_cons]
def words1 : List Jvm.Cond := Jvm.Cond.code x code maxLocals ret :: tables_1
/-- a 'code' word, met by the world's own term for the bytes: nothing is compared byte by byte -/
theorem code_word {y : MethodName} {bytes : ByteArray} {mx : Nat} {rt : Option FieldType} {a : Array Value} {s : State} {m : MethodId} {meth : Method} {c : Code} (h1 : s.methodNamed? y = some m) (h2 : s.vm.method? m = some meth) (h3 : meth.code = some c) (h4 : c.code = bytes)
    (h5 : (c.maxLocals == mx && c.exceptionTable.isEmpty && decide (c.maxStack ≤ mostOperands) && decide (meth.sig.returnType = rt) && !meth.locks && decide (parseMethodDescriptor y.desc = some meth.sig)) = true) : (Jvm.Cond.code y bytes mx rt).before a s = true := by
  simp only [Bool.and_eq_true, beq_iff_eq, Bool.not_eq_true', decide_eq_true_eq] at h5
  obtain ⟨⟨⟨⟨⟨g1, g2⟩, g3⟩, g4⟩, g5⟩, g6⟩ := h5
  simp [Cond.before, Cond.holds, Cond.value, h1, h2, h3, h4, g1, g2, g3, g4, g5, g6]
def isCode : Jvm.Cond → Bool
  | .code _ _ _ _ => true
  | _ => false
theorem all_split {L : List Jvm.Cond} {P : Jvm.Cond → Bool} (h1 : L.all (fun c => isCode c || P c) = true) (h2 : ∀ c ∈ L.filter isCode, P c = true) : L.all P = true := by
  refine List.all_eq_true.mpr fun c hc => ?_
  have h := List.all_eq_true.mp h1 c hc
  rcases Bool.eq_false_or_eq_true (isCode c) with hi | hi
  · exact h2 c (List.mem_filter.mpr ⟨hc, hi⟩)
  · simpa [hi] using h
set_option maxRecDepth 65536 in
theorem w_c0 : (Jvm.Cond.code x code maxLocals ret).before args0 about1 = true := code_word (m := ⟨1, 1⟩) (meth := k1m1) (c := k1c1) (by decide +kernel) rfl rfl rfl (by decide +kernel)
set_option maxRecDepth 65536 in
theorem w_c1 : (Jvm.Cond.code ({ cls := "com/example/redrush/redrush/HttpHeads", name := "indexOf", desc := "([BBII)I" } : Jvm.MethodName) prog_8_method_4_code (6 : Nat) (Option.some Jvm.ClassFile.FieldType.int)).before args0 about1 = true := code_word (m := ⟨2, 1⟩) (meth := k2m1) (c := k2c1) (by decide +kernel) rfl rfl rfl (by decide +kernel)
set_option maxRecDepth 65536 in
theorem w_c2 : (Jvm.Cond.code ({ cls := "com/example/redrush/redrush/HttpHeadsIndexOfPinLaw", name := "ref", desc := "([BBII)I" } : Jvm.MethodName) method_3_code (4 : Nat) (Option.some Jvm.ClassFile.FieldType.int)).before args0 about1 = true := code_word (m := ⟨1, 2⟩) (meth := k1m2) (c := k1c2) (by decide +kernel) rfl rfl rfl (by decide +kernel)
def codes1 : List Jvm.Cond := [Jvm.Cond.code x code maxLocals ret, Jvm.Cond.code ({ cls := "com/example/redrush/redrush/HttpHeads", name := "indexOf", desc := "([BBII)I" } : Jvm.MethodName) prog_8_method_4_code (6 : Nat) (Option.some Jvm.ClassFile.FieldType.int), Jvm.Cond.code ({ cls := "com/example/redrush/redrush/HttpHeadsIndexOfPinLaw", name := "ref", desc := "([BBII)I" } : Jvm.MethodName) method_3_code (4 : Nat) (Option.some Jvm.ClassFile.FieldType.int)]
set_option maxRecDepth 65536 in
theorem codes_eq : words1.filter isCode = codes1 := rfl
theorem w_codes : ∀ c ∈ words1.filter isCode, c.before args0 about1 = true := by
  rw [codes_eq]
  intro c hc
  simp only [codes1, List.mem_cons, List.not_mem_nil, or_false] at hc
  rcases hc with rfl | rfl | rfl
  · exact w_c0
  · exact w_c1
  · exact w_c2
set_option maxRecDepth 65536 in
theorem w_t1 : words1.all (fun c => isCode c || c.before args0 about1) = true := by decide +kernel
theorem w_tables : (allAtoms (Jvm.Cond.code x code maxLocals ret :: tables_1)).before args0 about1 = true := by
  rw [allAtoms_all]
  show words1.all (fun c => c.before args0 about1) = true
  refine all_split ?_ w_codes
  rw [w_t1]
set_option maxRecDepth 65536 in
theorem w_case : (Jvm.Cond.and given_1 narrow_1).before args0 about1 = true := by decide +kernel
theorem w_applies : (headSpec (Jvm.Cond.code x code maxLocals ret :: tables_1) room_1).applies x e0.platform about1 = true :=
  (Spec.applies_iff w_frames).mpr ⟨w_running, w_runnable, w_alone, w_named, w_hears, w_ripe, w_room, w_tables⟩
theorem atStart : AtStart classFile x code maxLocals ret World_1 tables_1 room_1 Calls_1 rest_1 Pre_1 launch0 p0 e0 about1 theMethod args0 below0 :=
  ⟨lists_1, trivial, launch0.admits_env _ _ _, launch0.least_env, fairChoices_fair.cas, fairChoices_fair.clock, w_frames, w_args, w_heap, w_applies, trivial, trivial, w_case⟩
end start1
theorem witness_1 : WitnessClaimed_1 := ⟨start1.p0, start1.e0, start1.about1, start1.theMethod, start1.args0, start1.below0, start1.atStart⟩
end Jvm.Pilot.@@N@@
