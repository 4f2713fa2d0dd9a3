import JvmDerived
import JvmDerived.Pilot.@@N@@Statement
import JvmDerived.Pilot.@@N@@Code
set_option linter.unusedVariables false
set_option linter.unusedSimpArgs false
@@BLOCK:NumsL.lean.txt@@
namespace Jvm.Pilot.@@N@@
open Jvm Jvm.ClassFile Sem Op Lib Jvm.Free Jvm.Stand Jvm.LawKit Jvm.RoadKit Bundle Jvm.Pilot.@@N@@.Jvm.D
section Own
variable {p : Program} {l : Launch} {e : Env} {R : Room} {s : State} {m : MethodId} {args : Array Value} {below : List Frame} {meth : Method} {c : Code} {T : State} {cells slots n0 : Nat} {Z : State} {a0 : Array Value} {h h' h0 : Heap} {own nm : String} {bytes : ByteArray} {mx : Nat} {rt : Option FieldType} {Q : Option Value → Heap → Prop} {En : Outcome → State → List Loc → Prop} {pc : Nat} {Ls : Array Slot} {S : List Value} {a b : Addr}
/-- the run from here ends as Q says -/
def ownGo (p : Program) (e : Env) (m : MethodId) (below : List Frame) (n0 : Nat) (En : Outcome → State → List Loc → Prop) (Q : Option Value → Heap → Prop) (T : State) (pc : Nat) (Ls : Array Slot) (S : List Value) : Prop :=
  ∃ s₂ o, Steps p.tables e below (T.setTop (mkF m pc Ls S)) s₂ ∧ s₂.status = .running ∧ Ended s₂ below o ∧ ∃ v L, o = .returned v ∧ (Q v s₂.heap ∧ Fr n0 L) ∧ En o s₂ L
abbrev ownEnd (s : State) (R : Room) (o : Outcome) (t : State) (L : List Loc) : Prop := FrameEnd s o t L R.cells R.slots
/-- where the walk stands -/
def ownSt (p : Program) (l : Launch) (e : Env) (R : Room) (s : State) (m : MethodId) (args : Array Value) (below : List Frame) (meth : Method) (c : Code) (Z : State) (n0 : Nat) (own : String) (bytes : ByteArray) (mx : Nat) (rt : Option FieldType) (nm : String) (T : State) (h : Heap) (cells slots : Nat) : Prop :=
  (p.tables.exec = Jvm.exec ∧ Z.Warmed39 s.vm ∧ c.code = bytes ∧ c.maxLocals = mx ∧ s.vm.findClass own = some m.cls ∧ meth.name = nm ∧ meth.sig.returnType = rt ∧ meth.locks = false) ∧ ∃ locs, Stand p l e R s m args below meth c T locs cells slots ∧ T.heap = h ∧ Fr n0 locs
def ownMet (l : Launch) (ws : List Jvm.Cond) (y : MethodName) (bytes : ByteArray) (mx : Nat) (rt : Option FieldType) (rm : Room) (Z : State) (n0 : Nat) (as' : Array Value) (h0 : Heap) (Q : Option Value → Heap → Prop) : Prop :=
  MetFree l y (head1 (Jvm.Cond.code y bytes mx rt :: ws) rm) (fun a U => a = as' ∧ Z.Warmed39 U.vm ∧ U.heap = h0) (fun _ _ _ _ _ => True) (fun _ U o U' => ∃ v L, o = .returned v ∧ (Q v U'.heap ∧ Fr n0 L) ∧ FrameEnd U o U' L rm.cells rm.slots)
theorem ownGo.step {T' : State} {pc' : Nat} {Ls' : Array Slot} {S' : List Value} (st : ∀ t, Steps p.tables e below (T'.setTop (mkF m pc' Ls' S')) t → Steps p.tables e below (T.setTop (mkF m pc Ls S)) t) (go : ownGo p e m below n0 En Q T' pc' Ls' S') : ownGo p e m below n0 En Q T pc Ls S := by
  obtain ⟨s₂, o, h1, h2⟩ := go
  exact ⟨s₂, o, st _ h1, h2⟩
theorem own_body {ws : List Jvm.Cond} {y : MethodName} {rm : Room} {as' : Array Value} {L0 : Array Slot} (pn : plainFor y = true) (ef : ∀ m, entryFrame m as' mx = mkF m 0 L0 []) (hc : y.cls = own) (hn : y.name = nm)
    (body : ∀ p e s m below meth c s₁, ownSt p l e rm s m as' below meth c Z n0 own bytes mx rt nm s₁ h0 0 0 → ownGo p e m below n0 (ownEnd s rm) Q s₁ 0 L0 []) : ownMet l ws y bytes mx rt rm Z n0 as' h0 Q := by
  subst hc hn
  refine MetFree.of_bodySF pn hisR ?_
  intro p e s m args below meth c s₁ Bd hml0 hP hK
  obtain ⟨rfl, hZ, hh⟩ := hP
  have e0 : s₁.heap = h0 := by rw [← hh, Bd.state]; rfl
  obtain ⟨s₂, o, h1, h2, h3, v, L, h4, h5, h6⟩ := body p e s m below meth c s₁ ⟨⟨Bd.exec, hZ, Bd.bytes, hml0, findClass_of_methodNamed Bd.named, (name_of_methodNamed Bd.named Bd.method).1, Bd.returns, Bd.notSynchronized⟩, [], Stand.of_body Bd, e0, Fr.nil n0⟩
  exact ⟨s₂, o, castTop (ef m) h1, h2, h3, v, L, h4, h5, h6⟩
theorem ownMet.mono {ws : List Jvm.Cond} {y : MethodName} {rm : Room} {as' : Array Value} {Q' : Option Value → Heap → Prop} (M : ownMet l ws y bytes mx rt rm Z n0 as' h0 Q) (q : ∀ v h, Q v h → Q' v h) : ownMet l ws y bytes mx rt rm Z n0 as' h0 Q' := by
  intro p e ha hc hk s m args below hf happ hP hK
  obtain ⟨n, o, h1, h2, h3, v, L, h4, ⟨h5, h5'⟩, h6⟩ := M p e ha hc hk s m args below hf happ hP hK
  exact ⟨n, o, h1, h2, h3, v, L, h4, ⟨q _ _ h5, h5'⟩, h6⟩
theorem ownGo.mono {Q' : Option Value → Heap → Prop} (go : ownGo p e m below n0 En Q T pc Ls S) (q : ∀ v h, Q v h → Q' v h) : ownGo p e m below n0 En Q' T pc Ls S := by
  obtain ⟨s₂, o, h1, h2, h3, v, L, h4, ⟨h5, h5'⟩, h6⟩ := go
  exact ⟨s₂, o, h1, h2, h3, v, L, h4, ⟨q _ _ h5, h5'⟩, h6⟩
theorem own_iload (G : ownSt p l e R s m args below meth c Z n0 own bytes mx rt nm T h cells slots) {k : Nat} {v : Int32} (hd : decode bytes pc = .ok (.iload k, 2)) (hl : Ls[k]? = some (.val (.int v))) (go : ownGo p e m below n0 En Q T (pc + 2) Ls (.int v :: S)) : ownGo p e m below n0 En Q T pc Ls S := by
  obtain ⟨⟨hx, hZ, hby, hml, hown, hnm, hret, hlk⟩, locs, X, eT, hN⟩ := G
  exact ownGo.step (fun t k => XS.iload X.here hx rfl (hb hby hd) hl k) go
theorem own_iloadN (G : ownSt p l e R s m args below meth c Z n0 own bytes mx rt nm T h cells slots) {k : Fin 4} {v : Int32} (hd : decode bytes pc = .ok (.iload_n k, 1)) (hl : Ls[k.val]? = some (.val (.int v))) (go : ownGo p e m below n0 En Q T (pc + 1) Ls (.int v :: S)) : ownGo p e m below n0 En Q T pc Ls S := by
  obtain ⟨⟨hx, hZ, hby, hml, hown, hnm, hret, hlk⟩, locs, X, eT, hN⟩ := G
  exact ownGo.step (fun t k => XS.iloadN X.here hx rfl (hb hby hd) hl k) go
theorem own_istore (G : ownSt p l e R s m args below meth c Z n0 own bytes mx rt nm T h cells slots) {k : Nat} {v : Int32} {L' : Array Slot} (hd : decode bytes pc = .ok (.istore k, 2)) (hl : storeLocals Ls k (.int v) = some L') (go : ownGo p e m below n0 En Q T (pc + 2) L' S) : ownGo p e m below n0 En Q T pc Ls (.int v :: S) := by
  obtain ⟨⟨hx, hZ, hby, hml, hown, hnm, hret, hlk⟩, locs, X, eT, hN⟩ := G
  exact ownGo.step (fun t k => XS.istore X.here hx rfl (hb hby hd) rfl (l' := L') hl k) go
theorem own_istoreN (G : ownSt p l e R s m args below meth c Z n0 own bytes mx rt nm T h cells slots) {k : Fin 4} {v : Int32} {L' : Array Slot} (hd : decode bytes pc = .ok (.istore_n k, 1)) (hl : storeLocals Ls k.val (.int v) = some L') (go : ownGo p e m below n0 En Q T (pc + 1) L' S) : ownGo p e m below n0 En Q T pc Ls (.int v :: S) := by
  obtain ⟨⟨hx, hZ, hby, hml, hown, hnm, hret, hlk⟩, locs, X, eT, hN⟩ := G
  exact ownGo.step (fun t k => XS.istoreN X.here hx rfl (hb hby hd) rfl (l' := L') hl k) go
theorem own_lload (G : ownSt p l e R s m args below meth c Z n0 own bytes mx rt nm T h cells slots) {k : Nat} {v : Int64} (hd : decode bytes pc = .ok (.lload k, 2)) (hl : Ls[k]? = some (.val (.long v))) (go : ownGo p e m below n0 En Q T (pc + 2) Ls (.long v :: S)) : ownGo p e m below n0 En Q T pc Ls S := by
  obtain ⟨⟨hx, hZ, hby, hml, hown, hnm, hret, hlk⟩, locs, X, eT, hN⟩ := G
  exact ownGo.step (fun t k => XS.lload X.here hx rfl (hb hby hd) hl k) go
theorem own_lloadN (G : ownSt p l e R s m args below meth c Z n0 own bytes mx rt nm T h cells slots) {k : Fin 4} {v : Int64} (hd : decode bytes pc = .ok (.lload_n k, 1)) (hl : Ls[k.val]? = some (.val (.long v))) (go : ownGo p e m below n0 En Q T (pc + 1) Ls (.long v :: S)) : ownGo p e m below n0 En Q T pc Ls S := by
  obtain ⟨⟨hx, hZ, hby, hml, hown, hnm, hret, hlk⟩, locs, X, eT, hN⟩ := G
  exact ownGo.step (fun t k => XS.lloadN X.here hx rfl (hb hby hd) hl k) go
theorem own_lstore (G : ownSt p l e R s m args below meth c Z n0 own bytes mx rt nm T h cells slots) {k : Nat} {v : Int64} {L' : Array Slot} (hd : decode bytes pc = .ok (.lstore k, 2)) (hl : storeLocals Ls k (.long v) = some L') (go : ownGo p e m below n0 En Q T (pc + 2) L' S) : ownGo p e m below n0 En Q T pc Ls (.long v :: S) := by
  obtain ⟨⟨hx, hZ, hby, hml, hown, hnm, hret, hlk⟩, locs, X, eT, hN⟩ := G
  exact ownGo.step (fun t k => XS.lstore X.here hx rfl (hb hby hd) rfl (l' := L') hl k) go
theorem own_lstoreN (G : ownSt p l e R s m args below meth c Z n0 own bytes mx rt nm T h cells slots) {k : Fin 4} {v : Int64} {L' : Array Slot} (hd : decode bytes pc = .ok (.lstore_n k, 1)) (hl : storeLocals Ls k.val (.long v) = some L') (go : ownGo p e m below n0 En Q T (pc + 1) L' S) : ownGo p e m below n0 En Q T pc Ls (.long v :: S) := by
  obtain ⟨⟨hx, hZ, hby, hml, hown, hnm, hret, hlk⟩, locs, X, eT, hN⟩ := G
  exact ownGo.step (fun t k => XS.lstoreN X.here hx rfl (hb hby hd) rfl (l' := L') hl k) go
theorem own_aload (G : ownSt p l e R s m args below meth c Z n0 own bytes mx rt nm T h cells slots) {k : Nat} {v : Value} (hd : decode bytes pc = .ok (.aload k, 2)) (hl : Ls[k]? = some (.val v)) (hv : v.isRef = true) (go : ownGo p e m below n0 En Q T (pc + 2) Ls (v :: S)) : ownGo p e m below n0 En Q T pc Ls S := by
  obtain ⟨⟨hx, hZ, hby, hml, hown, hnm, hret, hlk⟩, locs, X, eT, hN⟩ := G
  exact ownGo.step (fun t k => XS.aload X.here hx rfl (hb hby hd) hl hv k) go
theorem own_aloadN (G : ownSt p l e R s m args below meth c Z n0 own bytes mx rt nm T h cells slots) {k : Fin 4} {v : Value} (hd : decode bytes pc = .ok (.aload_n k, 1)) (hl : Ls[k.val]? = some (.val v)) (hv : v.isRef = true) (go : ownGo p e m below n0 En Q T (pc + 1) Ls (v :: S)) : ownGo p e m below n0 En Q T pc Ls S := by
  obtain ⟨⟨hx, hZ, hby, hml, hown, hnm, hret, hlk⟩, locs, X, eT, hN⟩ := G
  exact ownGo.step (fun t k => XS.aloadN X.here hx rfl (hb hby hd) hl hv k) go
theorem own_astore (G : ownSt p l e R s m args below meth c Z n0 own bytes mx rt nm T h cells slots) {k : Nat} {v : Value} {L' : Array Slot} (hd : decode bytes pc = .ok (.astore k, 2)) (hv : v.isRef = true) (hl : storeLocals Ls k v = some L') (go : ownGo p e m below n0 En Q T (pc + 2) L' S) : ownGo p e m below n0 En Q T pc Ls (v :: S) := by
  obtain ⟨⟨hx, hZ, hby, hml, hown, hnm, hret, hlk⟩, locs, X, eT, hN⟩ := G
  exact ownGo.step (fun t k => XS.astore X.here hx rfl (hb hby hd) rfl hv (l' := L') hl k) go
theorem own_astoreN (G : ownSt p l e R s m args below meth c Z n0 own bytes mx rt nm T h cells slots) {k : Fin 4} {v : Value} {L' : Array Slot} (hd : decode bytes pc = .ok (.astore_n k, 1)) (hv : v.isRef = true) (hl : storeLocals Ls k.val v = some L') (go : ownGo p e m below n0 En Q T (pc + 1) L' S) : ownGo p e m below n0 En Q T pc Ls (v :: S) := by
  obtain ⟨⟨hx, hZ, hby, hml, hown, hnm, hret, hlk⟩, locs, X, eT, hN⟩ := G
  exact ownGo.step (fun t k => XS.astoreN X.here hx rfl (hb hby hd) rfl hv (l' := L') hl k) go
theorem own_iconst (G : ownSt p l e R s m args below meth c Z n0 own bytes mx rt nm T h cells slots) {i : Int} (hd : decode bytes pc = .ok (.iconst i, 1))  (go : ownGo p e m below n0 En Q T (pc + 1) Ls (.int (Int32.ofInt i) :: S)) : ownGo p e m below n0 En Q T pc Ls S := by
  obtain ⟨⟨hx, hZ, hby, hml, hown, hnm, hret, hlk⟩, locs, X, eT, hN⟩ := G
  exact ownGo.step (fun t k => XS.iconst X.here hx rfl (hb hby hd)  k) go
theorem own_bipush (G : ownSt p l e R s m args below meth c Z n0 own bytes mx rt nm T h cells slots) {i : Int} (hd : decode bytes pc = .ok (.bipush i, 2))  (go : ownGo p e m below n0 En Q T (pc + 2) Ls (.int (Int8.ofInt i).toInt32 :: S)) : ownGo p e m below n0 En Q T pc Ls S := by
  obtain ⟨⟨hx, hZ, hby, hml, hown, hnm, hret, hlk⟩, locs, X, eT, hN⟩ := G
  exact ownGo.step (fun t k => XS.bipush X.here hx rfl (hb hby hd)  k) go
theorem own_sipush (G : ownSt p l e R s m args below meth c Z n0 own bytes mx rt nm T h cells slots) {i : Int} (hd : decode bytes pc = .ok (.sipush i, 3))  (go : ownGo p e m below n0 En Q T (pc + 3) Ls (.int (Int16.ofInt i).toInt32 :: S)) : ownGo p e m below n0 En Q T pc Ls S := by
  obtain ⟨⟨hx, hZ, hby, hml, hown, hnm, hret, hlk⟩, locs, X, eT, hN⟩ := G
  exact ownGo.step (fun t k => XS.sipush X.here hx rfl (hb hby hd)  k) go
theorem own_lconst (G : ownSt p l e R s m args below meth c Z n0 own bytes mx rt nm T h cells slots) {k : Fin 2} (hd : decode bytes pc = .ok (.lconst k, 1))  (go : ownGo p e m below n0 En Q T (pc + 1) Ls (.long (Int64.ofNat k.val) :: S)) : ownGo p e m below n0 En Q T pc Ls S := by
  obtain ⟨⟨hx, hZ, hby, hml, hown, hnm, hret, hlk⟩, locs, X, eT, hN⟩ := G
  exact ownGo.step (fun t k => XS.lconst X.here hx rfl (hb hby hd)  k) go
theorem own_aconst_null (G : ownSt p l e R s m args below meth c Z n0 own bytes mx rt nm T h cells slots)  (hd : decode bytes pc = .ok (.aconst_null, 1))  (go : ownGo p e m below n0 En Q T (pc + 1) Ls (.null :: S)) : ownGo p e m below n0 En Q T pc Ls S := by
  obtain ⟨⟨hx, hZ, hby, hml, hown, hnm, hret, hlk⟩, locs, X, eT, hN⟩ := G
  exact ownGo.step (fun t k => XS.aconstNull X.here hx rfl (hb hby hd)  k) go
theorem own_iadd (G : ownSt p l e R s m args below meth c Z n0 own bytes mx rt nm T h cells slots) {x y : Int32} (hd : decode bytes pc = .ok (.iadd, 1))  (go : ownGo p e m below n0 En Q T (pc + 1) Ls (.int (x + y) :: S)) : ownGo p e m below n0 En Q T pc Ls (.int y :: .int x :: S) := by
  obtain ⟨⟨hx, hZ, hby, hml, hown, hnm, hret, hlk⟩, locs, X, eT, hN⟩ := G
  exact ownGo.step (fun t k => XS.iadd X.here hx rfl (hb hby hd) rfl k) go
theorem own_isub (G : ownSt p l e R s m args below meth c Z n0 own bytes mx rt nm T h cells slots) {x y : Int32} (hd : decode bytes pc = .ok (.isub, 1))  (go : ownGo p e m below n0 En Q T (pc + 1) Ls (.int (x - y) :: S)) : ownGo p e m below n0 En Q T pc Ls (.int y :: .int x :: S) := by
  obtain ⟨⟨hx, hZ, hby, hml, hown, hnm, hret, hlk⟩, locs, X, eT, hN⟩ := G
  exact ownGo.step (fun t k => XS.isub X.here hx rfl (hb hby hd) rfl k) go
theorem own_imul (G : ownSt p l e R s m args below meth c Z n0 own bytes mx rt nm T h cells slots) {x y : Int32} (hd : decode bytes pc = .ok (.imul, 1))  (go : ownGo p e m below n0 En Q T (pc + 1) Ls (.int (x * y) :: S)) : ownGo p e m below n0 En Q T pc Ls (.int y :: .int x :: S) := by
  obtain ⟨⟨hx, hZ, hby, hml, hown, hnm, hret, hlk⟩, locs, X, eT, hN⟩ := G
  exact ownGo.step (fun t k => XS.imul X.here hx rfl (hb hby hd) rfl k) go
theorem own_iand (G : ownSt p l e R s m args below meth c Z n0 own bytes mx rt nm T h cells slots) {x y : Int32} (hd : decode bytes pc = .ok (.iand, 1))  (go : ownGo p e m below n0 En Q T (pc + 1) Ls (.int (x &&& y) :: S)) : ownGo p e m below n0 En Q T pc Ls (.int y :: .int x :: S) := by
  obtain ⟨⟨hx, hZ, hby, hml, hown, hnm, hret, hlk⟩, locs, X, eT, hN⟩ := G
  exact ownGo.step (fun t k => XS.iand X.here hx rfl (hb hby hd) rfl k) go
theorem own_ior (G : ownSt p l e R s m args below meth c Z n0 own bytes mx rt nm T h cells slots) {x y : Int32} (hd : decode bytes pc = .ok (.ior, 1))  (go : ownGo p e m below n0 En Q T (pc + 1) Ls (.int (x ||| y) :: S)) : ownGo p e m below n0 En Q T pc Ls (.int y :: .int x :: S) := by
  obtain ⟨⟨hx, hZ, hby, hml, hown, hnm, hret, hlk⟩, locs, X, eT, hN⟩ := G
  exact ownGo.step (fun t k => XS.ior X.here hx rfl (hb hby hd) rfl k) go
theorem own_ixor (G : ownSt p l e R s m args below meth c Z n0 own bytes mx rt nm T h cells slots) {x y : Int32} (hd : decode bytes pc = .ok (.ixor, 1))  (go : ownGo p e m below n0 En Q T (pc + 1) Ls (.int (x ^^^ y) :: S)) : ownGo p e m below n0 En Q T pc Ls (.int y :: .int x :: S) := by
  obtain ⟨⟨hx, hZ, hby, hml, hown, hnm, hret, hlk⟩, locs, X, eT, hN⟩ := G
  exact ownGo.step (fun t k => XS.ixor X.here hx rfl (hb hby hd) rfl k) go
theorem own_ishl (G : ownSt p l e R s m args below meth c Z n0 own bytes mx rt nm T h cells slots) {x y : Int32} (hd : decode bytes pc = .ok (.ishl, 1))  (go : ownGo p e m below n0 En Q T (pc + 1) Ls (.int (x <<< (y &&& 31)) :: S)) : ownGo p e m below n0 En Q T pc Ls (.int y :: .int x :: S) := by
  obtain ⟨⟨hx, hZ, hby, hml, hown, hnm, hret, hlk⟩, locs, X, eT, hN⟩ := G
  exact ownGo.step (fun t k => XS.ishl X.here hx rfl (hb hby hd) rfl k) go
theorem own_ishr (G : ownSt p l e R s m args below meth c Z n0 own bytes mx rt nm T h cells slots) {x y : Int32} (hd : decode bytes pc = .ok (.ishr, 1))  (go : ownGo p e m below n0 En Q T (pc + 1) Ls (.int (x >>> (y &&& 31)) :: S)) : ownGo p e m below n0 En Q T pc Ls (.int y :: .int x :: S) := by
  obtain ⟨⟨hx, hZ, hby, hml, hown, hnm, hret, hlk⟩, locs, X, eT, hN⟩ := G
  exact ownGo.step (fun t k => XS.ishr X.here hx rfl (hb hby hd) rfl k) go
theorem own_iushr (G : ownSt p l e R s m args below meth c Z n0 own bytes mx rt nm T h cells slots) {x y : Int32} (hd : decode bytes pc = .ok (.iushr, 1))  (go : ownGo p e m below n0 En Q T (pc + 1) Ls (.int ((x.toUInt32 >>> (y &&& 31).toUInt32).toInt32) :: S)) : ownGo p e m below n0 En Q T pc Ls (.int y :: .int x :: S) := by
  obtain ⟨⟨hx, hZ, hby, hml, hown, hnm, hret, hlk⟩, locs, X, eT, hN⟩ := G
  exact ownGo.step (fun t k => XS.iushr X.here hx rfl (hb hby hd) rfl k) go
theorem own_ladd (G : ownSt p l e R s m args below meth c Z n0 own bytes mx rt nm T h cells slots) {x y : Int64} (hd : decode bytes pc = .ok (.ladd, 1))  (go : ownGo p e m below n0 En Q T (pc + 1) Ls (.long (x + y) :: S)) : ownGo p e m below n0 En Q T pc Ls (.long y :: .long x :: S) := by
  obtain ⟨⟨hx, hZ, hby, hml, hown, hnm, hret, hlk⟩, locs, X, eT, hN⟩ := G
  exact ownGo.step (fun t k => XS.ladd X.here hx rfl (hb hby hd) rfl k) go
theorem own_lsub (G : ownSt p l e R s m args below meth c Z n0 own bytes mx rt nm T h cells slots) {x y : Int64} (hd : decode bytes pc = .ok (.lsub, 1))  (go : ownGo p e m below n0 En Q T (pc + 1) Ls (.long (x - y) :: S)) : ownGo p e m below n0 En Q T pc Ls (.long y :: .long x :: S) := by
  obtain ⟨⟨hx, hZ, hby, hml, hown, hnm, hret, hlk⟩, locs, X, eT, hN⟩ := G
  exact ownGo.step (fun t k => XS.lsub X.here hx rfl (hb hby hd) rfl k) go
theorem own_lmul (G : ownSt p l e R s m args below meth c Z n0 own bytes mx rt nm T h cells slots) {x y : Int64} (hd : decode bytes pc = .ok (.lmul, 1))  (go : ownGo p e m below n0 En Q T (pc + 1) Ls (.long (x * y) :: S)) : ownGo p e m below n0 En Q T pc Ls (.long y :: .long x :: S) := by
  obtain ⟨⟨hx, hZ, hby, hml, hown, hnm, hret, hlk⟩, locs, X, eT, hN⟩ := G
  exact ownGo.step (fun t k => XS.lmul X.here hx rfl (hb hby hd) rfl k) go
theorem own_land (G : ownSt p l e R s m args below meth c Z n0 own bytes mx rt nm T h cells slots) {x y : Int64} (hd : decode bytes pc = .ok (.land, 1))  (go : ownGo p e m below n0 En Q T (pc + 1) Ls (.long (x &&& y) :: S)) : ownGo p e m below n0 En Q T pc Ls (.long y :: .long x :: S) := by
  obtain ⟨⟨hx, hZ, hby, hml, hown, hnm, hret, hlk⟩, locs, X, eT, hN⟩ := G
  exact ownGo.step (fun t k => XS.land X.here hx rfl (hb hby hd) rfl k) go
theorem own_lor (G : ownSt p l e R s m args below meth c Z n0 own bytes mx rt nm T h cells slots) {x y : Int64} (hd : decode bytes pc = .ok (.lor, 1))  (go : ownGo p e m below n0 En Q T (pc + 1) Ls (.long (x ||| y) :: S)) : ownGo p e m below n0 En Q T pc Ls (.long y :: .long x :: S) := by
  obtain ⟨⟨hx, hZ, hby, hml, hown, hnm, hret, hlk⟩, locs, X, eT, hN⟩ := G
  exact ownGo.step (fun t k => XS.lor X.here hx rfl (hb hby hd) rfl k) go
theorem own_lxor (G : ownSt p l e R s m args below meth c Z n0 own bytes mx rt nm T h cells slots) {x y : Int64} (hd : decode bytes pc = .ok (.lxor, 1))  (go : ownGo p e m below n0 En Q T (pc + 1) Ls (.long (x ^^^ y) :: S)) : ownGo p e m below n0 En Q T pc Ls (.long y :: .long x :: S) := by
  obtain ⟨⟨hx, hZ, hby, hml, hown, hnm, hret, hlk⟩, locs, X, eT, hN⟩ := G
  exact ownGo.step (fun t k => XS.lxor X.here hx rfl (hb hby hd) rfl k) go
theorem own_lshl (G : ownSt p l e R s m args below meth c Z n0 own bytes mx rt nm T h cells slots) {x : Int64} {y : Int32} (hd : decode bytes pc = .ok (.lshl, 1))  (go : ownGo p e m below n0 En Q T (pc + 1) Ls (.long (x <<< (y &&& 0x3f).toInt64) :: S)) : ownGo p e m below n0 En Q T pc Ls (.int y :: .long x :: S) := by
  obtain ⟨⟨hx, hZ, hby, hml, hown, hnm, hret, hlk⟩, locs, X, eT, hN⟩ := G
  exact ownGo.step (fun t k => XS.lshl X.here hx rfl (hb hby hd) rfl k) go
theorem own_lshr (G : ownSt p l e R s m args below meth c Z n0 own bytes mx rt nm T h cells slots) {x : Int64} {y : Int32} (hd : decode bytes pc = .ok (.lshr, 1))  (go : ownGo p e m below n0 En Q T (pc + 1) Ls (.long (x >>> (y &&& 0x3f).toInt64) :: S)) : ownGo p e m below n0 En Q T pc Ls (.int y :: .long x :: S) := by
  obtain ⟨⟨hx, hZ, hby, hml, hown, hnm, hret, hlk⟩, locs, X, eT, hN⟩ := G
  exact ownGo.step (fun t k => XS.lshr X.here hx rfl (hb hby hd) rfl k) go
theorem own_lushr (G : ownSt p l e R s m args below meth c Z n0 own bytes mx rt nm T h cells slots) {x : Int64} {y : Int32} (hd : decode bytes pc = .ok (.lushr, 1))  (go : ownGo p e m below n0 En Q T (pc + 1) Ls (.long ((x.toUInt64 >>> (y &&& 0x3f).toInt64.toUInt64).toInt64) :: S)) : ownGo p e m below n0 En Q T pc Ls (.int y :: .long x :: S) := by
  obtain ⟨⟨hx, hZ, hby, hml, hown, hnm, hret, hlk⟩, locs, X, eT, hN⟩ := G
  exact ownGo.step (fun t k => XS.lushr X.here hx rfl (hb hby hd) rfl k) go
theorem own_ineg (G : ownSt p l e R s m args below meth c Z n0 own bytes mx rt nm T h cells slots) {x : Int32} (hd : decode bytes pc = .ok (.ineg, 1))  (go : ownGo p e m below n0 En Q T (pc + 1) Ls (.int (-x) :: S)) : ownGo p e m below n0 En Q T pc Ls (.int x :: S) := by
  obtain ⟨⟨hx, hZ, hby, hml, hown, hnm, hret, hlk⟩, locs, X, eT, hN⟩ := G
  exact ownGo.step (fun t k => XS.ineg X.here hx rfl (hb hby hd) rfl k) go
theorem own_lneg (G : ownSt p l e R s m args below meth c Z n0 own bytes mx rt nm T h cells slots) {x : Int64} (hd : decode bytes pc = .ok (.lneg, 1))  (go : ownGo p e m below n0 En Q T (pc + 1) Ls (.long (-x) :: S)) : ownGo p e m below n0 En Q T pc Ls (.long x :: S) := by
  obtain ⟨⟨hx, hZ, hby, hml, hown, hnm, hret, hlk⟩, locs, X, eT, hN⟩ := G
  exact ownGo.step (fun t k => XS.lneg X.here hx rfl (hb hby hd) rfl k) go
theorem own_i2l (G : ownSt p l e R s m args below meth c Z n0 own bytes mx rt nm T h cells slots) {x : Int32} (hd : decode bytes pc = .ok (.i2l, 1))  (go : ownGo p e m below n0 En Q T (pc + 1) Ls (.long (x.toInt64) :: S)) : ownGo p e m below n0 En Q T pc Ls (.int x :: S) := by
  obtain ⟨⟨hx, hZ, hby, hml, hown, hnm, hret, hlk⟩, locs, X, eT, hN⟩ := G
  exact ownGo.step (fun t k => XS.i2l X.here hx rfl (hb hby hd) rfl k) go
theorem own_l2i (G : ownSt p l e R s m args below meth c Z n0 own bytes mx rt nm T h cells slots) {x : Int64} (hd : decode bytes pc = .ok (.l2i, 1))  (go : ownGo p e m below n0 En Q T (pc + 1) Ls (.int (x.toInt32) :: S)) : ownGo p e m below n0 En Q T pc Ls (.long x :: S) := by
  obtain ⟨⟨hx, hZ, hby, hml, hown, hnm, hret, hlk⟩, locs, X, eT, hN⟩ := G
  exact ownGo.step (fun t k => XS.l2i X.here hx rfl (hb hby hd) rfl k) go
theorem own_i2b (G : ownSt p l e R s m args below meth c Z n0 own bytes mx rt nm T h cells slots) {x : Int32} (hd : decode bytes pc = .ok (.i2b, 1))  (go : ownGo p e m below n0 En Q T (pc + 1) Ls (.int (x.toInt8.toInt32) :: S)) : ownGo p e m below n0 En Q T pc Ls (.int x :: S) := by
  obtain ⟨⟨hx, hZ, hby, hml, hown, hnm, hret, hlk⟩, locs, X, eT, hN⟩ := G
  exact ownGo.step (fun t k => XS.i2b X.here hx rfl (hb hby hd) rfl k) go
theorem own_i2s (G : ownSt p l e R s m args below meth c Z n0 own bytes mx rt nm T h cells slots) {x : Int32} (hd : decode bytes pc = .ok (.i2s, 1))  (go : ownGo p e m below n0 En Q T (pc + 1) Ls (.int (x.toInt16.toInt32) :: S)) : ownGo p e m below n0 En Q T pc Ls (.int x :: S) := by
  obtain ⟨⟨hx, hZ, hby, hml, hown, hnm, hret, hlk⟩, locs, X, eT, hN⟩ := G
  exact ownGo.step (fun t k => XS.i2s X.here hx rfl (hb hby hd) rfl k) go
theorem own_i2c (G : ownSt p l e R s m args below meth c Z n0 own bytes mx rt nm T h cells slots) {x : Int32} (hd : decode bytes pc = .ok (.i2c, 1))  (go : ownGo p e m below n0 En Q T (pc + 1) Ls (.int (x.toUInt32.toUInt16.toUInt32.toInt32) :: S)) : ownGo p e m below n0 En Q T pc Ls (.int x :: S) := by
  obtain ⟨⟨hx, hZ, hby, hml, hown, hnm, hret, hlk⟩, locs, X, eT, hN⟩ := G
  exact ownGo.step (fun t k => XS.i2c X.here hx rfl (hb hby hd) rfl k) go
theorem own_lcmp (G : ownSt p l e R s m args below meth c Z n0 own bytes mx rt nm T h cells slots) {x y : Int64} (hd : decode bytes pc = .ok (.lcmp, 1))  (go : ownGo p e m below n0 En Q T (pc + 1) Ls (.int (lcmpW x y) :: S)) : ownGo p e m below n0 En Q T pc Ls (.long y :: .long x :: S) := by
  obtain ⟨⟨hx, hZ, hby, hml, hown, hnm, hret, hlk⟩, locs, X, eT, hN⟩ := G
  exact ownGo.step (fun t k => XS.lcmp X.here hx rfl (hb hby hd) rfl k) go
theorem own_pop (G : ownSt p l e R s m args below meth c Z n0 own bytes mx rt nm T h cells slots) {v : Value} (hd : decode bytes pc = .ok (.pop, 1)) (hc : v.category = 1) (go : ownGo p e m below n0 En Q T (pc + 1) Ls S) : ownGo p e m below n0 En Q T pc Ls (v :: S) := by
  obtain ⟨⟨hx, hZ, hby, hml, hown, hnm, hret, hlk⟩, locs, X, eT, hN⟩ := G
  exact ownGo.step (fun t k => XS.pop X.here hx rfl (hb hby hd) rfl hc k) go
theorem own_dup (G : ownSt p l e R s m args below meth c Z n0 own bytes mx rt nm T h cells slots) {v : Value} (hd : decode bytes pc = .ok (.dup, 1)) (hc : v.category = 1) (go : ownGo p e m below n0 En Q T (pc + 1) Ls (v :: v :: S)) : ownGo p e m below n0 En Q T pc Ls (v :: S) := by
  obtain ⟨⟨hx, hZ, hby, hml, hown, hnm, hret, hlk⟩, locs, X, eT, hN⟩ := G
  exact ownGo.step (fun t k => XS.dup X.here hx rfl (hb hby hd) rfl hc k) go
theorem own_dup_x1 (G : ownSt p l e R s m args below meth c Z n0 own bytes mx rt nm T h cells slots) {v w : Value} (hd : decode bytes pc = .ok (.dup_x1, 1)) (hc : v.category = 1) (hc' : w.category = 1) (go : ownGo p e m below n0 En Q T (pc + 1) Ls (v :: w :: v :: S)) : ownGo p e m below n0 En Q T pc Ls (v :: w :: S) := by
  obtain ⟨⟨hx, hZ, hby, hml, hown, hnm, hret, hlk⟩, locs, X, eT, hN⟩ := G
  exact ownGo.step (fun t k => XS.dupX1 X.here hx rfl (hb hby hd) rfl hc hc' k) go
theorem own_irem (G : ownSt p l e R s m args below meth c Z n0 own bytes mx rt nm T h cells slots) {x y : Int32} (hd : decode bytes pc = .ok (.irem, 1)) (hy : y ≠ 0) (go : ownGo p e m below n0 En Q T (pc + 1) Ls (.int (x % y) :: S)) : ownGo p e m below n0 En Q T pc Ls (.int y :: .int x :: S) := by
  obtain ⟨⟨hx, hZ, hby, hml, hown, hnm, hret, hlk⟩, locs, X, eT, hN⟩ := G
  exact ownGo.step (fun t k => iremM X hx rfl (hb hby hd) rfl hy k) go
theorem own_iinc (G : ownSt p l e R s m args below meth c Z n0 own bytes mx rt nm T h cells slots) {k : Nat} {d : Int} {v : Int32} {L' : Array Slot} (hd : decode bytes pc = .ok (.iinc k d, 3)) (hv : Ls[k]? = some (.val (.int v))) (hl : storeLocals Ls k (.int (v + Int32.ofInt d)) = some L') (go : ownGo p e m below n0 En Q T (pc + 3) L' S) : ownGo p e m below n0 En Q T pc Ls S := by
  obtain ⟨⟨hx, hZ, hby, hml, hown, hnm, hret, hlk⟩, locs, X, eT, hN⟩ := G
  exact ownGo.step (fun t k => XS.iinc X.here hx rfl (hb hby hd) hv (l' := L') hl k) go
theorem own_goto (G : ownSt p l e R s m args below meth c Z n0 own bytes mx rt nm T h cells slots) {o : Int} {pc' : Nat} (hd : decode bytes pc = .ok (.goto o, 3)) (ho : 0 ≤ (pc : Int) + o) (hp : ((pc : Int) + o).toNat = pc') (go : ownGo p e m below n0 En Q T pc' Ls S) : ownGo p e m below n0 En Q T pc Ls S := by
  obtain ⟨⟨hx, hZ, hby, hml, hown, hnm, hret, hlk⟩, locs, X, eT, hN⟩ := G
  exact ownGo.step (fun t k => XS.goto X.here hx rfl (pc0 := pc) rfl (hb hby hd) ho hp k) go
theorem own_icmp_lt (G : ownSt p l e R s m args below meth c Z n0 own bytes mx rt nm T h cells slots) {x y : Int32} {o : Int} {pc' : Nat} (hd : decode bytes pc = .ok (.if_icmp .lt o, 3)) (ho : 0 ≤ (pc : Int) + o) (hp : ((pc : Int) + o).toNat = pc') (yes : x < y → ownGo p e m below n0 En Q T pc' Ls S) (no : ¬ x < y → ownGo p e m below n0 En Q T (pc + 3) Ls S) : ownGo p e m below n0 En Q T pc Ls (.int y :: .int x :: S) := by
  obtain ⟨⟨hx, hZ, hby, hml, hown, hnm, hret, hlk⟩, locs, X, eT, hN⟩ := G
  by_cases q : x < y
  · exact ownGo.step (fun t k => XS.icmpYes X.here hx rfl (pc0 := pc) rfl (hb hby hd) rfl (tlt q).1 ho hp k) (yes q)
  · exact ownGo.step (fun t k => XS.icmpNo X.here hx rfl (hb hby hd) rfl (flt q).1 k) (no q)
theorem own_if_lt (G : ownSt p l e R s m args below meth c Z n0 own bytes mx rt nm T h cells slots) {x : Int32} {o : Int} {pc' : Nat} (hd : decode bytes pc = .ok (.ifCond .lt o, 3)) (ho : 0 ≤ (pc : Int) + o) (hp : ((pc : Int) + o).toNat = pc') (yes : x < (0 : Int32) → ownGo p e m below n0 En Q T pc' Ls S) (no : ¬ x < (0 : Int32) → ownGo p e m below n0 En Q T (pc + 3) Ls S) : ownGo p e m below n0 En Q T pc Ls (.int x :: S) := by
  obtain ⟨⟨hx, hZ, hby, hml, hown, hnm, hret, hlk⟩, locs, X, eT, hN⟩ := G
  by_cases q : x < (0 : Int32)
  · exact ownGo.step (fun t k => XS.ifYes X.here hx rfl (pc0 := pc) rfl (hb hby hd) rfl ((if0 _ _).trans (tlt q).1) ho hp k) (yes q)
  · exact ownGo.step (fun t k => XS.ifNo X.here hx rfl (hb hby hd) rfl ((if0 _ _).trans (flt q).1) k) (no q)
theorem own_icmp_ge (G : ownSt p l e R s m args below meth c Z n0 own bytes mx rt nm T h cells slots) {x y : Int32} {o : Int} {pc' : Nat} (hd : decode bytes pc = .ok (.if_icmp .ge o, 3)) (ho : 0 ≤ (pc : Int) + o) (hp : ((pc : Int) + o).toNat = pc') (yes : ¬ x < y → ownGo p e m below n0 En Q T pc' Ls S) (no : x < y → ownGo p e m below n0 En Q T (pc + 3) Ls S) : ownGo p e m below n0 En Q T pc Ls (.int y :: .int x :: S) := by
  obtain ⟨⟨hx, hZ, hby, hml, hown, hnm, hret, hlk⟩, locs, X, eT, hN⟩ := G
  by_cases q : x < y
  · exact ownGo.step (fun t k => XS.icmpNo X.here hx rfl (hb hby hd) rfl (tlt q).2.1 k) (no q)
  · exact ownGo.step (fun t k => XS.icmpYes X.here hx rfl (pc0 := pc) rfl (hb hby hd) rfl (flt q).2.1 ho hp k) (yes q)
theorem own_if_ge (G : ownSt p l e R s m args below meth c Z n0 own bytes mx rt nm T h cells slots) {x : Int32} {o : Int} {pc' : Nat} (hd : decode bytes pc = .ok (.ifCond .ge o, 3)) (ho : 0 ≤ (pc : Int) + o) (hp : ((pc : Int) + o).toNat = pc') (yes : ¬ x < (0 : Int32) → ownGo p e m below n0 En Q T pc' Ls S) (no : x < (0 : Int32) → ownGo p e m below n0 En Q T (pc + 3) Ls S) : ownGo p e m below n0 En Q T pc Ls (.int x :: S) := by
  obtain ⟨⟨hx, hZ, hby, hml, hown, hnm, hret, hlk⟩, locs, X, eT, hN⟩ := G
  by_cases q : x < (0 : Int32)
  · exact ownGo.step (fun t k => XS.ifNo X.here hx rfl (hb hby hd) rfl ((if0 _ _).trans (tlt q).2.1) k) (no q)
  · exact ownGo.step (fun t k => XS.ifYes X.here hx rfl (pc0 := pc) rfl (hb hby hd) rfl ((if0 _ _).trans (flt q).2.1) ho hp k) (yes q)
theorem own_icmp_gt (G : ownSt p l e R s m args below meth c Z n0 own bytes mx rt nm T h cells slots) {x y : Int32} {o : Int} {pc' : Nat} (hd : decode bytes pc = .ok (.if_icmp .gt o, 3)) (ho : 0 ≤ (pc : Int) + o) (hp : ((pc : Int) + o).toNat = pc') (yes : y < x → ownGo p e m below n0 En Q T pc' Ls S) (no : ¬ y < x → ownGo p e m below n0 En Q T (pc + 3) Ls S) : ownGo p e m below n0 En Q T pc Ls (.int y :: .int x :: S) := by
  obtain ⟨⟨hx, hZ, hby, hml, hown, hnm, hret, hlk⟩, locs, X, eT, hN⟩ := G
  by_cases q : y < x
  · exact ownGo.step (fun t k => XS.icmpYes X.here hx rfl (pc0 := pc) rfl (hb hby hd) rfl (tlt q).2.2.1 ho hp k) (yes q)
  · exact ownGo.step (fun t k => XS.icmpNo X.here hx rfl (hb hby hd) rfl (flt q).2.2.1 k) (no q)
theorem own_if_gt (G : ownSt p l e R s m args below meth c Z n0 own bytes mx rt nm T h cells slots) {x : Int32} {o : Int} {pc' : Nat} (hd : decode bytes pc = .ok (.ifCond .gt o, 3)) (ho : 0 ≤ (pc : Int) + o) (hp : ((pc : Int) + o).toNat = pc') (yes : (0 : Int32) < x → ownGo p e m below n0 En Q T pc' Ls S) (no : ¬ (0 : Int32) < x → ownGo p e m below n0 En Q T (pc + 3) Ls S) : ownGo p e m below n0 En Q T pc Ls (.int x :: S) := by
  obtain ⟨⟨hx, hZ, hby, hml, hown, hnm, hret, hlk⟩, locs, X, eT, hN⟩ := G
  by_cases q : (0 : Int32) < x
  · exact ownGo.step (fun t k => XS.ifYes X.here hx rfl (pc0 := pc) rfl (hb hby hd) rfl ((if0 _ _).trans (tlt q).2.2.1) ho hp k) (yes q)
  · exact ownGo.step (fun t k => XS.ifNo X.here hx rfl (hb hby hd) rfl ((if0 _ _).trans (flt q).2.2.1) k) (no q)
theorem own_icmp_le (G : ownSt p l e R s m args below meth c Z n0 own bytes mx rt nm T h cells slots) {x y : Int32} {o : Int} {pc' : Nat} (hd : decode bytes pc = .ok (.if_icmp .le o, 3)) (ho : 0 ≤ (pc : Int) + o) (hp : ((pc : Int) + o).toNat = pc') (yes : ¬ y < x → ownGo p e m below n0 En Q T pc' Ls S) (no : y < x → ownGo p e m below n0 En Q T (pc + 3) Ls S) : ownGo p e m below n0 En Q T pc Ls (.int y :: .int x :: S) := by
  obtain ⟨⟨hx, hZ, hby, hml, hown, hnm, hret, hlk⟩, locs, X, eT, hN⟩ := G
  by_cases q : y < x
  · exact ownGo.step (fun t k => XS.icmpNo X.here hx rfl (hb hby hd) rfl (tlt q).2.2.2 k) (no q)
  · exact ownGo.step (fun t k => XS.icmpYes X.here hx rfl (pc0 := pc) rfl (hb hby hd) rfl (flt q).2.2.2 ho hp k) (yes q)
theorem own_if_le (G : ownSt p l e R s m args below meth c Z n0 own bytes mx rt nm T h cells slots) {x : Int32} {o : Int} {pc' : Nat} (hd : decode bytes pc = .ok (.ifCond .le o, 3)) (ho : 0 ≤ (pc : Int) + o) (hp : ((pc : Int) + o).toNat = pc') (yes : ¬ (0 : Int32) < x → ownGo p e m below n0 En Q T pc' Ls S) (no : (0 : Int32) < x → ownGo p e m below n0 En Q T (pc + 3) Ls S) : ownGo p e m below n0 En Q T pc Ls (.int x :: S) := by
  obtain ⟨⟨hx, hZ, hby, hml, hown, hnm, hret, hlk⟩, locs, X, eT, hN⟩ := G
  by_cases q : (0 : Int32) < x
  · exact ownGo.step (fun t k => XS.ifNo X.here hx rfl (hb hby hd) rfl ((if0 _ _).trans (tlt q).2.2.2) k) (no q)
  · exact ownGo.step (fun t k => XS.ifYes X.here hx rfl (pc0 := pc) rfl (hb hby hd) rfl ((if0 _ _).trans (flt q).2.2.2) ho hp k) (yes q)
theorem own_icmp_eq (G : ownSt p l e R s m args below meth c Z n0 own bytes mx rt nm T h cells slots) {x y : Int32} {o : Int} {pc' : Nat} (hd : decode bytes pc = .ok (.if_icmp .eq o, 3)) (ho : 0 ≤ (pc : Int) + o) (hp : ((pc : Int) + o).toNat = pc') (yes : x = y → ownGo p e m below n0 En Q T pc' Ls S) (no : ¬ x = y → ownGo p e m below n0 En Q T (pc + 3) Ls S) : ownGo p e m below n0 En Q T pc Ls (.int y :: .int x :: S) := by
  obtain ⟨⟨hx, hZ, hby, hml, hown, hnm, hret, hlk⟩, locs, X, eT, hN⟩ := G
  by_cases q : x = y
  · exact ownGo.step (fun t k => XS.icmpYes X.here hx rfl (pc0 := pc) rfl (hb hby hd) rfl (teq q).1 ho hp k) (yes q)
  · exact ownGo.step (fun t k => XS.icmpNo X.here hx rfl (hb hby hd) rfl (feq q).1 k) (no q)
theorem own_if_eq (G : ownSt p l e R s m args below meth c Z n0 own bytes mx rt nm T h cells slots) {x : Int32} {o : Int} {pc' : Nat} (hd : decode bytes pc = .ok (.ifCond .eq o, 3)) (ho : 0 ≤ (pc : Int) + o) (hp : ((pc : Int) + o).toNat = pc') (yes : x = (0 : Int32) → ownGo p e m below n0 En Q T pc' Ls S) (no : ¬ x = (0 : Int32) → ownGo p e m below n0 En Q T (pc + 3) Ls S) : ownGo p e m below n0 En Q T pc Ls (.int x :: S) := by
  obtain ⟨⟨hx, hZ, hby, hml, hown, hnm, hret, hlk⟩, locs, X, eT, hN⟩ := G
  by_cases q : x = (0 : Int32)
  · exact ownGo.step (fun t k => XS.ifYes X.here hx rfl (pc0 := pc) rfl (hb hby hd) rfl ((if0 _ _).trans (teq q).1) ho hp k) (yes q)
  · exact ownGo.step (fun t k => XS.ifNo X.here hx rfl (hb hby hd) rfl ((if0 _ _).trans (feq q).1) k) (no q)
theorem own_icmp_ne (G : ownSt p l e R s m args below meth c Z n0 own bytes mx rt nm T h cells slots) {x y : Int32} {o : Int} {pc' : Nat} (hd : decode bytes pc = .ok (.if_icmp .ne o, 3)) (ho : 0 ≤ (pc : Int) + o) (hp : ((pc : Int) + o).toNat = pc') (yes : ¬ x = y → ownGo p e m below n0 En Q T pc' Ls S) (no : x = y → ownGo p e m below n0 En Q T (pc + 3) Ls S) : ownGo p e m below n0 En Q T pc Ls (.int y :: .int x :: S) := by
  obtain ⟨⟨hx, hZ, hby, hml, hown, hnm, hret, hlk⟩, locs, X, eT, hN⟩ := G
  by_cases q : x = y
  · exact ownGo.step (fun t k => XS.icmpNo X.here hx rfl (hb hby hd) rfl (teq q).2 k) (no q)
  · exact ownGo.step (fun t k => XS.icmpYes X.here hx rfl (pc0 := pc) rfl (hb hby hd) rfl (feq q).2 ho hp k) (yes q)
theorem own_if_ne (G : ownSt p l e R s m args below meth c Z n0 own bytes mx rt nm T h cells slots) {x : Int32} {o : Int} {pc' : Nat} (hd : decode bytes pc = .ok (.ifCond .ne o, 3)) (ho : 0 ≤ (pc : Int) + o) (hp : ((pc : Int) + o).toNat = pc') (yes : ¬ x = (0 : Int32) → ownGo p e m below n0 En Q T pc' Ls S) (no : x = (0 : Int32) → ownGo p e m below n0 En Q T (pc + 3) Ls S) : ownGo p e m below n0 En Q T pc Ls (.int x :: S) := by
  obtain ⟨⟨hx, hZ, hby, hml, hown, hnm, hret, hlk⟩, locs, X, eT, hN⟩ := G
  by_cases q : x = (0 : Int32)
  · exact ownGo.step (fun t k => XS.ifNo X.here hx rfl (hb hby hd) rfl ((if0 _ _).trans (teq q).2) k) (no q)
  · exact ownGo.step (fun t k => XS.ifYes X.here hx rfl (pc0 := pc) rfl (hb hby hd) rfl ((if0 _ _).trans (feq q).2) ho hp k) (yes q)
theorem own_lcif_lt (G : ownSt p l e R s m args below meth c Z n0 own bytes mx rt nm T h cells slots) {x y : Int64} {o : Int} {pc' : Nat} (hd : decode bytes pc = .ok (.lcmp, 1)) (hd' : decode bytes (pc + 1) = .ok (.ifCond .lt o, 3)) (ho : 0 ≤ ((pc + 1 : Nat) : Int) + o) (hp : (((pc + 1 : Nat) : Int) + o).toNat = pc') (yes : x < y → ownGo p e m below n0 En Q T pc' Ls S) (no : ¬ x < y → ownGo p e m below n0 En Q T (pc + 1 + 3) Ls S) : ownGo p e m below n0 En Q T pc Ls (.long y :: .long x :: S) :=
  own_lcmp G hd (own_if_lt G hd' ho hp (fun q => yes ((lw_lt _ _).mp q)) (fun q => no (fun r => q ((lw_lt _ _).mpr r))))
theorem own_lcif_ge (G : ownSt p l e R s m args below meth c Z n0 own bytes mx rt nm T h cells slots) {x y : Int64} {o : Int} {pc' : Nat} (hd : decode bytes pc = .ok (.lcmp, 1)) (hd' : decode bytes (pc + 1) = .ok (.ifCond .ge o, 3)) (ho : 0 ≤ ((pc + 1 : Nat) : Int) + o) (hp : (((pc + 1 : Nat) : Int) + o).toNat = pc') (yes : ¬ x < y → ownGo p e m below n0 En Q T pc' Ls S) (no : x < y → ownGo p e m below n0 En Q T (pc + 1 + 3) Ls S) : ownGo p e m below n0 En Q T pc Ls (.long y :: .long x :: S) :=
  own_lcmp G hd (own_if_ge G hd' ho hp (fun q => yes (fun r => q ((lw_lt _ _).mpr r))) (fun q => no ((lw_lt _ _).mp q)))
theorem own_lcif_gt (G : ownSt p l e R s m args below meth c Z n0 own bytes mx rt nm T h cells slots) {x y : Int64} {o : Int} {pc' : Nat} (hd : decode bytes pc = .ok (.lcmp, 1)) (hd' : decode bytes (pc + 1) = .ok (.ifCond .gt o, 3)) (ho : 0 ≤ ((pc + 1 : Nat) : Int) + o) (hp : (((pc + 1 : Nat) : Int) + o).toNat = pc') (yes : y < x → ownGo p e m below n0 En Q T pc' Ls S) (no : ¬ y < x → ownGo p e m below n0 En Q T (pc + 1 + 3) Ls S) : ownGo p e m below n0 En Q T pc Ls (.long y :: .long x :: S) :=
  own_lcmp G hd (own_if_gt G hd' ho hp (fun q => yes ((lw_gt _ _).mp q)) (fun q => no (fun r => q ((lw_gt _ _).mpr r))))
theorem own_lcif_le (G : ownSt p l e R s m args below meth c Z n0 own bytes mx rt nm T h cells slots) {x y : Int64} {o : Int} {pc' : Nat} (hd : decode bytes pc = .ok (.lcmp, 1)) (hd' : decode bytes (pc + 1) = .ok (.ifCond .le o, 3)) (ho : 0 ≤ ((pc + 1 : Nat) : Int) + o) (hp : (((pc + 1 : Nat) : Int) + o).toNat = pc') (yes : ¬ y < x → ownGo p e m below n0 En Q T pc' Ls S) (no : y < x → ownGo p e m below n0 En Q T (pc + 1 + 3) Ls S) : ownGo p e m below n0 En Q T pc Ls (.long y :: .long x :: S) :=
  own_lcmp G hd (own_if_le G hd' ho hp (fun q => yes (fun r => q ((lw_gt _ _).mpr r))) (fun q => no ((lw_gt _ _).mp q)))
theorem own_lcif_eq (G : ownSt p l e R s m args below meth c Z n0 own bytes mx rt nm T h cells slots) {x y : Int64} {o : Int} {pc' : Nat} (hd : decode bytes pc = .ok (.lcmp, 1)) (hd' : decode bytes (pc + 1) = .ok (.ifCond .eq o, 3)) (ho : 0 ≤ ((pc + 1 : Nat) : Int) + o) (hp : (((pc + 1 : Nat) : Int) + o).toNat = pc') (yes : x = y → ownGo p e m below n0 En Q T pc' Ls S) (no : ¬ x = y → ownGo p e m below n0 En Q T (pc + 1 + 3) Ls S) : ownGo p e m below n0 En Q T pc Ls (.long y :: .long x :: S) :=
  own_lcmp G hd (own_if_eq G hd' ho hp (fun q => yes ((lw_eq _ _).mp q)) (fun q => no (fun r => q ((lw_eq _ _).mpr r))))
theorem own_lcif_ne (G : ownSt p l e R s m args below meth c Z n0 own bytes mx rt nm T h cells slots) {x y : Int64} {o : Int} {pc' : Nat} (hd : decode bytes pc = .ok (.lcmp, 1)) (hd' : decode bytes (pc + 1) = .ok (.ifCond .ne o, 3)) (ho : 0 ≤ ((pc + 1 : Nat) : Int) + o) (hp : (((pc + 1 : Nat) : Int) + o).toNat = pc') (yes : ¬ x = y → ownGo p e m below n0 En Q T pc' Ls S) (no : x = y → ownGo p e m below n0 En Q T (pc + 1 + 3) Ls S) : ownGo p e m below n0 En Q T pc Ls (.long y :: .long x :: S) :=
  own_lcmp G hd (own_if_ne G hd' ho hp (fun q => yes (fun r => q ((lw_eq _ _).mpr r))) (fun q => no ((lw_eq _ _).mp q)))
theorem own_ifnull_null (G : ownSt p l e R s m args below meth c Z n0 own bytes mx rt nm T h cells slots) {o : Int} {pc' : Nat} (hd : decode bytes pc = .ok (.ifnull o, 3)) (ho : 0 ≤ (pc : Int) + o) (hp : ((pc : Int) + o).toNat = pc') (go : ownGo p e m below n0 En Q T pc' Ls S) : ownGo p e m below n0 En Q T pc Ls (.null :: S) := by
  obtain ⟨⟨hx, hZ, hby, hml, hown, hnm, hret, hlk⟩, locs, X, eT, hN⟩ := G
  exact ownGo.step (fun t k => XS.ifnullYes X.here hx rfl (pc0 := pc) rfl (hb hby hd) rfl ho hp k) go
theorem own_ifnull_ref (G : ownSt p l e R s m args below meth c Z n0 own bytes mx rt nm T h cells slots) {o : Int} (hd : decode bytes pc = .ok (.ifnull o, 3)) (go : ownGo p e m below n0 En Q T (pc + 3) Ls S) : ownGo p e m below n0 En Q T pc Ls (.ref b :: S) := by
  obtain ⟨⟨hx, hZ, hby, hml, hown, hnm, hret, hlk⟩, locs, X, eT, hN⟩ := G
  exact ownGo.step (fun t k => XS.ifnullNo X.here hx rfl (hb hby hd) rfl k) go
theorem own_ifnonnull_ref (G : ownSt p l e R s m args below meth c Z n0 own bytes mx rt nm T h cells slots) {o : Int} {pc' : Nat} (hd : decode bytes pc = .ok (.ifnonnull o, 3)) (ho : 0 ≤ (pc : Int) + o) (hp : ((pc : Int) + o).toNat = pc') (go : ownGo p e m below n0 En Q T pc' Ls S) : ownGo p e m below n0 En Q T pc Ls (.ref b :: S) := by
  obtain ⟨⟨hx, hZ, hby, hml, hown, hnm, hret, hlk⟩, locs, X, eT, hN⟩ := G
  exact ownGo.step (fun t k => XS.ifnonnullYes X.here hx rfl (pc0 := pc) rfl (hb hby hd) rfl ho hp k) go
theorem own_ifnonnull_null (G : ownSt p l e R s m args below meth c Z n0 own bytes mx rt nm T h cells slots) {o : Int} (hd : decode bytes pc = .ok (.ifnonnull o, 3)) (go : ownGo p e m below n0 En Q T (pc + 3) Ls S) : ownGo p e m below n0 En Q T pc Ls (.null :: S) := by
  obtain ⟨⟨hx, hZ, hby, hml, hown, hnm, hret, hlk⟩, locs, X, eT, hN⟩ := G
  exact ownGo.step (fun t k => XS.ifnonnullNo X.here hx rfl (hb hby hd) rfl k) go
theorem own_acmp (G : ownSt p l e R s m args below meth c Z n0 own bytes mx rt nm T h cells slots) {cd : ACond} {x y : Value} {o : Int} {pc' : Nat} {same : Bool} (hd : decode bytes pc = .ok (.if_acmp cd o, 3)) (h1 : x.isRef = true) (h2 : y.isRef = true) (hq : decide (x = y) = same) (ho : 0 ≤ (pc : Int) + o) (hp : pc' = if acV cd same = true then ((pc : Int) + o).toNat else pc + 3) (go : ownGo p e m below n0 En Q T pc' Ls S) : ownGo p e m below n0 En Q T pc Ls (y :: x :: S) := by
  obtain ⟨⟨hx, hZ, hby, hml, hown, hnm, hret, hlk⟩, locs, X, eT, hN⟩ := G
  exact ownGo.step (fun t k => Jvm.RoadKit.acmp (g := mkF m pc Ls (y :: x :: S)) X hx rfl h1 h2 (pc0 := pc) rfl (hb hby hd) rfl hq ho hp k) go
theorem own_ret (G : ownSt p l e R s m args below meth c Z n0 own bytes mx rt nm T h cells slots) (hd : decode bytes pc = .ok (.return_, 1)) (hrt : rt = none) (hc : cells ≤ R.cells) (hs : slots ≤ R.slots) (q : Q none h) : ownGo p e m below n0 (ownEnd s R) Q T pc Ls [] := by
  obtain ⟨⟨hx, hZ, hby, hml, hown, hnm, hret, hlk⟩, locs, X, eT, hN⟩ := G
  obtain ⟨fs, hr, hrun, hended, hW, hsame⟩ := X.leave (v := none) (fun _ => rfl)
  exact ⟨_, _, X.returnOut hx (hret.trans hrt) (hb hby hd) hr, hrun, hended, _, _, rfl, ⟨by show Q none T.heap; rw [eT]; exact q, hN⟩, ⟨_, rfl⟩, hW, hsame.mono hc hs⟩
theorem own_ireturn (G : ownSt p l e R s m args below meth c Z n0 own bytes mx rt nm T h cells slots) {z : Int32} (hd : decode bytes pc = .ok (.ireturn, 1)) (hrt : rt = some .int) (hc : cells ≤ R.cells) (hs : slots ≤ R.slots) (q : Q (some (.int z)) h) : ownGo p e m below n0 (ownEnd s R) Q T pc Ls (.int z :: S) := by
  obtain ⟨⟨hx, hZ, hby, hml, hown, hnm, hret, hlk⟩, locs, X, eT, hN⟩ := G
  obtain ⟨fs, hr, hrun, hended, hW, hsame⟩ := X.leave (v := some (.int z)) (fun h => by rw [hret, hrt] at h; cases h)
  exact ⟨_, _, retOut X hx (hret.trans hrt) rfl (Or.inl ⟨rfl, Or.inl rfl, _, rfl⟩) (hb hby hd) hr, hrun, hended, _, _, rfl, ⟨by show Q _ T.heap; rw [eT]; exact q, hN⟩, ⟨_, rfl⟩, hW, hsame.mono hc hs⟩
theorem own_zreturn (G : ownSt p l e R s m args below meth c Z n0 own bytes mx rt nm T h cells slots) {z : Int32} (hd : decode bytes pc = .ok (.ireturn, 1)) (hrt : rt = some .boolean) (hc : cells ≤ R.cells) (hs : slots ≤ R.slots) (q : Q (some (.int (nar .boolean z))) h) : ownGo p e m below n0 (ownEnd s R) Q T pc Ls (.int z :: S) := by
  obtain ⟨⟨hx, hZ, hby, hml, hown, hnm, hret, hlk⟩, locs, X, eT, hN⟩ := G
  obtain ⟨fs, hr, hrun, hended, hW, hsame⟩ := X.leave (v := some (.int (nar .boolean z))) (fun h => by rw [hret, hrt] at h; cases h)
  exact ⟨_, _, retN X hx (t := .boolean) (hret.trans hrt) (by simp) (hb hby hd) hr, hrun, hended, _, _, rfl, ⟨by show Q _ T.heap; rw [eT]; exact q, hN⟩, ⟨_, rfl⟩, hW, hsame.mono hc hs⟩
theorem own_lreturn (G : ownSt p l e R s m args below meth c Z n0 own bytes mx rt nm T h cells slots) {z : Int64} (hd : decode bytes pc = .ok (.lreturn, 1)) (hrt : rt = some .long) (hc : cells ≤ R.cells) (hs : slots ≤ R.slots) (q : Q (some (.long z)) h) : ownGo p e m below n0 (ownEnd s R) Q T pc Ls (.long z :: S) := by
  obtain ⟨⟨hx, hZ, hby, hml, hown, hnm, hret, hlk⟩, locs, X, eT, hN⟩ := G
  obtain ⟨fs, hr, hrun, hended, hW, hsame⟩ := X.leave (v := some (.long z)) (fun h => by rw [hret, hrt] at h; cases h)
  exact ⟨_, _, retOut X hx (hret.trans hrt) rfl (Or.inr (Or.inl ⟨rfl, rfl, _, rfl⟩)) (hb hby hd) hr, hrun, hended, _, _, rfl, ⟨by show Q _ T.heap; rw [eT]; exact q, hN⟩, ⟨_, rfl⟩, hW, hsame.mono hc hs⟩
theorem own_areturn (G : ownSt p l e R s m args below meth c Z n0 own bytes mx rt nm T h cells slots) {v : Value} {t : FieldType} (hd : decode bytes pc = .ok (.areturn, 1)) (hrt : rt = some t) (ht : t.isReference = true) (hv : v.isRef = true) (hn : narrow t v = v) (hc : cells ≤ R.cells) (hs : slots ≤ R.slots) (q : Q (some v) h) : ownGo p e m below n0 (ownEnd s R) Q T pc Ls (v :: S) := by
  obtain ⟨⟨hx, hZ, hby, hml, hown, hnm, hret, hlk⟩, locs, X, eT, hN⟩ := G
  obtain ⟨fs, hr, hrun, hended, hW, hsame⟩ := X.leave (v := some v) (fun h => by rw [hret, hrt] at h; cases h)
  exact ⟨_, _, retOut X hx (hret.trans hrt) hn (Or.inr (Or.inr (Or.inr (Or.inr ⟨rfl, ht, hv⟩)))) (hb hby hd) hr, hrun, hended, _, _, rfl, ⟨by show Q _ T.heap; rw [eT]; exact q, hN⟩, ⟨_, rfl⟩, hW, hsame.mono hc hs⟩
theorem own_ldcInt (G : ownSt p l e R s m args below meth c Z n0 own bytes mx rt nm T h cells slots) {index : Nat} {v : Int32} (hd : decode bytes pc = .ok (.ldc index, 2)) (w : (Cond.constant own index v).before a0 Z = true) (go : ownGo p e m below n0 En Q T (pc + 2) Ls (.int v :: S)) : ownGo p e m below n0 En Q T pc Ls S := by
  obtain ⟨⟨hx, hZ, hby, hml, hown, hnm, hret, hlk⟩, locs, X, eT, hN⟩ := G
  exact ownGo.step (fun t k => X.ldcInt hx hown (mvT hZ w) (g := mkF m pc Ls S) rfl (hb hby hd) _ k) go
theorem own_ldcw (G : ownSt p l e R s m args below meth c Z n0 own bytes mx rt nm T h cells slots) {index : Nat} {v : Int32} (hd : decode bytes pc = .ok (.ldc_w index, 3)) (w : (Cond.constant own index v).before a0 Z = true) (go : ownGo p e m below n0 En Q T (pc + 3) Ls (.int v :: S)) : ownGo p e m below n0 En Q T pc Ls S := by
  obtain ⟨⟨hx, hZ, hby, hml, hown, hnm, hret, hlk⟩, locs, X, eT, hN⟩ := G
  exact ownGo.step (fun t k => X.ldcwInt hx hown (mvT hZ w) (g := mkF m pc Ls S) rfl (hb hby hd) _ k) go
theorem own_ldc2 (G : ownSt p l e R s m args below meth c Z n0 own bytes mx rt nm T h cells slots) {index : Nat} {v : Int64} (hd : decode bytes pc = .ok (.ldc2_w index, 3)) (w : (Cond.constantLong own index v).before a0 Z = true) (go : ownGo p e m below n0 En Q T (pc + 3) Ls (.long v :: S)) : ownGo p e m below n0 En Q T pc Ls S := by
  obtain ⟨⟨hx, hZ, hby, hml, hown, hnm, hret, hlk⟩, locs, X, eT, hN⟩ := G
  exact ownGo.step (fun t k => X.ldc2Long hx hown (mvT hZ w) (g := mkF m pc Ls S) rfl (hb hby hd) _ k) go
theorem own_getF (G : ownSt p l e R s m args below meth c Z n0 own bytes mx rt nm T h cells slots) {R0 O n d : String} {index : Nat} {v : Value} (hd : decode bytes pc = .ok (.getfield index, 3)) (w : (Cond.fieldLink own index R0 n d).before a0 Z = true) (via : Via Z R0 O n d) (F : Fld Z h a O n d v)
    (go : ∀ T', ownSt p l e R s m args below meth c Z n0 own bytes mx rt nm T' h cells slots → ownGo p e m below n0 En Q T' (pc + 3) Ls (v :: S)) : ownGo p e m below n0 En Q T pc Ls (.ref a :: S) := by
  obtain ⟨⟨hx, hZ, hby, hml, hown, hnm, hret, hlk⟩, locs, X, eT, hN⟩ := G
  obtain ⟨T', X', e', st⟩ := getF X hx hZ hown (host := "") (Or.inl w) via eT F (g := mkF m pc Ls (.ref a :: S)) rfl rfl (hb hby hd)
  exact ownGo.step (fun t k => st t k) (go T' ⟨⟨hx, hZ, hby, hml, hown, hnm, hret, hlk⟩, locs, X', e', hN⟩)
theorem own_putF (G : ownSt p l e R s m args below meth c Z n0 own bytes mx rt nm T h cells slots) {R0 O n d C : String} {index kk : Nat} {ty : FieldType} {v old : Value} (hd : decode bytes pc = .ok (.putfield index, 3)) (w : (Cond.fieldLink own index R0 n d).before a0 Z = true) (via : Via Z R0 O n d) (F : Fld Z h a O n d old) (E : Exa Z h a C) (L : (Cond.lays C O n d).before a0 Z = true ∨ ((Cond.laysFinal C O n d).before a0 Z = true ∧ own = O ∧ nm = "<init>")) (wi : (Cond.instantiable C kk).before a0 Z = true)
    (hty : parseFieldDescriptor d = some ty) (hn : narrow ty v = v) (hf : fits ty v = true) (hfr : n0 ≤ a)
    (go : ∀ T' h', Wr h h' a (Jvm.RoadKit.slotOf Z O n d) v → ownSt p l e R s m args below meth c Z n0 own bytes mx rt nm T' h' cells slots → ownGo p e m below n0 En Q T' (pc + 3) Ls S) : ownGo p e m below n0 En Q T pc Ls (v :: .ref a :: S) := by
  obtain ⟨⟨hx, hZ, hby, hml, hown, hnm, hret, hlk⟩, locs, X, eT, hN⟩ := G
  obtain ⟨T', h', X', e', W', st⟩ := putF X hx hZ hown (host := "") (Or.inl w) via eT F E (L.imp id fun q => ⟨q.1, q.2.1, hnm.trans q.2.2⟩) wi hty hn hf (g := mkF m pc Ls (v :: .ref a :: S)) rfl rfl (hb hby hd)
  exact ownGo.step (fun t k => st t k) (go T' h' W' ⟨⟨hx, hZ, hby, hml, hown, hnm, hret, hlk⟩, _, X', e', Fr.snoc X' hN hfr⟩)
theorem own_getS (G : ownSt p l e R s m args below meth c Z n0 own bytes mx rt nm T h cells slots) {R0 O n d : String} {index : Nat} {v : Value} (hd : decode bytes pc = .ok (.getstatic index, 3)) (w : (Cond.fieldLink own index R0 n d).before a0 Z = true) (via : Via Z R0 O n d) (F : Sta Z h O n d v)
    (go : ∀ T', ownSt p l e R s m args below meth c Z n0 own bytes mx rt nm T' h cells slots → ownGo p e m below n0 En Q T' (pc + 3) Ls (v :: S)) : ownGo p e m below n0 En Q T pc Ls S := by
  obtain ⟨⟨hx, hZ, hby, hml, hown, hnm, hret, hlk⟩, locs, X, eT, hN⟩ := G
  obtain ⟨T', X', e', st⟩ := getS2 X hx hZ hown (host := "") (Or.inl w) via eT F (g := mkF m pc Ls S) rfl (hb hby hd)
  exact ownGo.step (fun t k => st t k) (go T' ⟨⟨hx, hZ, hby, hml, hown, hnm, hret, hlk⟩, locs, X', e', hN⟩)
theorem own_new (G : ownSt p l e R s m args below meth c Z n0 own bytes mx rt nm T h cells slots) {C : String} {index n : Nat} (hd : decode bytes pc = .ok (.new index, 3)) (w : (Cond.classLink own index C).before a0 Z = true) (wi : (Cond.instantiable C n).before a0 Z = true) (wz : (Cond.initialized C).before a0 Z = true) (hc : cells + 1 ≤ R.cells) (hl : slots + n ≤ R.slots)
    (go : ∀ T' h' a, a = h.size → Ext h h' → Exa Z h' a C → (∀ {O nm d : String} {ty : FieldType}, Laid Z a0 C O nm d → parseFieldDescriptor d = some ty → Fld Z h' a O nm d (defaultValue ty)) → ownSt p l e R s m args below meth c Z n0 own bytes mx rt nm T' h' (cells + 1) (slots + n) → ownGo p e m below n0 En Q T' (pc + 3) Ls (.ref a :: S)) : ownGo p e m below n0 En Q T pc Ls S := by
  obtain ⟨⟨hx, hZ, hby, hml, hown, hnm, hret, hlk⟩, locs, X, eT, hN⟩ := G
  obtain ⟨T', h', X', e', E', A', D', -, st⟩ := newO X hx hZ hown w wi wz eT (g := mkF m pc Ls S) rfl (hb hby hd) hc hl
  exact ownGo.step (fun t k => st t k) (go T' h' h.size rfl E' A' D' ⟨⟨hx, hZ, hby, hml, hown, hnm, hret, hlk⟩, locs, X', e', hN⟩)
theorem own_initO (G : ownSt p l e R s m args below meth c Z n0 own bytes mx rt nm T h cells slots) {idx : Nat} (hd : decode bytes pc = .ok (.invokespecial idx, 3)) (w1 : (Cond.methodLink own idx Lib.objectInit).before a0 Z = true) (w2 : (Cond.instanceMethod Lib.objectInit).before a0 Z = true) (w3 : (Cond.code Lib.objectInit object_method_1_code 1 none).before a0 Z = true) (hsz : Ls.size = mx) (hf : 1 ≤ R.frames) {W : Nat} (hW : (S.map fun v => v.category).sum ≤ W) (hl : W + 12 ≤ R.locals)
    (go : ∀ T', ownSt p l e R s m args below meth c Z n0 own bytes mx rt nm T' h cells slots → ownGo p e m below n0 En Q T' (pc + 3) Ls S) : ownGo p e m below n0 En Q T pc Ls (.ref a :: S) := by
  obtain ⟨⟨hx, hZ, hby, hml, hown, hnm, hret, hlk⟩, locs, X, eT, hN⟩ := G
  obtain ⟨T', X', e', st⟩ := initO X hx hZ hown w1 w2 w3 eT (g := mkF m pc Ls (.ref a :: S)) rfl (hsz.trans hml.symm) rfl (hb hby hd) hf (W := W) (by show 2 * 0 + _ ≤ _; omega) hl
  exact ownGo.step (fun t k => st t k) (go T' ⟨⟨hx, hZ, hby, hml, hown, hnm, hret, hlk⟩, locs, X', e', hN⟩)
/-- an array of n places: place j holds f j -/
def ownArr (Z : State) (h : Heap) (a : Addr) (ty : FieldType) (n : Nat) (f : Nat → Value) : Prop := ∃ cl : Cell, Arr Z h a cl ty ∧ cl.slots.size = n ∧ ∀ j, j < n → cl.slots[j]? = some (f j)
variable {ty : FieldType} {n i : Nat} {f g : Nat → Value} {j : Int32}
theorem ownArr.lt (A : ownArr Z h a ty n f) : a < h.size := by obtain ⟨cl, A, -⟩ := A; exact A.lt
theorem ownArr.ext (A : ownArr Z h a ty n f) (E : Ext h h') : ownArr Z h' a ty n f := by obtain ⟨cl, A, r⟩ := A; exact ⟨cl, A.ext E, r⟩
theorem ownArr.keep (A : ownArr Z h a ty n f) {ws : List Addr} (K : Keep h h' ws) (q : a ∉ ws) : ownArr Z h' a ty n f := by obtain ⟨cl, A, r⟩ := A; exact ⟨cl, ⟨K.2.1 a cl A.1 q, A.2⟩, r⟩
theorem ownArr.congr (A : ownArr Z h a ty n f) (q : ∀ j, j < n → f j = g j) : ownArr Z h a ty n g := by obtain ⟨cl, A, r1, r2⟩ := A; exact ⟨cl, A, r1, fun j hj => by rw [← q j hj]; exact r2 j hj⟩
theorem ownArr.other (A : ownArr Z h a ty n f) {sl : Nat} {v : Value} (W : Wr h h' b sl v) (q : a ≠ b) : ownArr Z h' a ty n f := by obtain ⟨cl, A, r⟩ := A; exact ⟨cl, A.other W q, r⟩
theorem ownArr.same (A : ownArr Z h a ty n f) {v : Value} (W : Wr h h' a i v) : ownArr Z h' a ty n (fun j => if j = i then v else f j) := by
  obtain ⟨cl, A, r1, r2⟩ := A
  refine ⟨_, A.same W, by rw [sz_set]; exact r1, fun j hj => ?_⟩
  by_cases q : j = i
  · subst q; simp [Cell.setSlot, r1, hj]
  · simp only [if_neg q]; rw [← r2 j hj]; exact Array.getElem?_setIfInBounds_ne (Ne.symm q)
theorem ownArr.wr (A : ownArr Z h a ty n f) {v : Value} (W : Wr h h' b i v) : ownArr Z h' a ty n (fun j => if a = b ∧ j = i then v else f j) := by
  by_cases q : a = b
  · subst q; exact (A.same W).congr fun j _ => by simp
  · exact (A.other W q).congr fun j _ => by simp [q]
theorem own_in {cl : Cell} (S : cl.slots.size = n) (ix : ¬ j < 0 ∧ j.toNatClampNeg = i ∧ i < n) : ¬ (j < 0 ∨ cl.slots.size ≤ j.toNatClampNeg) := by
  obtain ⟨q1, q2, q3⟩ := ix; rw [S, q2]; intro q; exact q.elim q1 fun r => absurd q3 (Nat.not_lt.mpr r)
theorem own_iaload (G : ownSt p l e R s m args below meth c Z n0 own bytes mx rt nm T h cells slots) {v : Value} (hd : decode bytes pc = .ok (.iaload, 1)) (A : ownArr Z h a .int n f) (ix : ¬ j < 0 ∧ j.toNatClampNeg = i ∧ i < n) (hv : f i = v) (go : ownGo p e m below n0 En Q T (pc + 1) Ls (v :: S)) : ownGo p e m below n0 En Q T pc Ls (.int j :: .ref a :: S) := by
  obtain ⟨⟨hx, hZ, hby, hml, hown, hnm, hret, hlk⟩, locs, X, eT, hN⟩ := G
  obtain ⟨cl, A, r1, r2⟩ := A
  exact ownGo.step (fun t k => X.iaload hx (by rw [eT]; exact A.1) (State.isArrayOf_alike hZ.alike A.2.1) A.2.2 (own_in r1 ix) (by rw [ix.2.1, ← hv]; exact r2 i ix.2.2) (g := mkF m pc Ls (.int j :: .ref a :: S)) rfl rfl (hb hby hd) _ k) go
theorem own_laload (G : ownSt p l e R s m args below meth c Z n0 own bytes mx rt nm T h cells slots) {v : Value} (hd : decode bytes pc = .ok (.laload, 1)) (A : ownArr Z h a .long n f) (ix : ¬ j < 0 ∧ j.toNatClampNeg = i ∧ i < n) (hv : f i = v) (go : ownGo p e m below n0 En Q T (pc + 1) Ls (v :: S)) : ownGo p e m below n0 En Q T pc Ls (.int j :: .ref a :: S) := by
  obtain ⟨⟨hx, hZ, hby, hml, hown, hnm, hret, hlk⟩, locs, X, eT, hN⟩ := G
  obtain ⟨cl, A, r1, r2⟩ := A
  exact ownGo.step (fun t k => X.laload hx (by rw [eT]; exact A.1) (State.isArrayOf_alike hZ.alike A.2.1) A.2.2 (own_in r1 ix) (by rw [ix.2.1, ← hv]; exact r2 i ix.2.2) (g := mkF m pc Ls (.int j :: .ref a :: S)) rfl rfl (hb hby hd) _ k) go
theorem own_baload (G : ownSt p l e R s m args below meth c Z n0 own bytes mx rt nm T h cells slots) {v : Value} (hd : decode bytes pc = .ok (.baload, 1)) (A : ownArr Z h a .byte n f) (ix : ¬ j < 0 ∧ j.toNatClampNeg = i ∧ i < n) (hv : f i = v) (go : ownGo p e m below n0 En Q T (pc + 1) Ls (v :: S)) : ownGo p e m below n0 En Q T pc Ls (.int j :: .ref a :: S) := by
  obtain ⟨⟨hx, hZ, hby, hml, hown, hnm, hret, hlk⟩, locs, X, eT, hN⟩ := G
  obtain ⟨cl, A, r1, r2⟩ := A
  exact ownGo.step (fun t k => X.baloadBytes hx (by rw [eT]; exact A.1) (State.isArrayOf_alike hZ.alike A.2.1) A.2.2 (own_in r1 ix) (by rw [ix.2.1, ← hv]; exact r2 i ix.2.2) (g := mkF m pc Ls (.int j :: .ref a :: S)) rfl rfl (hb hby hd) _ k) go
theorem own_aaload (G : ownSt p l e R s m args below meth c Z n0 own bytes mx rt nm T h cells slots) {v : Value} (hd : decode bytes pc = .ok (.aaload, 1)) (A : ownArr Z h a ty n f) (hty : ty.isReference = true) (ix : ¬ j < 0 ∧ j.toNatClampNeg = i ∧ i < n) (hv : f i = v) (go : ownGo p e m below n0 En Q T (pc + 1) Ls (v :: S)) : ownGo p e m below n0 En Q T pc Ls (.int j :: .ref a :: S) := by
  obtain ⟨⟨hx, hZ, hby, hml, hown, hnm, hret, hlk⟩, locs, X, eT, hN⟩ := G
  obtain ⟨cl, A, r1, r2⟩ := A
  exact ownGo.step (fun t k => X.aaload hx (by rw [eT]; exact A.1) (State.isArrayOf_alike hZ.alike A.2.1) hty A.2.2 (own_in r1 ix) (by rw [ix.2.1, ← hv]; exact r2 i ix.2.2) (g := mkF m pc Ls (.int j :: .ref a :: S)) rfl rfl (hb hby hd) _ k) go
theorem own_arraylength (G : ownSt p l e R s m args below meth c Z n0 own bytes mx rt nm T h cells slots) (hd : decode bytes pc = .ok (.arraylength, 1)) (A : ownArr Z h a ty n f) (go : ownGo p e m below n0 En Q T (pc + 1) Ls (.int n.toInt32 :: S)) : ownGo p e m below n0 En Q T pc Ls (.ref a :: S) := by
  obtain ⟨⟨hx, hZ, hby, hml, hown, hnm, hret, hlk⟩, locs, X, eT, hN⟩ := G
  obtain ⟨cl, A, r1, r2⟩ := A
  subst r1
  exact ownGo.step (fun t k => X.arraylength hx (by rw [eT]; exact A.1) (State.isArrayOf_alike hZ.alike A.2.1) (g := mkF m pc Ls (.ref a :: S)) rfl rfl (hb hby hd) _ k) go
theorem own_iastore (G : ownSt p l e R s m args below meth c Z n0 own bytes mx rt nm T h cells slots) {x : Int32} (hd : decode bytes pc = .ok (.iastore, 1)) (A : ownArr Z h a .int n f) (ix : ¬ j < 0 ∧ j.toNatClampNeg = i ∧ i < n) (hfr : n0 ≤ a) (go : ∀ T' h', Wr h h' a i (.int x) → ownSt p l e R s m args below meth c Z n0 own bytes mx rt nm T' h' cells slots → ownGo p e m below n0 En Q T' (pc + 1) Ls S) : ownGo p e m below n0 En Q T pc Ls (.int x :: .int j :: .ref a :: S) := by
  obtain ⟨⟨hx, hZ, hby, hml, hown, hnm, hret, hlk⟩, locs, X, eT, hN⟩ := G
  obtain ⟨cl, A, r1, r2⟩ := A
  obtain ⟨T', h', X', e', W', st⟩ := stI X hx hZ eT A (own_in r1 ix) (g := mkF m pc Ls (.int x :: .int j :: .ref a :: S)) rfl rfl (hb hby hd)
  exact ownGo.step (fun t k => st t k) (go T' h' (ix.2.1 ▸ W') ⟨⟨hx, hZ, hby, hml, hown, hnm, hret, hlk⟩, _, X', e', Fr.snoc X' hN hfr⟩)
theorem own_lastore (G : ownSt p l e R s m args below meth c Z n0 own bytes mx rt nm T h cells slots) {x : Int64} (hd : decode bytes pc = .ok (.lastore, 1)) (A : ownArr Z h a .long n f) (ix : ¬ j < 0 ∧ j.toNatClampNeg = i ∧ i < n) (hfr : n0 ≤ a) (go : ∀ T' h', Wr h h' a i (.long x) → ownSt p l e R s m args below meth c Z n0 own bytes mx rt nm T' h' cells slots → ownGo p e m below n0 En Q T' (pc + 1) Ls S) : ownGo p e m below n0 En Q T pc Ls (.long x :: .int j :: .ref a :: S) := by
  obtain ⟨⟨hx, hZ, hby, hml, hown, hnm, hret, hlk⟩, locs, X, eT, hN⟩ := G
  obtain ⟨cl, A, r1, r2⟩ := A
  obtain ⟨T', h', X', e', W', st⟩ := stJ X hx hZ eT A (own_in r1 ix) (g := mkF m pc Ls (.long x :: .int j :: .ref a :: S)) rfl rfl (hb hby hd)
  exact ownGo.step (fun t k => st t k) (go T' h' (ix.2.1 ▸ W') ⟨⟨hx, hZ, hby, hml, hown, hnm, hret, hlk⟩, _, X', e', Fr.snoc X' hN hfr⟩)
theorem own_bastore (G : ownSt p l e R s m args below meth c Z n0 own bytes mx rt nm T h cells slots) {x : Int32} (hd : decode bytes pc = .ok (.bastore, 1)) (A : ownArr Z h a .byte n f) (ix : ¬ j < 0 ∧ j.toNatClampNeg = i ∧ i < n) (hfr : n0 ≤ a) (go : ∀ T' h', Wr h h' a i (.int (nar .byte x)) → ownSt p l e R s m args below meth c Z n0 own bytes mx rt nm T' h' cells slots → ownGo p e m below n0 En Q T' (pc + 1) Ls S) : ownGo p e m below n0 En Q T pc Ls (.int x :: .int j :: .ref a :: S) := by
  obtain ⟨⟨hx, hZ, hby, hml, hown, hnm, hret, hlk⟩, locs, X, eT, hN⟩ := G
  obtain ⟨cl, A, r1, r2⟩ := A
  obtain ⟨T', h', X', e', W', st⟩ := stB X hx hZ eT A (own_in r1 ix) (g := mkF m pc Ls (.int x :: .int j :: .ref a :: S)) rfl rfl (hb hby hd)
  exact ownGo.step (fun t k => st t k) (go T' h' (ix.2.1 ▸ W') ⟨⟨hx, hZ, hby, hml, hown, hnm, hret, hlk⟩, _, X', e', Fr.snoc X' hN hfr⟩)
theorem own_newarr (G : ownSt p l e R s m args below meth c Z n0 own bytes mx rt nm T h cells slots) {aty : ArrayType} {x : Int32} (hd : decode bytes pc = .ok (.newarray aty, 2)) (w : (Cond.arrayClass (newarray.typeOf aty)).before a0 Z = true) (hn : ¬ x < 0) {k cap : Nat} (hk : x.toNatClampNeg = k) (hcap : k ≤ cap) (hb8 : cap * 8 ≤ 536870912) (hc : cells + 1 ≤ R.cells) (hl : slots + cap ≤ R.slots)
    (go : ∀ T' h' a, a = h.size → Ext h h' → ownArr Z h' a (newarray.typeOf aty) k (fun _ => defaultValue (newarray.typeOf aty)) → ownSt p l e R s m args below meth c Z n0 own bytes mx rt nm T' h' (cells + 1) (slots + cap) → ownGo p e m below n0 En Q T' (pc + 2) Ls (.ref a :: S)) : ownGo p e m below n0 En Q T pc Ls (.int x :: S) := by
  obtain ⟨⟨hx, hZ, hby, hml, hown, hnm, hret, hlk⟩, locs, X, eT, hN⟩ := G
  subst hk
  obtain ⟨T', h', cA, X', e', E', A', st⟩ := newP X hx hZ w eT (g := mkF m pc Ls (.int x :: S)) rfl (hb hby hd) rfl hn hcap hb8 hc hl
  exact ownGo.step (fun t k => st t k) (go T' h' h.size rfl E' ⟨_, A', sz_new _ _ _, fun j hj => by simp [newA, hj]⟩ ⟨⟨hx, hZ, hby, hml, hown, hnm, hret, hlk⟩, locs, X', e', hN⟩)
theorem own_ldcFloat (G : ownSt p l e R s m args below meth c Z n0 own bytes mx rt nm T h cells slots) {index : Nat} {v : UInt32} (hd : decode bytes pc = .ok (.ldc index, 2)) (w : (Cond.constantFloat own index v).before a0 Z = true) (go : ownGo p e m below n0 En Q T (pc + 2) Ls (.float v :: S)) : ownGo p e m below n0 En Q T pc Ls S := by
  obtain ⟨⟨hx, hZ, hby, hml, hown, hnm, hret, hlk⟩, locs, X, eT, hN⟩ := G
  exact ownGo.step (fun t k => X.ldcFloatC hx hown (mvT hZ w) (g := mkF m pc Ls S) rfl (hb hby hd) _ k) go
/-- an array of references to objects of C -/
def ownRef (Z : State) (h : Heap) (a : Addr) (C : String) (n : Nat) (f : Nat → Value) : Prop := ∃ cl : Cell, Arr Z h a cl (.object C) ∧ Ovr Z cl.cls C ∧ cl.slots.size = n ∧ ∀ j, j < n → cl.slots[j]? = some (f j)
theorem ownRef.arr {C : String} (A : ownRef Z h a C n f) : ownArr Z h a (.object C) n f := by obtain ⟨cl, A, -, r⟩ := A; exact ⟨cl, A, r⟩
theorem ownRef.lt {C : String} (A : ownRef Z h a C n f) : a < h.size := A.arr.lt
theorem ownRef.ext {C : String} (A : ownRef Z h a C n f) (E : Ext h h') : ownRef Z h' a C n f := by obtain ⟨cl, A, r⟩ := A; exact ⟨cl, A.ext E, r⟩
theorem ownRef.keep {C : String} (A : ownRef Z h a C n f) {ws : List Addr} (K : Keep h h' ws) (q : a ∉ ws) : ownRef Z h' a C n f := by obtain ⟨cl, A, r⟩ := A; exact ⟨cl, ⟨K.2.1 a cl A.1 q, A.2⟩, r⟩
theorem ownRef.congr {C : String} (A : ownRef Z h a C n f) (q : ∀ j, j < n → f j = g j) : ownRef Z h a C n g := by obtain ⟨cl, A, r0, r1, r2⟩ := A; exact ⟨cl, A, r0, r1, fun j hj => by rw [← q j hj]; exact r2 j hj⟩
theorem ownRef.other {C : String} (A : ownRef Z h a C n f) {sl : Nat} {v : Value} (W : Wr h h' b sl v) (q : a ≠ b) : ownRef Z h' a C n f := by obtain ⟨cl, A, r⟩ := A; exact ⟨cl, A.other W q, r⟩
theorem ownRef.same {C : String} (A : ownRef Z h a C n f) {v : Value} (W : Wr h h' a i v) : ownRef Z h' a C n (fun j => if j = i then v else f j) := by
  obtain ⟨cl, A, r0, r1, r2⟩ := A
  refine ⟨_, A.same W, r0, by rw [sz_set]; exact r1, fun j hj => ?_⟩
  by_cases q : j = i
  · subst q; simp [Cell.setSlot, r1, hj]
  · simp only [if_neg q]; rw [← r2 j hj]; exact Array.getElem?_setIfInBounds_ne (Ne.symm q)
theorem own_aastore (G : ownSt p l e R s m args below meth c Z n0 own bytes mx rt nm T h cells slots) {C : String} {v : Value} (hd : decode bytes pc = .ok (.aastore, 1)) (A : ownRef Z h a C n f) (ix : ¬ j < 0 ∧ j.toNatClampNeg = i ∧ i < n) (hv : v = .null ∨ ∃ y, v = .ref y ∧ Ins Z h y C true) (hfr : n0 ≤ a) (go : ∀ T' h', Wr h h' a i v → ownSt p l e R s m args below meth c Z n0 own bytes mx rt nm T' h' cells slots → ownGo p e m below n0 En Q T' (pc + 1) Ls S) : ownGo p e m below n0 En Q T pc Ls (v :: .int j :: .ref a :: S) := by
  obtain ⟨⟨hx, hZ, hby, hml, hown, hnm, hret, hlk⟩, locs, X, eT, hN⟩ := G
  obtain ⟨cl, A, r0, r1, r2⟩ := A
  have F : Sto Z h a v := by
    rcases hv with rfl | ⟨y, rfl, I⟩
    · exact Or.inl rfl
    · exact Sto.of A r0 I
  obtain ⟨T', h', X', e', W', st⟩ := stR X hx hZ eT A (own_in r1 ix) rfl F (g := mkF m pc Ls (v :: .int j :: .ref a :: S)) rfl rfl (hb hby hd)
  exact ownGo.step (fun t k => st t k) (go T' h' (ix.2.1 ▸ W') ⟨⟨hx, hZ, hby, hml, hown, hnm, hret, hlk⟩, _, X', e', Fr.snoc X' hN hfr⟩)
theorem own_anewarr (G : ownSt p l e R s m args below meth c Z n0 own bytes mx rt nm T h cells slots) {C : String} {index : Nat} {x : Int32} (hd : decode bytes pc = .ok (.anewarray index, 3)) (w1 : (Cond.classLink own index C).before a0 Z = true) (w2 : (Cond.arrayOver (.object C)).before a0 Z = true) (hn : ¬ x < 0) {k cap : Nat} (hk : x.toNatClampNeg = k) (hcap : k ≤ cap) (hb8 : cap * 8 ≤ 536870912) (hc : cells + 1 ≤ R.cells) (hl : slots + cap ≤ R.slots)
    (go : ∀ T' h' a, a = h.size → Ext h h' → ownRef Z h' a C k (fun _ => .null) → ownSt p l e R s m args below meth c Z n0 own bytes mx rt nm T' h' (cells + 1) (slots + cap) → ownGo p e m below n0 En Q T' (pc + 3) Ls (.ref a :: S)) : ownGo p e m below n0 En Q T pc Ls (.int x :: S) := by
  obtain ⟨⟨hx, hZ, hby, hml, hown, hnm, hret, hlk⟩, locs, X, eT, hN⟩ := G
  subst hk
  obtain ⟨T', h', cA, X', e', E', A', O', st⟩ := newR X hx hZ hown w1 w2 eT (g := mkF m pc Ls (.int x :: S)) rfl (hb hby hd) rfl hn hcap hb8 hc hl
  exact ownGo.step (fun t k => st t k) (go T' h' h.size rfl E' ⟨_, A', O', sz_new _ _ _, fun j hj => by simp [newA, hj, defaultValue]⟩ ⟨⟨hx, hZ, hby, hml, hown, hnm, hret, hlk⟩, locs, X', e', hN⟩)
theorem own_callS (G : ownSt p l e R s m args below meth c Z n0 own bytes mx rt nm T h cells slots) {index : Nat} {y : MethodName} {by' : ByteArray} {mx' : Nat} {rt' : Option FieldType} {rm : Room} {as' : Array Value} {Q' : Option Value → Heap → Prop} (hd : decode bytes pc = .ok (.invokestatic index, 3))
    (w1 : (Cond.methodLink own index y).before a0 Z = true) (w2 : (Cond.static y).before a0 Z = true) (w3 : (Cond.initialized y.cls).before a0 Z = true) (w4 : (Cond.code y by' mx' rt').before a0 Z = true) (hy : y.cls ≠ "java/lang/invoke/MethodHandle" ∧ y.cls ≠ "java/lang/invoke/VarHandle")
    {argsL rest : List Value} (hM : ownMet l [] y by' mx' rt' rm Z n0 as' h Q') (has : as' = argsL.toArray) (hst : S = argsL.reverse ++ rest) (hsz : Ls.size = mx) (hlen : ∀ sig, parseMethodDescriptor y.desc = some sig → argsL.length = sig.parameters.length)
    {W : Nat} (hW : (rest.map fun v => v.category).sum ≤ W) (hf : rm.frames + 1 ≤ R.frames) (hl : W + (mx' + 11) + rm.locals ≤ R.locals) (hc : cells + rm.cells ≤ R.cells) (hs : slots + rm.slots ≤ R.slots)
    (go : ∀ v T' h', Q' v h' → ownSt p l e R s m args below meth c Z n0 own bytes mx rt nm T' h' (cells + rm.cells) (slots + rm.slots) → ownGo p e m below n0 En Q T' (pc + 3) Ls (v.toList ++ rest)) : ownGo p e m below n0 En Q T pc Ls S := by
  obtain ⟨⟨hx, hZ, hby, hml, hown, hnm, hret, hlk⟩, locs, X, eT, hN⟩ := G
  subst has hst
  obtain ⟨v, _, ⟨T', L', k', n'⟩, -, X', ⟨Lc, ⟨hQ, hN'⟩, l', y', z'⟩, st⟩ := Jvm.LawKit.callS X hx (y := y) hown (mvT hZ w1) (mvT hZ w2) (mvT hZ w3) (mvT hZ w4) hy (backOf (W := W) (Q := fun v h L => Q' v h ∧ Fr n0 L) hM hZ w4 w3 hf hl) (g := mkF m pc Ls (argsL.reverse ++ rest)) rfl (hsz.trans hml.symm) (argsL := argsL) (rest := rest) hlen rfl (by show 2 * 0 + _ ≤ _; omega) (hb hby hd) (fun _ _ => ⟨rfl, eT, hc, hs⟩)
  dsimp only [Pt.U, Pt.locs, Pt.cells, Pt.slots] at X' l' y' z' st hQ
  subst l' y' z'
  exact ownGo.step (fun t k => st t k) (go v T' T'.heap hQ ⟨⟨hx, hZ, hby, hml, hown, hnm, hret, hlk⟩, _, X', rfl, Fr.app hN hN'⟩)
theorem own_callSUp (G : ownSt p l e R s m args below meth c Z n0 own bytes mx rt nm T h cells slots) {owner : String} {index : Nat} {x : MethodName} {by' : ByteArray} {mx' : Nat} {rt' : Option FieldType} {rm : Room} {as' : Array Value} {Q' : Option Value → Heap → Prop} (hd : decode bytes pc = .ok (.invokestatic index, 3))
    (w1 : (Cond.methodLink own index x).before a0 Z = true) (wm : (Cond.sameMethod x.cls owner x.name x.desc).before a0 Z = true) (w2 : (Cond.static ⟨owner, x.name, x.desc⟩).before a0 Z = true) (w3 : (Cond.initialized owner).before a0 Z = true) (w4 : (Cond.code ⟨owner, x.name, x.desc⟩ by' mx' rt').before a0 Z = true) (hy : owner ≠ "java/lang/invoke/MethodHandle" ∧ owner ≠ "java/lang/invoke/VarHandle")
    {argsL rest : List Value} (hM : ownMet l [] ⟨owner, x.name, x.desc⟩ by' mx' rt' rm Z n0 as' h Q') (has : as' = argsL.toArray) (hst : S = argsL.reverse ++ rest) (hsz : Ls.size = mx) (hlen : ∀ sig, parseMethodDescriptor x.desc = some sig → argsL.length = sig.parameters.length)
    {W : Nat} (hW : (rest.map fun v => v.category).sum ≤ W) (hf : rm.frames + 1 ≤ R.frames) (hl : W + (mx' + 11) + rm.locals ≤ R.locals) (hc : cells + rm.cells ≤ R.cells) (hs : slots + rm.slots ≤ R.slots)
    (go : ∀ v T' h', Q' v h' → ownSt p l e R s m args below meth c Z n0 own bytes mx rt nm T' h' (cells + rm.cells) (slots + rm.slots) → ownGo p e m below n0 En Q T' (pc + 3) Ls (v.toList ++ rest)) : ownGo p e m below n0 En Q T pc Ls S := by
  obtain ⟨⟨hx, hZ, hby, hml, hown, hnm, hret, hlk⟩, locs, X, eT, hN⟩ := G
  subst has hst
  have w4s : (Cond.code ⟨owner, x.name, x.desc⟩ by' mx' rt').before args s = true := mvT hZ w4
  obtain ⟨mk, hnamed⟩ := Cond.code_named w4s
  obtain ⟨methM, cM, hmethM, -, -, -, -, -, -, hsigM⟩ := Cond.code_spec hnamed w4s
  obtain ⟨v, _, ⟨T', L', k', n'⟩, -, X', ⟨Lc, ⟨hQ, hN'⟩, l', y', z'⟩, st⟩ := X.staticBackUp hx (x := x) hown (mvT hZ w1) (mvT hZ wm) (mvT hZ w2) (mvT hZ w3) hnamed hmethM hsigM hy (backOf (W := W) (Q := fun v h L => Q' v h ∧ Fr n0 L) hM hZ w4 w3 hf hl) (g := mkF m pc Ls (argsL.reverse ++ rest)) rfl (hsz.trans hml.symm) (Steps.refl _) (argsL := argsL) (rest := rest) hlen rfl (by show 2 * 0 + _ ≤ _; omega) (hb hby hd) (fun _ _ => ⟨rfl, eT, hc, hs⟩)
  dsimp only [Pt.U, Pt.locs, Pt.cells, Pt.slots] at X' l' y' z' st hQ
  subst l' y' z'
  exact ownGo.step (fun t k => st.trans k) (go v T' T'.heap hQ ⟨⟨hx, hZ, hby, hml, hown, hnm, hret, hlk⟩, _, X', rfl, Fr.app hN hN'⟩)
theorem own_special (G : ownSt p l e R s m args below meth c Z n0 own bytes mx rt nm T h cells slots) {index : Nat} {y : MethodName} {by' : ByteArray} {mx' : Nat} {rm : Room} {as' : Array Value} {Q' : Option Value → Heap → Prop} (hd : decode bytes pc = .ok (.invokespecial index, 3)) (hy1 : y.name = "<init>")
    (w1 : (Cond.methodLink own index y).before a0 Z = true) (w2 : (Cond.instanceMethod y).before a0 Z = true) (w3 : (Cond.initialized y.cls).before a0 Z = true) (w4 : (Cond.code y by' mx' none).before a0 Z = true) (hy : y.cls ≠ "java/lang/invoke/MethodHandle" ∧ y.cls ≠ "java/lang/invoke/VarHandle")
    {argsL rest : List Value} (hM : ownMet l [] y by' mx' none rm Z n0 as' h Q') (has : as' = (.ref a :: argsL).toArray) (hst : S = argsL.reverse ++ .ref a :: rest) (hsz : Ls.size = mx) (hlen : ∀ sig, parseMethodDescriptor y.desc = some sig → argsL.length = sig.parameters.length)
    {W : Nat} (hW : (rest.map fun v => v.category).sum ≤ W) (hf : rm.frames + 1 ≤ R.frames) (hl : W + (mx' + 11) + rm.locals ≤ R.locals) (hc : cells + rm.cells ≤ R.cells) (hs : slots + rm.slots ≤ R.slots)
    (go : ∀ v T' h', Q' v h' → ownSt p l e R s m args below meth c Z n0 own bytes mx rt nm T' h' (cells + rm.cells) (slots + rm.slots) → ownGo p e m below n0 En Q T' (pc + 3) Ls (v.toList ++ rest)) : ownGo p e m below n0 En Q T pc Ls S := by
  obtain ⟨⟨hx, hZ, hby, hml, hown, hnm, hret, hlk⟩, locs, X, eT, hN⟩ := G
  subst has hst
  obtain ⟨v, _, ⟨T', L', k', n'⟩, -, X', ⟨Lc, ⟨hQ, hN'⟩, l', y', z'⟩, st⟩ := X.specialBack hx (y := y) hy1 hown (mvT hZ w1) (mvT hZ w2) (mvT hZ w4) hy (backOf (W := W) (Q := fun v h L => Q' v h ∧ Fr n0 L) hM hZ w4 w3 hf hl) (g := mkF m pc Ls (argsL.reverse ++ .ref a :: rest)) rfl (hsz.trans hml.symm) (Steps.refl _) (a := a) (argsL := argsL) (rest := rest) hlen rfl (by show 2 * 0 + _ ≤ _; omega) (hb hby hd) (fun _ _ => ⟨rfl, eT, hc, hs⟩)
  dsimp only [Pt.U, Pt.locs, Pt.cells, Pt.slots] at X' l' y' z' st hQ
  subst l' y' z'
  exact ownGo.step (fun t k => st.trans k) (go v T' T'.heap hQ ⟨⟨hx, hZ, hby, hml, hown, hnm, hret, hlk⟩, _, X', rfl, Fr.app hN hN'⟩)
theorem own_virtual (G : ownSt p l e R s m args below meth c Z n0 own bytes mx rt nm T h cells slots) {C : String} {index : Nat} {y : MethodName} {by' : ByteArray} {mx' : Nat} {rt' : Option FieldType} {rm : Room} {as' : Array Value} {Q' : Option Value → Heap → Prop} (hd : decode bytes pc = .ok (.invokevirtual index, 3))
    (w1 : (Cond.methodLink own index y).before a0 Z = true) (w2 : (Cond.declares y).before a0 Z = true) (ws : (Cond.selects C y y).before a0 Z = true) (wi : (Cond.instanceMethod y).before a0 Z = true) (w3 : (Cond.initialized y.cls).before a0 Z = true) (w4 : (Cond.code y by' mx' rt').before a0 Z = true) (hy : y.cls ≠ "java/lang/invoke/MethodHandle" ∧ y.cls ≠ "java/lang/invoke/VarHandle")
    {argsL rest : List Value} (E : Exa Z h a C) (hM : ownMet l [] y by' mx' rt' rm Z n0 as' h Q') (has : as' = (.ref a :: argsL).toArray) (hst : S = argsL.reverse ++ .ref a :: rest) (hsz : Ls.size = mx) (hlen : ∀ sig, parseMethodDescriptor y.desc = some sig → argsL.length = sig.parameters.length)
    {W : Nat} (hW : (rest.map fun v => v.category).sum ≤ W) (hf : rm.frames + 1 ≤ R.frames) (hl : W + (mx' + 11) + rm.locals ≤ R.locals) (hc : cells + rm.cells ≤ R.cells) (hs : slots + rm.slots ≤ R.slots)
    (go : ∀ v T' h', Q' v h' → ownSt p l e R s m args below meth c Z n0 own bytes mx rt nm T' h' (cells + rm.cells) (slots + rm.slots) → ownGo p e m below n0 En Q T' (pc + 3) Ls (v.toList ++ rest)) : ownGo p e m below n0 En Q T pc Ls S := by
  obtain ⟨⟨hx, hZ, hby, hml, hown, hnm, hret, hlk⟩, locs, X, eT, hN⟩ := G
  subst has hst
  obtain ⟨cq, kq, qa, qb, qc⟩ := isOf hZ eT E
  obtain ⟨v, _, ⟨T', L', k', n'⟩, -, X', ⟨Lc, ⟨hQ, hN'⟩, l', y', z'⟩, st⟩ := X.virtualBack hx (y := y) (z := y) hown (mvT hZ w1) (mvT hZ w2) (notFace_of_selects (args := #[]) (mvT hZ ws)) (mvT hZ ws) (mvT hZ wi) hy (backOf (W := W) (Q := fun v h L => Q' v h ∧ Fr n0 L) hM hZ w4 w3 hf hl) qa qc (g := mkF m pc Ls (argsL.reverse ++ .ref a :: rest)) rfl (hsz.trans hml.symm) (Steps.refl _) (argsL := argsL) (rest := rest) hlen rfl (by show 2 * 0 + _ ≤ _; omega) (hb hby hd) (fun _ _ => ⟨rfl, eT, hc, hs⟩)
  dsimp only [Pt.U, Pt.locs, Pt.cells, Pt.slots] at X' l' y' z' st hQ
  subst l' y' z'
  exact ownGo.step (fun t k => st.trans k) (go v T' T'.heap hQ ⟨⟨hx, hZ, hby, hml, hown, hnm, hret, hlk⟩, _, X', rfl, Fr.app hN hN'⟩)
theorem own_interface (G : ownSt p l e R s m args below meth c Z n0 own bytes mx rt nm T h cells slots) {C : String} {index count : Nat} {xi y : MethodName} {by' : ByteArray} {mx' : Nat} {rt' : Option FieldType} {rm : Room} {as' : Array Value} {Q' : Option Value → Heap → Prop} (hd : decode bytes pc = .ok (.invokeinterface index count, 5))
    (w1 : (Cond.methodLink own index xi).before a0 Z = true) (w2 : (Cond.declares xi).before a0 Z = true) (wf : (Cond.interfaceMethod xi.cls xi.cls xi.name xi.desc).before a0 Z = true) (ws : (Cond.selects C xi y).before a0 Z = true) (wi : (Cond.instanceMethod y).before a0 Z = true) (wp : (Cond.publicMethod y).before a0 Z = true) (wu : (Cond.unhidden C xi.name xi.desc).before a0 Z = true) (wc : (Cond.castable C xi.cls).before a0 Z = true) (w3 : (Cond.initialized y.cls).before a0 Z = true) (w4 : (Cond.code y by' mx' rt').before a0 Z = true) (hy : xi.cls ≠ "java/lang/invoke/MethodHandle" ∧ xi.cls ≠ "java/lang/invoke/VarHandle")
    {argsL rest : List Value} (E : Exa Z h a C) (hM : ownMet l [] y by' mx' rt' rm Z n0 as' h Q') (has : as' = (.ref a :: argsL).toArray) (hst : S = argsL.reverse ++ .ref a :: rest) (hsz : Ls.size = mx) (hlen : ∀ sig, parseMethodDescriptor xi.desc = some sig → argsL.length = sig.parameters.length)
    {W : Nat} (hW : (rest.map fun v => v.category).sum ≤ W) (hf : rm.frames + 1 ≤ R.frames) (hl : W + (mx' + 11) + rm.locals ≤ R.locals) (hc : cells + rm.cells ≤ R.cells) (hs : slots + rm.slots ≤ R.slots)
    (go : ∀ v T' h', Q' v h' → ownSt p l e R s m args below meth c Z n0 own bytes mx rt nm T' h' (cells + rm.cells) (slots + rm.slots) → ownGo p e m below n0 En Q T' (pc + 5) Ls (v.toList ++ rest)) : ownGo p e m below n0 En Q T pc Ls S := by
  obtain ⟨⟨hx, hZ, hby, hml, hown, hnm, hret, hlk⟩, locs, X, eT, hN⟩ := G
  subst has hst
  obtain ⟨cq, kq, qa, qb, qc⟩ := isOf hZ eT E
  obtain ⟨v, _, ⟨T', L', k', n'⟩, -, X', ⟨Lc, ⟨hQ, hN'⟩, l', y', z'⟩, st⟩ := X.interfaceBack hx (xi := xi) (y := y) hown (mvT hZ w1) (mvT hZ w2) (mvT hZ wf (by simp [Cond.onTables, Cond.keepsFace, Cond.keeps, Cond.steady, Cond.faceAtom, hy])) (mvT hZ ws) (mvT hZ wi) (mvT hZ wp) (mvT hZ wu) (mvT hZ wc) hy (backOf (W := W) (Q := fun v h L => Q' v h ∧ Fr n0 L) hM hZ w4 w3 hf hl) qa qb qc (g := mkF m pc Ls (argsL.reverse ++ .ref a :: rest)) rfl (hsz.trans hml.symm) (Steps.refl _) (argsL := argsL) (rest := rest) hlen rfl (by show 2 * 0 + _ ≤ _; omega) (hb hby hd) (fun _ _ => ⟨rfl, eT, hc, hs⟩)
  dsimp only [Pt.U, Pt.locs, Pt.cells, Pt.slots] at X' l' y' z' st hQ
  subst l' y' z'
  exact ownGo.step (fun t k => st.trans k) (go v T' T'.heap hQ ⟨⟨hx, hZ, hby, hml, hown, hnm, hret, hlk⟩, _, X', rfl, Fr.app hN hN'⟩)
theorem own_private (G : ownSt p l e R s m args below meth c Z n0 own bytes mx rt nm T h cells slots) {index : Nat} {y : MethodName} {by' : ByteArray} {mx' : Nat} {rt' : Option FieldType} {rm : Room} {as' : Array Value} {Q' : Option Value → Heap → Prop} {C : String} (hd : decode bytes pc = .ok (.invokevirtual index, 3))
    (w1 : (Cond.methodLink own index y).before a0 Z = true) (wi : (Cond.instanceMethod y).before a0 Z = true) (ws : (Cond.selects y.cls y y).before a0 Z = true) (wp : (Cond.privateMethod y).before a0 Z = true) (w3 : (Cond.initialized y.cls).before a0 Z = true) (w4 : (Cond.code y by' mx' rt').before a0 Z = true) (hy : y.cls ≠ "java/lang/invoke/MethodHandle" ∧ y.cls ≠ "java/lang/invoke/VarHandle")
    {argsL rest : List Value} (E : Exa Z h a C) (hM : ownMet l [] y by' mx' rt' rm Z n0 as' h Q') (has : as' = (.ref a :: argsL).toArray) (hst : S = argsL.reverse ++ .ref a :: rest) (hsz : Ls.size = mx) (hlen : ∀ sig, parseMethodDescriptor y.desc = some sig → argsL.length = sig.parameters.length)
    {W : Nat} (hW : (rest.map fun v => v.category).sum ≤ W) (hf : rm.frames + 1 ≤ R.frames) (hl : W + (mx' + 11) + rm.locals ≤ R.locals) (hc : cells + rm.cells ≤ R.cells) (hs : slots + rm.slots ≤ R.slots)
    (go : ∀ v T' h', Q' v h' → ownSt p l e R s m args below meth c Z n0 own bytes mx rt nm T' h' (cells + rm.cells) (slots + rm.slots) → ownGo p e m below n0 En Q T' (pc + 3) Ls (v.toList ++ rest)) : ownGo p e m below n0 En Q T pc Ls S := by
  obtain ⟨⟨hx, hZ, hby, hml, hown, hnm, hret, hlk⟩, locs, X, eT, hN⟩ := G
  subst has hst
  obtain ⟨cq, q1, q2⟩ := E.cell
  obtain ⟨v, _, ⟨T', L', k', n'⟩, -, X', ⟨Lc, ⟨hQ, hN'⟩, l', y', z'⟩, st⟩ := X.privateBack hx (y := y) hown (mvT hZ w1) (mvT hZ wi) (mvT hZ ws) (Cond.privateMethod_at (mvP hZ wp (args := #[]))) (mvT hZ w4) hy (backOf (W := W) (Q := fun v h L => Q' v h ∧ Fr n0 L) hM hZ w4 w3 hf hl) (g := mkF m pc Ls (argsL.reverse ++ .ref a :: rest)) rfl (hsz.trans hml.symm) (Steps.refl _) (a := a) (by rw [eT]; exact q1) q2 (argsL := argsL) (rest := rest) hlen rfl (by show 2 * 0 + _ ≤ _; omega) (hb hby hd) (fun _ _ => ⟨rfl, eT, hc, hs⟩)
  dsimp only [Pt.U, Pt.locs, Pt.cells, Pt.slots] at X' l' y' z' st hQ
  subst l' y' z'
  exact ownGo.step (fun t k => st.trans k) (go v T' T'.heap hQ ⟨⟨hx, hZ, hby, hml, hown, hnm, hret, hlk⟩, _, X', rfl, Fr.app hN hN'⟩)
theorem own_more (G : ownSt p l e R s m args below meth c Z n0 own bytes mx rt nm T h cells slots) {k n' : Nat} (hc : cells ≤ k) (hs : slots ≤ n') : ownSt p l e R s m args below meth c Z n0 own bytes mx rt nm T h k n' := by
  obtain ⟨⟨hx, hZ, hby, hml, hown, hnm, hret, hlk⟩, locs, X, eT, hN⟩ := G
  exact ⟨⟨hx, hZ, hby, hml, hown, hnm, hret, hlk⟩, locs, X.more hc hs, eT, hN⟩
end Own
def ownUpd {α : Type} (f : Nat → α) (i : Nat) (v : α) (j : Nat) : α := if j = i then v else f j
theorem ownArr.setL {Z : State} {h h' : Heap} {a : Addr} {n i : Nat} {f : Nat → Int64} {v : Int64} (A : ownArr Z h a .long n (fun j => .long (f j))) (W : Wr h h' a i (.long v)) : ownArr Z h' a .long n (fun j => .long (ownUpd f i v j)) :=
  (A.same W).congr fun j _ => by unfold ownUpd; by_cases q : j = i <;> simp [q]
theorem ownArr.setI {Z : State} {h h' : Heap} {a : Addr} {n i : Nat} {f : Nat → Int32} {v : Int32} (A : ownArr Z h a .int n (fun j => .int (f j))) (W : Wr h h' a i (.int v)) : ownArr Z h' a .int n (fun j => .int (ownUpd f i v j)) :=
  (A.same W).congr fun j _ => by unfold ownUpd; by_cases q : j = i <;> simp [q]
theorem ownArr.setN {Z : State} {h h' : Heap} {a : Addr} {n i : Nat} {f : Nat → Nat} {v : Nat} (A : ownArr Z h a .int n (fun j => .int (Int32.ofNat (f j)))) (W : Wr h h' a i (.int (Int32.ofNat v))) : ownArr Z h' a .int n (fun j => .int (Int32.ofNat (ownUpd f i v j))) :=
  (A.same W).congr fun j _ => by unfold ownUpd; by_cases q : j = i <;> simp [q]
theorem own_neA {a b : Nat} (h : ¬ @Eq Nat a b) : @Ne Addr a b := h
theorem own_n32 {i : Nat} (hi : i < 2147483648) : (Int32.ofNat i).toInt = (i : Int) := by
  rw [Int32.toInt_ofNat_of_lt (by simpa using hi)]
theorem own_ltN {i n : Nat} (hi : i < 2147483648) (hn : n < 2147483648) : Int32.ofNat i < Int32.ofNat n ↔ i < n := by
  rw [Int32.lt_iff_toInt_lt, own_n32 hi, own_n32 hn]; omega
theorem own_injN {i n : Nat} (hi : i < 2147483648) (hn : n < 2147483648) (h : Int32.ofNat i = Int32.ofNat n) : i = n := by
  have q := congrArg Int32.toInt h; rw [own_n32 hi, own_n32 hn] at q; omega
theorem own_clampN {i : Nat} (hi : i < 2147483648) : (Int32.ofNat i).toNatClampNeg = i := by
  show (Int32.ofNat i).toInt.toNat = i; rw [own_n32 hi]; omega
theorem own_nonneg {i : Nat} (hi : i < 2147483648) : ¬ Int32.ofNat i < 0 := by
  rw [Int32.lt_iff_toInt_lt, own_n32 hi]; show ¬ (i : Int) < 0; omega
theorem own_ixN {i n : Nat} (hi : i < n) (hn : n < 2147483648) : ¬ Int32.ofNat i < 0 ∧ (Int32.ofNat i).toNatClampNeg = i ∧ i < n := ⟨own_nonneg (by omega), own_clampN (by omega), hi⟩
theorem own_succN' (i : Nat) : Int32.ofNat i + 1 = Int32.ofNat (i + 1) := (Int32.ofNat_add i 1).symm
theorem own_predN (i : Nat) : Int32.ofNat (i + 1) - 1 = Int32.ofNat i := by
  rw [← own_succN']; exact Int32.add_sub_cancel _ _
theorem own_decN (i : Nat) : Int32.ofNat i + (-1 : Int32) = Int32.ofNat i - 1 := (Int32.sub_eq_add_neg _ _).symm
theorem own_succN (i : Nat) : Int32.ofNat i + 1 = Int32.ofNat (i + 1) := (Int32.ofNat_add i 1).symm
theorem d1_0 : decode prog_24_method_1_code 0 = .ok (.aload_n 0, 1) := by decide +kernel
theorem d1_1 : decode prog_24_method_1_code 1 = .ok (.invokespecial 1, 3) := by decide +kernel
theorem d1_4 : decode prog_24_method_1_code 4 = .ok (.bipush 32, 2) := by decide +kernel
theorem d1_6 : decode prog_24_method_1_code 6 = .ok (.iconst 1, 1) := by decide +kernel
theorem d1_7 : decode prog_24_method_1_code 7 = .ok (.iconst 2, 1) := by decide +kernel
theorem d1_8 : decode prog_24_method_1_code 8 = .ok (.iload_n 1, 1) := by decide +kernel
theorem d1_9 : decode prog_24_method_1_code 9 = .ok (.imul, 1) := by decide +kernel
theorem d1_10 : decode prog_24_method_1_code 10 = .ok (.iconst 1, 1) := by decide +kernel
theorem d1_11 : decode prog_24_method_1_code 11 = .ok (.isub, 1) := by decide +kernel
theorem d1_12 : decode prog_24_method_1_code 12 = .ok (.invokestatic 7, 3) := by decide +kernel
theorem d1_15 : decode prog_24_method_1_code 15 = .ok (.invokestatic 13, 3) := by decide +kernel
theorem d1_18 : decode prog_24_method_1_code 18 = .ok (.isub, 1) := by decide +kernel
theorem d1_19 : decode prog_24_method_1_code 19 = .ok (.istore_n 2, 1) := by decide +kernel
theorem d1_20 : decode prog_24_method_1_code 20 = .ok (.aload_n 0, 1) := by decide +kernel
theorem d1_21 : decode prog_24_method_1_code 21 = .ok (.iconst 1, 1) := by decide +kernel
theorem d1_22 : decode prog_24_method_1_code 22 = .ok (.iload_n 2, 1) := by decide +kernel
theorem d1_23 : decode prog_24_method_1_code 23 = .ok (.ishl, 1) := by decide +kernel
theorem d1_24 : decode prog_24_method_1_code 24 = .ok (.newarray .long, 2) := by decide +kernel
theorem d1_26 : decode prog_24_method_1_code 26 = .ok (.putfield 19, 3) := by decide +kernel
theorem d1_29 : decode prog_24_method_1_code 29 = .ok (.aload_n 0, 1) := by decide +kernel
theorem d1_30 : decode prog_24_method_1_code 30 = .ok (.iconst 1, 1) := by decide +kernel
theorem d1_31 : decode prog_24_method_1_code 31 = .ok (.iload_n 2, 1) := by decide +kernel
theorem d1_32 : decode prog_24_method_1_code 32 = .ok (.ishl, 1) := by decide +kernel
theorem d1_33 : decode prog_24_method_1_code 33 = .ok (.newarray .int, 2) := by decide +kernel
theorem d1_35 : decode prog_24_method_1_code 35 = .ok (.putfield 25, 3) := by decide +kernel
theorem d1_38 : decode prog_24_method_1_code 38 = .ok (.aload_n 0, 1) := by decide +kernel
theorem d1_39 : decode prog_24_method_1_code 39 = .ok (.bipush 64, 2) := by decide +kernel
theorem d1_41 : decode prog_24_method_1_code 41 = .ok (.iload_n 2, 1) := by decide +kernel
theorem d1_42 : decode prog_24_method_1_code 42 = .ok (.isub, 1) := by decide +kernel
theorem d1_43 : decode prog_24_method_1_code 43 = .ok (.putfield 29, 3) := by decide +kernel
theorem d1_46 : decode prog_24_method_1_code 46 = .ok (.aload_n 0, 1) := by decide +kernel
theorem d1_47 : decode prog_24_method_1_code 47 = .ok (.iload_n 1, 1) := by decide +kernel
theorem d1_48 : decode prog_24_method_1_code 48 = .ok (.newarray .int, 2) := by decide +kernel
theorem d1_50 : decode prog_24_method_1_code 50 = .ok (.putfield 33, 3) := by decide +kernel
theorem d1_53 : decode prog_24_method_1_code 53 = .ok (.aload_n 0, 1) := by decide +kernel
theorem d1_54 : decode prog_24_method_1_code 54 = .ok (.iload_n 1, 1) := by decide +kernel
theorem d1_55 : decode prog_24_method_1_code 55 = .ok (.putfield 36, 3) := by decide +kernel
theorem d1_58 : decode prog_24_method_1_code 58 = .ok (.return_, 1) := by decide +kernel
theorem d3_0 : decode jdk_29_method_65_code 0 = .ok (.iload_n 0, 1) := by decide +kernel
theorem d3_1 : decode jdk_29_method_65_code 1 = .ok (.iload_n 1, 1) := by decide +kernel
theorem d3_2 : decode jdk_29_method_65_code 2 = .ok (.if_icmp .lt 7, 3) := by decide +kernel
theorem d3_9 : decode jdk_29_method_65_code 9 = .ok (.iload_n 1, 1) := by decide +kernel
theorem d3_10 : decode jdk_29_method_65_code 10 = .ok (.ireturn, 1) := by decide +kernel
theorem d4_0 : decode jdk_33_method_47_code 0 = .ok (.iload_n 0, 1) := by decide +kernel
theorem d4_1 : decode jdk_33_method_47_code 1 = .ok (.ifCond .gt 14, 3) := by decide +kernel
theorem d4_15 : decode jdk_33_method_47_code 15 = .ok (.bipush 31, 2) := by decide +kernel
theorem d4_17 : decode jdk_33_method_47_code 17 = .ok (.istore_n 1, 1) := by decide +kernel
theorem d4_18 : decode jdk_33_method_47_code 18 = .ok (.iload_n 0, 1) := by decide +kernel
theorem d4_19 : decode jdk_33_method_47_code 19 = .ok (.ldc_w 264, 3) := by decide +kernel
theorem d4_22 : decode jdk_33_method_47_code 22 = .ok (.if_icmp .lt 11, 3) := by decide +kernel
theorem d4_33 : decode jdk_33_method_47_code 33 = .ok (.iload_n 0, 1) := by decide +kernel
theorem d4_34 : decode jdk_33_method_47_code 34 = .ok (.sipush 256, 3) := by decide +kernel
theorem d4_37 : decode jdk_33_method_47_code 37 = .ok (.if_icmp .lt 11, 3) := by decide +kernel
theorem d4_48 : decode jdk_33_method_47_code 48 = .ok (.iload_n 0, 1) := by decide +kernel
theorem d4_49 : decode jdk_33_method_47_code 49 = .ok (.bipush 16, 2) := by decide +kernel
theorem d4_51 : decode jdk_33_method_47_code 51 = .ok (.if_icmp .lt 10, 3) := by decide +kernel
theorem d4_61 : decode jdk_33_method_47_code 61 = .ok (.iload_n 0, 1) := by decide +kernel
theorem d4_62 : decode jdk_33_method_47_code 62 = .ok (.iconst 4, 1) := by decide +kernel
theorem d4_63 : decode jdk_33_method_47_code 63 = .ok (.if_icmp .lt 10, 3) := by decide +kernel
theorem d4_66 : decode jdk_33_method_47_code 66 = .ok (.iinc 1 (-2), 3) := by decide +kernel
theorem d4_69 : decode jdk_33_method_47_code 69 = .ok (.iload_n 0, 1) := by decide +kernel
theorem d4_70 : decode jdk_33_method_47_code 70 = .ok (.iconst 2, 1) := by decide +kernel
theorem d4_71 : decode jdk_33_method_47_code 71 = .ok (.iushr, 1) := by decide +kernel
theorem d4_72 : decode jdk_33_method_47_code 72 = .ok (.istore_n 0, 1) := by decide +kernel
theorem d4_73 : decode jdk_33_method_47_code 73 = .ok (.iload_n 1, 1) := by decide +kernel
theorem d4_74 : decode jdk_33_method_47_code 74 = .ok (.iload_n 0, 1) := by decide +kernel
theorem d4_75 : decode jdk_33_method_47_code 75 = .ok (.iconst 1, 1) := by decide +kernel
theorem d4_76 : decode jdk_33_method_47_code 76 = .ok (.iushr, 1) := by decide +kernel
theorem d4_77 : decode jdk_33_method_47_code 77 = .ok (.isub, 1) := by decide +kernel
theorem d4_78 : decode jdk_33_method_47_code 78 = .ok (.ireturn, 1) := by decide +kernel
theorem d5_0 : decode prog_24_method_2_code 0 = .ok (.aload_n 0, 1) := by decide +kernel
theorem d5_1 : decode prog_24_method_2_code 1 = .ok (.getfield 25, 3) := by decide +kernel
theorem d5_4 : decode prog_24_method_2_code 4 = .ok (.arraylength, 1) := by decide +kernel
theorem d5_5 : decode prog_24_method_2_code 5 = .ok (.iconst 1, 1) := by decide +kernel
theorem d5_6 : decode prog_24_method_2_code 6 = .ok (.isub, 1) := by decide +kernel
theorem d5_7 : decode prog_24_method_2_code 7 = .ok (.istore_n 3, 1) := by decide +kernel
theorem d5_8 : decode prog_24_method_2_code 8 = .ok (.lload_n 1, 1) := by decide +kernel
theorem d5_9 : decode prog_24_method_2_code 9 = .ok (.ldc2_w 39, 3) := by decide +kernel
theorem d5_12 : decode prog_24_method_2_code 12 = .ok (.lmul, 1) := by decide +kernel
theorem d5_13 : decode prog_24_method_2_code 13 = .ok (.aload_n 0, 1) := by decide +kernel
theorem d5_14 : decode prog_24_method_2_code 14 = .ok (.getfield 29, 3) := by decide +kernel
theorem d5_17 : decode prog_24_method_2_code 17 = .ok (.lushr, 1) := by decide +kernel
theorem d5_18 : decode prog_24_method_2_code 18 = .ok (.l2i, 1) := by decide +kernel
theorem d5_19 : decode prog_24_method_2_code 19 = .ok (.istore 4, 2) := by decide +kernel
theorem d5_21 : decode prog_24_method_2_code 21 = .ok (.aload_n 0, 1) := by decide +kernel
theorem d5_22 : decode prog_24_method_2_code 22 = .ok (.getfield 25, 3) := by decide +kernel
theorem d5_25 : decode prog_24_method_2_code 25 = .ok (.iload 4, 2) := by decide +kernel
theorem d5_27 : decode prog_24_method_2_code 27 = .ok (.iaload, 1) := by decide +kernel
theorem d5_28 : decode prog_24_method_2_code 28 = .ok (.ifCond .eq 26, 3) := by decide +kernel
theorem d5_31 : decode prog_24_method_2_code 31 = .ok (.aload_n 0, 1) := by decide +kernel
theorem d5_32 : decode prog_24_method_2_code 32 = .ok (.getfield 19, 3) := by decide +kernel
theorem d5_35 : decode prog_24_method_2_code 35 = .ok (.iload 4, 2) := by decide +kernel
theorem d5_37 : decode prog_24_method_2_code 37 = .ok (.laload, 1) := by decide +kernel
theorem d5_38 : decode prog_24_method_2_code 38 = .ok (.lload_n 1, 1) := by decide +kernel
theorem d5_39 : decode prog_24_method_2_code 39 = .ok (.lcmp, 1) := by decide +kernel
theorem d5_40 : decode prog_24_method_2_code 40 = .ok (.ifCond .eq 14, 3) := by decide +kernel
theorem d5_43 : decode prog_24_method_2_code 43 = .ok (.iload 4, 2) := by decide +kernel
theorem d5_45 : decode prog_24_method_2_code 45 = .ok (.iconst 1, 1) := by decide +kernel
theorem d5_46 : decode prog_24_method_2_code 46 = .ok (.iadd, 1) := by decide +kernel
theorem d5_47 : decode prog_24_method_2_code 47 = .ok (.iload_n 3, 1) := by decide +kernel
theorem d5_48 : decode prog_24_method_2_code 48 = .ok (.iand, 1) := by decide +kernel
theorem d5_49 : decode prog_24_method_2_code 49 = .ok (.istore 4, 2) := by decide +kernel
theorem d5_51 : decode prog_24_method_2_code 51 = .ok (.goto (-30), 3) := by decide +kernel
theorem d5_54 : decode prog_24_method_2_code 54 = .ok (.aload_n 0, 1) := by decide +kernel
theorem d5_55 : decode prog_24_method_2_code 55 = .ok (.getfield 25, 3) := by decide +kernel
theorem d5_58 : decode prog_24_method_2_code 58 = .ok (.iload 4, 2) := by decide +kernel
theorem d5_60 : decode prog_24_method_2_code 60 = .ok (.iaload, 1) := by decide +kernel
theorem d5_61 : decode prog_24_method_2_code 61 = .ok (.ifCond .ne 71, 3) := by decide +kernel
theorem d5_64 : decode prog_24_method_2_code 64 = .ok (.aload_n 0, 1) := by decide +kernel
theorem d5_65 : decode prog_24_method_2_code 65 = .ok (.getfield 41, 3) := by decide +kernel
theorem d5_68 : decode prog_24_method_2_code 68 = .ok (.aload_n 0, 1) := by decide +kernel
theorem d5_69 : decode prog_24_method_2_code 69 = .ok (.getfield 36, 3) := by decide +kernel
theorem d5_72 : decode prog_24_method_2_code 72 = .ok (.if_icmp .ne 20, 3) := by decide +kernel
theorem d5_92 : decode prog_24_method_2_code 92 = .ok (.aload_n 0, 1) := by decide +kernel
theorem d5_93 : decode prog_24_method_2_code 93 = .ok (.getfield 19, 3) := by decide +kernel
theorem d5_96 : decode prog_24_method_2_code 96 = .ok (.iload 4, 2) := by decide +kernel
theorem d5_98 : decode prog_24_method_2_code 98 = .ok (.lload_n 1, 1) := by decide +kernel
theorem d5_99 : decode prog_24_method_2_code 99 = .ok (.lastore, 1) := by decide +kernel
theorem d5_100 : decode prog_24_method_2_code 100 = .ok (.aload_n 0, 1) := by decide +kernel
theorem d5_101 : decode prog_24_method_2_code 101 = .ok (.getfield 33, 3) := by decide +kernel
theorem d5_104 : decode prog_24_method_2_code 104 = .ok (.aload_n 0, 1) := by decide +kernel
theorem d5_105 : decode prog_24_method_2_code 105 = .ok (.getfield 41, 3) := by decide +kernel
theorem d5_108 : decode prog_24_method_2_code 108 = .ok (.iload 4, 2) := by decide +kernel
theorem d5_110 : decode prog_24_method_2_code 110 = .ok (.iastore, 1) := by decide +kernel
theorem d5_111 : decode prog_24_method_2_code 111 = .ok (.aload_n 0, 1) := by decide +kernel
theorem d5_112 : decode prog_24_method_2_code 112 = .ok (.dup, 1) := by decide +kernel
theorem d5_113 : decode prog_24_method_2_code 113 = .ok (.getfield 41, 3) := by decide +kernel
theorem d5_116 : decode prog_24_method_2_code 116 = .ok (.iconst 1, 1) := by decide +kernel
theorem d5_117 : decode prog_24_method_2_code 117 = .ok (.iadd, 1) := by decide +kernel
theorem d5_118 : decode prog_24_method_2_code 118 = .ok (.putfield 41, 3) := by decide +kernel
theorem d5_121 : decode prog_24_method_2_code 121 = .ok (.aload_n 0, 1) := by decide +kernel
theorem d5_122 : decode prog_24_method_2_code 122 = .ok (.getfield 25, 3) := by decide +kernel
theorem d5_125 : decode prog_24_method_2_code 125 = .ok (.iload 4, 2) := by decide +kernel
theorem d5_127 : decode prog_24_method_2_code 127 = .ok (.aload_n 0, 1) := by decide +kernel
theorem d5_128 : decode prog_24_method_2_code 128 = .ok (.getfield 41, 3) := by decide +kernel
theorem d5_131 : decode prog_24_method_2_code 131 = .ok (.iastore, 1) := by decide +kernel
theorem d5_132 : decode prog_24_method_2_code 132 = .ok (.aload_n 0, 1) := by decide +kernel
theorem d5_133 : decode prog_24_method_2_code 133 = .ok (.getfield 25, 3) := by decide +kernel
theorem d5_136 : decode prog_24_method_2_code 136 = .ok (.iload 4, 2) := by decide +kernel
theorem d5_138 : decode prog_24_method_2_code 138 = .ok (.iaload, 1) := by decide +kernel
theorem d5_139 : decode prog_24_method_2_code 139 = .ok (.iconst 1, 1) := by decide +kernel
theorem d5_140 : decode prog_24_method_2_code 140 = .ok (.isub, 1) := by decide +kernel
theorem d5_141 : decode prog_24_method_2_code 141 = .ok (.ireturn, 1) := by decide +kernel
theorem d6_0 : decode prog_24_method_4_code 0 = .ok (.iconst 0, 1) := by decide +kernel
theorem d6_1 : decode prog_24_method_4_code 1 = .ok (.istore_n 1, 1) := by decide +kernel
theorem d6_2 : decode prog_24_method_4_code 2 = .ok (.iload_n 1, 1) := by decide +kernel
theorem d6_3 : decode prog_24_method_4_code 3 = .ok (.aload_n 0, 1) := by decide +kernel
theorem d6_4 : decode prog_24_method_4_code 4 = .ok (.getfield 41, 3) := by decide +kernel
theorem d6_7 : decode prog_24_method_4_code 7 = .ok (.if_icmp .ge 21, 3) := by decide +kernel
theorem d6_10 : decode prog_24_method_4_code 10 = .ok (.aload_n 0, 1) := by decide +kernel
theorem d6_11 : decode prog_24_method_4_code 11 = .ok (.getfield 25, 3) := by decide +kernel
theorem d6_14 : decode prog_24_method_4_code 14 = .ok (.aload_n 0, 1) := by decide +kernel
theorem d6_15 : decode prog_24_method_4_code 15 = .ok (.getfield 33, 3) := by decide +kernel
theorem d6_18 : decode prog_24_method_4_code 18 = .ok (.iload_n 1, 1) := by decide +kernel
theorem d6_19 : decode prog_24_method_4_code 19 = .ok (.iaload, 1) := by decide +kernel
theorem d6_20 : decode prog_24_method_4_code 20 = .ok (.iconst 0, 1) := by decide +kernel
theorem d6_21 : decode prog_24_method_4_code 21 = .ok (.iastore, 1) := by decide +kernel
theorem d6_22 : decode prog_24_method_4_code 22 = .ok (.iinc 1 1, 3) := by decide +kernel
theorem d6_25 : decode prog_24_method_4_code 25 = .ok (.goto (-23), 3) := by decide +kernel
theorem d6_28 : decode prog_24_method_4_code 28 = .ok (.aload_n 0, 1) := by decide +kernel
theorem d6_29 : decode prog_24_method_4_code 29 = .ok (.iconst 0, 1) := by decide +kernel
theorem d6_30 : decode prog_24_method_4_code 30 = .ok (.putfield 41, 3) := by decide +kernel
theorem d6_33 : decode prog_24_method_4_code 33 = .ok (.return_, 1) := by decide +kernel
theorem d7_0 : decode prog_24_method_3_code 0 = .ok (.aload_n 0, 1) := by decide +kernel
theorem d7_1 : decode prog_24_method_3_code 1 = .ok (.getfield 41, 3) := by decide +kernel
theorem d7_4 : decode prog_24_method_3_code 4 = .ok (.ireturn, 1) := by decide +kernel
theorem pd_0 : parseMethodDescriptor "(II)I" = some ⟨[.int, .int], some .int⟩ := by decide +kernel
theorem pd_1 : parseMethodDescriptor "(I)I" = some ⟨[.int], some .int⟩ := by decide +kernel
theorem pd_2 : parseMethodDescriptor "(I)V" = some ⟨[.int], none⟩ := by decide +kernel
theorem pd_3 : parseMethodDescriptor "()V" = some ⟨[], none⟩ := by decide +kernel
theorem pd_4 : parseMethodDescriptor "(J)I" = some ⟨[.long], some .int⟩ := by decide +kernel
theorem pd_5 : parseMethodDescriptor "()I" = some ⟨[], some .int⟩ := by decide +kernel
def ownH (k : Int64) : Nat := ((((k * (-7046029254386353131 : Int64)).toUInt64 >>> ((61 : Int32) &&& 0x3f).toInt64.toUInt64).toInt64).toInt32).toNatClampNeg
theorem own_hash (k : Int64) : ((((k * (-7046029254386353131 : Int64)).toUInt64 >>> ((61 : Int32) &&& 0x3f).toInt64.toUInt64).toInt64).toInt32) = Int32.ofNat (ownH k) ∧ ownH k < 8 := by
  have h1 : ∀ j, j < 8 → (UInt64.ofNat j).toInt64.toInt32 = Int32.ofNat j ∧ ((UInt64.ofNat j).toInt64.toInt32).toNatClampNeg = j := by decide
  have h2 : ((k * (-7046029254386353131 : Int64)).toUInt64 >>> ((61 : Int32) &&& 0x3f).toInt64.toUInt64).toNat < 8 := by
    rw [UInt64.toNat_shiftRight]
    have e : ((61 : Int32) &&& 0x3f).toInt64.toUInt64.toNat % 64 = 61 := by decide
    rw [e, Nat.shiftRight_eq_div_pow]
    have := (k * (-7046029254386353131 : Int64)).toUInt64.toNat_lt
    omega
  unfold ownH
  generalize ((k * (-7046029254386353131 : Int64)).toUInt64 >>> ((61 : Int32) &&& 0x3f).toInt64.toUInt64) = u at h2 ⊢
  have h3 := h1 u.toNat h2
  rw [UInt64.ofNat_toNat] at h3
  rw [h3.2]
  exact ⟨h3.1, h2⟩
theorem own_next : ∀ q, q < 8 → ((Int32.ofNat q + (1 : Int32)) &&& (7 : Int32)) = Int32.ofNat ((q + 1) % 8) := by decide
/-- the table's state: ks the keys in the order of their numbers; kf, nf, sf: keys, numbers, slots -/
def ownI (ks : List Int64) (kf : Nat → Int64) (nf sf : Nat → Nat) : Prop :=
  ks.length ≤ 3 ∧ (∀ q, q < 8 → nf q ≤ ks.length) ∧ (∀ q, q < 8 → nf q ≠ 0 → ks[nf q - 1]? = some (kf q)) ∧ (∀ i, i < ks.length → sf i < 8 ∧ nf (sf i) = i + 1) ∧
  (∀ q, q < 8 → nf q ≠ 0 → sf (nf q - 1) = q) ∧ (∀ q, q < 8 → nf q ≠ 0 → ∃ t, q = (ownH (kf q) + t) % 8 ∧ ∀ u, u < t → nf ((ownH (kf q) + u) % 8) ≠ 0) ∧
  (∀ q r, q < 8 → r < 8 → nf q ≠ 0 → nf r ≠ 0 → kf q = kf r → q = r)
theorem own_free {ks : List Int64} {kf : Nat → Int64} {nf sf : Nat → Nat} (I : ownI ks kf nf sf) : ∃ q, q < 8 ∧ nf q = 0 := by
  obtain ⟨i1, i2, -, -, i5, -⟩ := I
  by_cases e0 : nf 0 = 0
  · exact ⟨0, by decide, e0⟩
  by_cases e1 : nf 1 = 0
  · exact ⟨1, by decide, e1⟩
  by_cases e2 : nf 2 = 0
  · exact ⟨2, by decide, e2⟩
  by_cases e3 : nf 3 = 0
  · exact ⟨3, by decide, e3⟩
  exfalso
  have a0 := i2 0 (by decide); have a1 := i2 1 (by decide); have a2 := i2 2 (by decide); have a3 := i2 3 (by decide)
  have b0 := i5 0 (by decide) e0; have b1 := i5 1 (by decide) e1; have b2 := i5 2 (by decide) e2; have b3 := i5 3 (by decide) e3
  have n01 : nf 0 ≠ nf 1 := fun q => by rw [q, b1] at b0; omega
  have n02 : nf 0 ≠ nf 2 := fun q => by rw [q, b2] at b0; omega
  have n03 : nf 0 ≠ nf 3 := fun q => by rw [q, b3] at b0; omega
  have n12 : nf 1 ≠ nf 2 := fun q => by rw [q, b2] at b1; omega
  have n13 : nf 1 ≠ nf 3 := fun q => by rw [q, b3] at b1; omega
  have n23 : nf 2 ≠ nf 3 := fun q => by rw [q, b3] at b2; omega
  omega
theorem own_absent {ks : List Int64} {kf : Nat → Int64} {nf sf : Nat → Nat} (I : ownI ks kf nf sf) {k : Int64} {t : Nat} (hp : ∀ u, u < t → nf ((ownH k + u) % 8) ≠ 0 ∧ kf ((ownH k + u) % 8) ≠ k) (he : nf ((ownH k + t) % 8) = 0) : ∀ q, q < 8 → nf q ≠ 0 → kf q ≠ k := by
  intro q hq hn hk
  obtain ⟨-, -, -, -, -, i6, -⟩ := I
  obtain ⟨t', e1, e2⟩ := i6 q hq hn
  rw [hk] at e1 e2
  rcases Nat.lt_trichotomy t' t with r | r | r
  · exact (hp t' r).2 (by rw [← e1]; exact hk)
  · rw [r] at e1; rw [e1] at hn; exact hn he
  · exact e2 t r he
theorem own_absentL {ks : List Int64} {kf : Nat → Int64} {nf sf : Nat → Nat} (I : ownI ks kf nf sf) {k : Int64} (ha : ∀ q, q < 8 → nf q ≠ 0 → kf q ≠ k) : k ∉ ks := by
  intro hm
  obtain ⟨i, hi⟩ := List.mem_iff_getElem?.mp hm
  obtain ⟨-, -, i3, i4, -⟩ := I
  have hl : i < ks.length := (List.getElem?_eq_some_iff.mp hi).1
  obtain ⟨s1, s2⟩ := i4 i hl
  have := i3 (sf i) s1 (by omega)
  rw [s2] at this
  rw [show i + 1 - 1 = i by omega, hi] at this
  exact ha (sf i) s1 (by omega) (Option.some.inj this).symm
theorem own_insert {ks : List Int64} {kf : Nat → Int64} {nf sf : Nat → Nat} (I : ownI ks kf nf sf) {k : Int64} {t : Nat} (hp : ∀ u, u < t → nf ((ownH k + u) % 8) ≠ 0 ∧ kf ((ownH k + u) % 8) ≠ k) (he : nf ((ownH k + t) % 8) = 0) (hl : ks.length < 3) :
    ownI (ks ++ [k]) (ownUpd kf ((ownH k + t) % 8) k) (ownUpd nf ((ownH k + t) % 8) (ks.length + 1)) (ownUpd sf ks.length ((ownH k + t) % 8)) := by
  have ha := own_absent I hp he
  obtain ⟨i1, i2, i3, i4, i5, i6, i7⟩ := I
  obtain ⟨q, eq⟩ : ∃ q, q = (ownH k + t) % 8 := ⟨_, rfl⟩
  have hq : q < 8 := by omega
  rw [← eq] at he ⊢
  have nz : ∀ r, nf r ≠ 0 → ownUpd nf q (ks.length + 1) r ≠ 0 := fun r hr => by unfold ownUpd; by_cases e : r = q <;> simp [e, hr]
  have un : ∀ r, r ≠ q → ownUpd nf q (ks.length + 1) r = nf r := fun r hr => by unfold ownUpd; simp [hr]
  have uk : ∀ r, r ≠ q → ownUpd kf q k r = kf r := fun r hr => by unfold ownUpd; simp [hr]
  have qn : ownUpd nf q (ks.length + 1) q = ks.length + 1 := by unfold ownUpd; simp
  have qk : ownUpd kf q k q = k := by unfold ownUpd; simp
  have us : ∀ i, i ≠ ks.length → ownUpd sf ks.length q i = sf i := fun i hi => by unfold ownUpd; simp [hi]
  have qs : ownUpd sf ks.length q ks.length = q := by unfold ownUpd; simp
  refine ⟨by simp; omega, fun r hr => ?_, fun r hr hn => ?_, fun i hi => ?_, fun r hr hn => ?_, fun r hr hn => ?_, fun r r' hr hr' hn hn' hk => ?_⟩
  · by_cases e : r = q
    · subst e; rw [qn]; simp
    · rw [un r e]; have := i2 r hr; simp; omega
  · by_cases e : r = q
    · subst e; rw [qn, qk]; simp
    · rw [un r e] at hn ⊢; rw [uk r e]
      have := i3 r hr hn
      rw [List.getElem?_append_left (List.getElem?_eq_some_iff.mp this).1]; exact this
  · simp at hi
    by_cases e : i = ks.length
    · subst e; rw [qs, qn]; exact ⟨hq, rfl⟩
    · rw [us i e]
      obtain ⟨s1, s2⟩ := i4 i (by omega)
      refine ⟨s1, ?_⟩
      rw [un (sf i) fun r => by rw [r, he] at s2; omega]; exact s2
  · by_cases e : r = q
    · subst e; rw [qn, show ks.length + 1 - 1 = ks.length by omega, qs]
    · rw [un r e] at hn ⊢
      have := i2 r hr
      rw [us _ (by omega)]; exact i5 r hr hn
  · by_cases e : r = q
    · subst e; rw [qk]
      exact ⟨t, eq, fun u hu => nz _ (hp u hu).1⟩
    · rw [un r e] at hn; rw [uk r e]
      obtain ⟨t', e1, e2⟩ := i6 r hr hn
      exact ⟨t', e1, fun u hu => nz _ (e2 u hu)⟩
  · by_cases e : r = q
    · by_cases e' : r' = q
      · rw [e, e']
      · rw [un r' e'] at hn'; rw [e, qk, uk r' e'] at hk
        exact absurd hk.symm (ha r' hr' hn')
    · rw [un r e] at hn; rw [uk r e] at hk
      by_cases e' : r' = q
      · rw [e', qk] at hk; exact absurd hk (ha r hr hn)
      · rw [un r' e'] at hn'; rw [uk r' e'] at hk
        exact i7 r r' hr hr' hn hn' hk
def ownClr (nf : Nat → Nat) (i q : Nat) : Nat := if nf q ≤ i then 0 else nf q
def ownL (Z : State) (h : Heap) (ix ke nu sl : Addr) (sz : Nat) (kf : Nat → Int64) (nf sf : Nat → Nat) : Prop :=
  Exa Z h ix "com/example/termite/termite/engine/LongIndex" ∧ Fld Z h ix "com/example/termite/termite/engine/LongIndex" "keys" "[J" (.ref ke) ∧ Fld Z h ix "com/example/termite/termite/engine/LongIndex" "numbers" "[I" (.ref nu) ∧ Fld Z h ix "com/example/termite/termite/engine/LongIndex" "slots" "[I" (.ref sl) ∧ Fld Z h ix "com/example/termite/termite/engine/LongIndex" "shift" "I" (.int (61 : Int32)) ∧ Fld Z h ix "com/example/termite/termite/engine/LongIndex" "capacity" "I" (.int (3 : Int32)) ∧ Fld Z h ix "com/example/termite/termite/engine/LongIndex" "size" "I" (.int (Int32.ofNat sz)) ∧
  ownArr Z h ke .long 8 (fun j => .long (kf j)) ∧ ownArr Z h nu .int 8 (fun j => .int (Int32.ofNat (nf j))) ∧ ownArr Z h sl .int 3 (fun j => .int (Int32.ofNat (sf j)))
def ownN (n0 : Nat) (ix ke nu sl : Addr) : Prop := (ix ≠ ke ∧ ix ≠ nu ∧ ix ≠ sl ∧ ke ≠ nu ∧ ke ≠ sl ∧ nu ≠ sl) ∧ n0 ≤ ix ∧ n0 ≤ ke ∧ n0 ≤ nu ∧ n0 ≤ sl
section
variable {Z : State} {h h' : Heap} {ix ke nu sl : Addr} {sz n0 : Nat} {kf : Nat → Int64} {nf sf : Nat → Nat} {i : Nat}
theorem ownL.wKe {v : Int64} (L : ownL Z h ix ke nu sl sz kf nf sf) (N : ownN n0 ix ke nu sl) (W : Wr h h' ke i (.long v)) : ownL Z h' ix ke nu sl sz (ownUpd kf i v) nf sf := by
  obtain ⟨E, Fk, Fn, Fs, Fh, Fc, Fz, Ak, An, As⟩ := L
  obtain ⟨⟨n1, n2, n3, n4, n5, n6⟩, -⟩ := N
  exact ⟨E.wr W, Fk.other W (Or.inl n1), Fn.other W (Or.inl n1), Fs.other W (Or.inl n1), Fh.other W (Or.inl n1), Fc.other W (Or.inl n1), Fz.other W (Or.inl n1), Ak.setL W, An.other W n4.symm, As.other W n5.symm⟩
theorem ownL.wNu {v : Nat} (L : ownL Z h ix ke nu sl sz kf nf sf) (N : ownN n0 ix ke nu sl) (W : Wr h h' nu i (.int (Int32.ofNat v))) : ownL Z h' ix ke nu sl sz kf (ownUpd nf i v) sf := by
  obtain ⟨E, Fk, Fn, Fs, Fh, Fc, Fz, Ak, An, As⟩ := L
  obtain ⟨⟨n1, n2, n3, n4, n5, n6⟩, -⟩ := N
  exact ⟨E.wr W, Fk.other W (Or.inl n2), Fn.other W (Or.inl n2), Fs.other W (Or.inl n2), Fh.other W (Or.inl n2), Fc.other W (Or.inl n2), Fz.other W (Or.inl n2), Ak.other W n4, An.setN W, As.other W n6.symm⟩
theorem ownL.wSl {v : Nat} (L : ownL Z h ix ke nu sl sz kf nf sf) (N : ownN n0 ix ke nu sl) (W : Wr h h' sl i (.int (Int32.ofNat v))) : ownL Z h' ix ke nu sl sz kf nf (ownUpd sf i v) := by
  obtain ⟨E, Fk, Fn, Fs, Fh, Fc, Fz, Ak, An, As⟩ := L
  obtain ⟨⟨n1, n2, n3, n4, n5, n6⟩, -⟩ := N
  exact ⟨E.wr W, Fk.other W (Or.inl n3), Fn.other W (Or.inl n3), Fs.other W (Or.inl n3), Fh.other W (Or.inl n3), Fc.other W (Or.inl n3), Fz.other W (Or.inl n3), Ak.other W n5, An.other W n6, As.setN W⟩
theorem ownL.wSize {a0 : Array Value} (hw : ∀ d ∈ tables_1, d.before a0 Z = true) {v : Nat} (L : ownL Z h ix ke nu sl sz kf nf sf) (N : ownN n0 ix ke nu sl) (W : Wr h h' ix (Jvm.RoadKit.slotOf Z "com/example/termite/termite/engine/LongIndex" "size" "I") (.int (Int32.ofNat v))) : ownL Z h' ix ke nu sl v kf nf sf := by
  obtain ⟨E, Fk, Fn, Fs, Fh, Fc, Fz, Ak, An, As⟩ := L
  obtain ⟨⟨n1, n2, n3, n4, n5, n6⟩, -⟩ := N
  exact ⟨E.wr W, Fk.other W (Or.inr (slot_ne (Or.inr (hw _ (List.mem_of_getElem? (i := 20) rfl))) (Or.inl (hw _ (List.mem_of_getElem? (i := 37) rfl))) (by decide) (t := (.array .long)) (t' := .int) (by decide) (by decide))), Fn.other W (Or.inr (slot_ne (Or.inr (hw _ (List.mem_of_getElem? (i := 23) rfl))) (Or.inl (hw _ (List.mem_of_getElem? (i := 37) rfl))) (by decide) (t := (.array .int)) (t' := .int) (by decide) (by decide))), Fs.other W (Or.inr (slot_ne (Or.inr (hw _ (List.mem_of_getElem? (i := 27) rfl))) (Or.inl (hw _ (List.mem_of_getElem? (i := 37) rfl))) (by decide) (t := (.array .int)) (t' := .int) (by decide) (by decide))), Fh.other W (Or.inr (slot_ne (Or.inr (hw _ (List.mem_of_getElem? (i := 25) rfl))) (Or.inl (hw _ (List.mem_of_getElem? (i := 37) rfl))) (by decide) (t := .int) (t' := .int) (by decide) (by decide))), Fc.other W (Or.inr (slot_ne (Or.inr (hw _ (List.mem_of_getElem? (i := 29) rfl))) (Or.inl (hw _ (List.mem_of_getElem? (i := 37) rfl))) (by decide) (t := .int) (t' := .int) (by decide) (by decide))), Fz.same W, Ak.other W n1.symm, An.other W n2.symm, As.other W n3.symm⟩
end
def ownS (Z : State) (h : Heap) (ix ke nu sl : Addr) (ks : List Int64) : Prop := ∃ kf nf sf, ownI ks kf nf sf ∧ ownL Z h ix ke nu sl ks.length kf nf sf
theorem ownS.exa {Z : State} {h : Heap} {ix ke nu sl : Addr} {ks : List Int64} (V : ownS Z h ix ke nu sl ks) : Exa Z h ix "com/example/termite/termite/engine/LongIndex" := by obtain ⟨_, _, _, -, E, -⟩ := V; exact E
theorem ef_rmMax (m : MethodId)  : entryFrame m #[(.int (1 : Int32)), (.int (5 : Int32))] 2 = mkF m 0 #[.val (.int (1 : Int32)), .val (.int (5 : Int32))] [] := by first | (simp [entryFrame, mkF, argsToLocals, Value.category]; done) | rfl
set_option maxRecDepth 65536 in
set_option maxHeartbeats 40000000 in
theorem rmMax (l : Launch) (Z : State) (a0 : Array Value) (hw : ∀ d ∈ tables_1, d.before a0 Z = true)  (h0 : Heap) (n0 : Nat) (Z0 : n0 ≤ h0.size) :
    ownMet l [] (⟨"java/lang/Math", "max", "(II)I"⟩ : MethodName) jdk_29_method_65_code 2 (some .int) ({ frames := 0, cells := 0, slots := 0, locals := 0 } : Room) Z n0 #[(.int (1 : Int32)), (.int (5 : Int32))] h0 (fun v h => v = some (.int (5 : Int32)) ∧ h0 = h) := by
  refine own_body (own := "java/lang/Math") (nm := "max") (Jvm.Free.JP.mathPlain rfl (by decide +kernel)) (fun m => ef_rmMax m ) rfl rfl ?_
  intro p e s m below meth c T0 G0
  show ownGo _ _ _ _ _ _ _ T0 0 #[.val (.int (1 : Int32)), .val (.int (5 : Int32))] []
  refine own_iloadN G0 d3_0 rfl ?_
  show ownGo _ _ _ _ _ _ _ T0 1 #[.val (.int (1 : Int32)), .val (.int (5 : Int32))] [(.int (1 : Int32))]
  refine own_iloadN G0 d3_1 rfl ?_
  show ownGo _ _ _ _ _ _ _ T0 2 #[.val (.int (1 : Int32)), .val (.int (5 : Int32))] [(.int (5 : Int32)), (.int (1 : Int32))]
  refine own_icmp_lt G0 d3_2 (pc' := 9) (by decide) (by decide) (fun hc => ?_) (fun hc => False.elim (hc (by decide)))
  show ownGo _ _ _ _ _ _ _ T0 9 #[.val (.int (1 : Int32)), .val (.int (5 : Int32))] []
  refine own_iloadN G0 d3_9 rfl ?_
  show ownGo _ _ _ _ _ _ _ T0 10 #[.val (.int (1 : Int32)), .val (.int (5 : Int32))] [(.int (5 : Int32))]
  exact own_ireturn G0 d3_10 rfl (by decide) (by decide) ⟨rfl, rfl⟩
theorem pn_rmNlz : plainFor (⟨"java/lang/Integer", "numberOfLeadingZeros", "(I)I"⟩ : MethodName) = true := plainFor_of_name (by first | (simp [plainName, overriddenIn]; done) | decide +kernel)
theorem ef_rmNlz (m : MethodId)  : entryFrame m #[(.int (5 : Int32))] 2 = mkF m 0 #[.val (.int (5 : Int32)), .unset] [] := by first | (simp [entryFrame, mkF, argsToLocals, Value.category]; done) | rfl
set_option maxRecDepth 65536 in
set_option maxHeartbeats 40000000 in
theorem rmNlz (l : Launch) (Z : State) (a0 : Array Value) (hw : ∀ d ∈ tables_1, d.before a0 Z = true)  (h0 : Heap) (n0 : Nat) (Z0 : n0 ≤ h0.size) :
    ownMet l [] (⟨"java/lang/Integer", "numberOfLeadingZeros", "(I)I"⟩ : MethodName) jdk_33_method_47_code 2 (some .int) ({ frames := 0, cells := 0, slots := 0, locals := 0 } : Room) Z n0 #[(.int (5 : Int32))] h0 (fun v h => v = some (.int (29 : Int32)) ∧ h0 = h) := by
  refine own_body (own := "java/lang/Integer") (nm := "numberOfLeadingZeros") pn_rmNlz (fun m => ef_rmNlz m ) rfl rfl ?_
  intro p e s m below meth c T0 G0
  show ownGo _ _ _ _ _ _ _ T0 0 #[.val (.int (5 : Int32)), .unset] []
  refine own_iloadN G0 d4_0 rfl ?_
  show ownGo _ _ _ _ _ _ _ T0 1 #[.val (.int (5 : Int32)), .unset] [(.int (5 : Int32))]
  refine own_if_gt G0 d4_1 (pc' := 15) (by decide) (by decide) (fun hc => ?_) (fun hc => False.elim (hc (by decide)))
  show ownGo _ _ _ _ _ _ _ T0 15 #[.val (.int (5 : Int32)), .unset] []
  refine own_bipush G0 d4_15 ?_
  show ownGo _ _ _ _ _ _ _ T0 17 #[.val (.int (5 : Int32)), .unset] [(.int (31 : Int32))]
  refine own_istoreN G0 d4_17 (L' := #[.val (.int (5 : Int32)), .val (.int (31 : Int32))]) rfl ?_
  show ownGo _ _ _ _ _ _ _ T0 18 #[.val (.int (5 : Int32)), .val (.int (31 : Int32))] []
  refine own_iloadN G0 d4_18 rfl ?_
  show ownGo _ _ _ _ _ _ _ T0 19 #[.val (.int (5 : Int32)), .val (.int (31 : Int32))] [(.int (5 : Int32))]
  refine own_ldcw G0 d4_19 (hw _ (List.mem_of_getElem? (i := 17) rfl)) ?_
  show ownGo _ _ _ _ _ _ _ T0 22 #[.val (.int (5 : Int32)), .val (.int (31 : Int32))] [(.int (65536 : Int32)), (.int (5 : Int32))]
  refine own_icmp_lt G0 d4_22 (pc' := 33) (by decide) (by decide) (fun hc => ?_) (fun hc => False.elim (hc (by decide)))
  show ownGo _ _ _ _ _ _ _ T0 33 #[.val (.int (5 : Int32)), .val (.int (31 : Int32))] []
  refine own_iloadN G0 d4_33 rfl ?_
  show ownGo _ _ _ _ _ _ _ T0 34 #[.val (.int (5 : Int32)), .val (.int (31 : Int32))] [(.int (5 : Int32))]
  refine own_sipush G0 d4_34 ?_
  show ownGo _ _ _ _ _ _ _ T0 37 #[.val (.int (5 : Int32)), .val (.int (31 : Int32))] [(.int (256 : Int32)), (.int (5 : Int32))]
  refine own_icmp_lt G0 d4_37 (pc' := 48) (by decide) (by decide) (fun hc => ?_) (fun hc => False.elim (hc (by decide)))
  show ownGo _ _ _ _ _ _ _ T0 48 #[.val (.int (5 : Int32)), .val (.int (31 : Int32))] []
  refine own_iloadN G0 d4_48 rfl ?_
  show ownGo _ _ _ _ _ _ _ T0 49 #[.val (.int (5 : Int32)), .val (.int (31 : Int32))] [(.int (5 : Int32))]
  refine own_bipush G0 d4_49 ?_
  show ownGo _ _ _ _ _ _ _ T0 51 #[.val (.int (5 : Int32)), .val (.int (31 : Int32))] [(.int (16 : Int32)), (.int (5 : Int32))]
  refine own_icmp_lt G0 d4_51 (pc' := 61) (by decide) (by decide) (fun hc => ?_) (fun hc => False.elim (hc (by decide)))
  show ownGo _ _ _ _ _ _ _ T0 61 #[.val (.int (5 : Int32)), .val (.int (31 : Int32))] []
  refine own_iloadN G0 d4_61 rfl ?_
  show ownGo _ _ _ _ _ _ _ T0 62 #[.val (.int (5 : Int32)), .val (.int (31 : Int32))] [(.int (5 : Int32))]
  refine own_iconst G0 d4_62 ?_
  show ownGo _ _ _ _ _ _ _ T0 63 #[.val (.int (5 : Int32)), .val (.int (31 : Int32))] [(.int (4 : Int32)), (.int (5 : Int32))]
  refine own_icmp_lt G0 d4_63 (pc' := 73) (by decide) (by decide) (fun hc => False.elim (absurd hc (by decide))) (fun hc => ?_)
  show ownGo _ _ _ _ _ _ _ T0 66 #[.val (.int (5 : Int32)), .val (.int (31 : Int32))] []
  refine own_iinc G0 d4_66 (L' := #[.val (.int (5 : Int32)), .val (.int ((31 : Int32) + (-2 : Int32)))]) rfl rfl ?_
  show ownGo _ _ _ _ _ _ _ T0 69 #[.val (.int (5 : Int32)), .val (.int ((31 : Int32) + (-2 : Int32)))] []
  refine own_iloadN G0 d4_69 rfl ?_
  show ownGo _ _ _ _ _ _ _ T0 70 #[.val (.int (5 : Int32)), .val (.int ((31 : Int32) + (-2 : Int32)))] [(.int (5 : Int32))]
  refine own_iconst G0 d4_70 ?_
  show ownGo _ _ _ _ _ _ _ T0 71 #[.val (.int (5 : Int32)), .val (.int ((31 : Int32) + (-2 : Int32)))] [(.int (2 : Int32)), (.int (5 : Int32))]
  refine own_iushr G0 d4_71 ?_
  show ownGo _ _ _ _ _ _ _ T0 72 #[.val (.int (5 : Int32)), .val (.int ((31 : Int32) + (-2 : Int32)))] [(.int (((5 : Int32).toUInt32 >>> ((2 : Int32) &&& 31).toUInt32).toInt32))]
  refine own_istoreN G0 d4_72 (L' := #[.val (.int (((5 : Int32).toUInt32 >>> ((2 : Int32) &&& 31).toUInt32).toInt32)), .val (.int ((31 : Int32) + (-2 : Int32)))]) rfl ?_
  show ownGo _ _ _ _ _ _ _ T0 73 #[.val (.int (((5 : Int32).toUInt32 >>> ((2 : Int32) &&& 31).toUInt32).toInt32)), .val (.int ((31 : Int32) + (-2 : Int32)))] []
  refine own_iloadN G0 d4_73 rfl ?_
  show ownGo _ _ _ _ _ _ _ T0 74 #[.val (.int (((5 : Int32).toUInt32 >>> ((2 : Int32) &&& 31).toUInt32).toInt32)), .val (.int ((31 : Int32) + (-2 : Int32)))] [(.int ((31 : Int32) + (-2 : Int32)))]
  refine own_iloadN G0 d4_74 rfl ?_
  show ownGo _ _ _ _ _ _ _ T0 75 #[.val (.int (((5 : Int32).toUInt32 >>> ((2 : Int32) &&& 31).toUInt32).toInt32)), .val (.int ((31 : Int32) + (-2 : Int32)))] [(.int (((5 : Int32).toUInt32 >>> ((2 : Int32) &&& 31).toUInt32).toInt32)), (.int ((31 : Int32) + (-2 : Int32)))]
  refine own_iconst G0 d4_75 ?_
  show ownGo _ _ _ _ _ _ _ T0 76 #[.val (.int (((5 : Int32).toUInt32 >>> ((2 : Int32) &&& 31).toUInt32).toInt32)), .val (.int ((31 : Int32) + (-2 : Int32)))] [(.int (1 : Int32)), (.int (((5 : Int32).toUInt32 >>> ((2 : Int32) &&& 31).toUInt32).toInt32)), (.int ((31 : Int32) + (-2 : Int32)))]
  refine own_iushr G0 d4_76 ?_
  show ownGo _ _ _ _ _ _ _ T0 77 #[.val (.int (((5 : Int32).toUInt32 >>> ((2 : Int32) &&& 31).toUInt32).toInt32)), .val (.int ((31 : Int32) + (-2 : Int32)))] [(.int (((((5 : Int32).toUInt32 >>> ((2 : Int32) &&& 31).toUInt32).toInt32).toUInt32 >>> ((1 : Int32) &&& 31).toUInt32).toInt32)), (.int ((31 : Int32) + (-2 : Int32)))]
  refine own_isub G0 d4_77 ?_
  show ownGo _ _ _ _ _ _ _ T0 78 #[.val (.int (((5 : Int32).toUInt32 >>> ((2 : Int32) &&& 31).toUInt32).toInt32)), .val (.int ((31 : Int32) + (-2 : Int32)))] [(.int (((31 : Int32) + (-2 : Int32)) - (((((5 : Int32).toUInt32 >>> ((2 : Int32) &&& 31).toUInt32).toInt32).toUInt32 >>> ((1 : Int32) &&& 31).toUInt32).toInt32)))]
  exact own_ireturn G0 d4_78 rfl (by decide) (by decide) ⟨by decide, rfl⟩
theorem pn_rmNew : plainFor (⟨"com/example/termite/termite/engine/LongIndex", "<init>", "(I)V"⟩ : MethodName) = true := plainFor_of_name (by first | (simp [plainName, overriddenIn]; done) | decide +kernel)
theorem ef_rmNew (m : MethodId) (ix : Addr) : entryFrame m #[(.ref ix), (.int (3 : Int32))] 3 = mkF m 0 #[.val (.ref ix), .val (.int (3 : Int32)), .unset] [] := by first | (simp [entryFrame, mkF, argsToLocals, Value.category]; done) | rfl
set_option maxRecDepth 65536 in
set_option maxHeartbeats 40000000 in
theorem rmNew (l : Launch) (Z : State) (a0 : Array Value) (hw : ∀ d ∈ tables_1, d.before a0 Z = true) (ix : Addr) (h0 : Heap) (n0 : Nat) (Z0 : n0 ≤ h0.size) (E : Exa Z h0 ix "com/example/termite/termite/engine/LongIndex") (F_keys : Fld Z h0 ix "com/example/termite/termite/engine/LongIndex" "keys" "[J" .null) (F_numbers : Fld Z h0 ix "com/example/termite/termite/engine/LongIndex" "numbers" "[I" .null) (F_slots : Fld Z h0 ix "com/example/termite/termite/engine/LongIndex" "slots" "[I" .null) (F_shift : Fld Z h0 ix "com/example/termite/termite/engine/LongIndex" "shift" "I" (.int (0 : Int32))) (F_capacity : Fld Z h0 ix "com/example/termite/termite/engine/LongIndex" "capacity" "I" (.int (0 : Int32))) (F_size : Fld Z h0 ix "com/example/termite/termite/engine/LongIndex" "size" "I" (.int (0 : Int32))) (g : n0 ≤ ix) :
    ownMet l [] (⟨"com/example/termite/termite/engine/LongIndex", "<init>", "(I)V"⟩ : MethodName) prog_24_method_1_code 3 none ({ frames := 1, cells := 3, slots := 19, locals := 14 } : Room) Z n0 #[(.ref ix), (.int (3 : Int32))] h0 (fun v h => ∃ ke nu sl, v = none ∧ n0 ≤ h.size ∧ ownN n0 ix ke nu sl ∧ ownS Z h ix ke nu sl []) := by
  refine own_body (own := "com/example/termite/termite/engine/LongIndex") (nm := "<init>") pn_rmNew (fun m => ef_rmNew m ix) rfl rfl ?_
  intro p e s m below meth c T0 G0
  show ownGo _ _ _ _ _ _ _ T0 0 #[.val (.ref ix), .val (.int (3 : Int32)), .unset] []
  refine own_aloadN G0 d1_0 rfl rfl ?_
  show ownGo _ _ _ _ _ _ _ T0 1 #[.val (.ref ix), .val (.int (3 : Int32)), .unset] [(.ref ix)]
  refine own_initO G0 d1_1 (hw _ (List.mem_of_getElem? (i := 6) rfl)) (hw _ (List.mem_of_getElem? (i := 7) rfl)) (hw _ (List.mem_of_getElem? (i := 8) rfl)) rfl (by decide) (W := 0) (Nat.le_of_eq rfl) (by decide) ?_
  intro T1 G1
  show ownGo _ _ _ _ _ _ _ T1 4 #[.val (.ref ix), .val (.int (3 : Int32)), .unset] []
  refine own_bipush G1 d1_4 ?_
  show ownGo _ _ _ _ _ _ _ T1 6 #[.val (.ref ix), .val (.int (3 : Int32)), .unset] [(.int (32 : Int32))]
  refine own_iconst G1 d1_6 ?_
  show ownGo _ _ _ _ _ _ _ T1 7 #[.val (.ref ix), .val (.int (3 : Int32)), .unset] [(.int (1 : Int32)), (.int (32 : Int32))]
  refine own_iconst G1 d1_7 ?_
  show ownGo _ _ _ _ _ _ _ T1 8 #[.val (.ref ix), .val (.int (3 : Int32)), .unset] [(.int (2 : Int32)), (.int (1 : Int32)), (.int (32 : Int32))]
  refine own_iloadN G1 d1_8 rfl ?_
  show ownGo _ _ _ _ _ _ _ T1 9 #[.val (.ref ix), .val (.int (3 : Int32)), .unset] [(.int (3 : Int32)), (.int (2 : Int32)), (.int (1 : Int32)), (.int (32 : Int32))]
  refine own_imul G1 d1_9 ?_
  show ownGo _ _ _ _ _ _ _ T1 10 #[.val (.ref ix), .val (.int (3 : Int32)), .unset] [(.int ((2 : Int32) * (3 : Int32))), (.int (1 : Int32)), (.int (32 : Int32))]
  refine own_iconst G1 d1_10 ?_
  show ownGo _ _ _ _ _ _ _ T1 11 #[.val (.ref ix), .val (.int (3 : Int32)), .unset] [(.int (1 : Int32)), (.int ((2 : Int32) * (3 : Int32))), (.int (1 : Int32)), (.int (32 : Int32))]
  refine own_isub G1 d1_11 ?_
  show ownGo _ _ _ _ _ _ _ T1 12 #[.val (.ref ix), .val (.int (3 : Int32)), .unset] [(.int (((2 : Int32) * (3 : Int32)) - (1 : Int32))), (.int (1 : Int32)), (.int (32 : Int32))]
  rw [(by decide : ((2 : Int32) * (3 : Int32)) - (1 : Int32) = 5)]
  show ownGo _ _ _ _ _ _ _ T1 12 #[.val (.ref ix), .val (.int (3 : Int32)), .unset] [(.int (5 : Int32)), (.int (1 : Int32)), (.int (32 : Int32))]
  refine own_callS G1 d1_12 (y := (⟨"java/lang/Math", "max", "(II)I"⟩ : MethodName)) (hw _ (List.mem_of_getElem? (i := 9) rfl)) (hw _ (List.mem_of_getElem? (i := 10) rfl)) (hw _ (List.mem_of_getElem? (i := 11) rfl)) (hw _ (List.mem_of_getElem? (i := 12) rfl)) (by decide) (argsL := [(.int (1 : Int32)), (.int (5 : Int32))]) (rest := [(.int (32 : Int32))]) (rmMax l Z a0 hw h0 n0 Z0) rfl rfl rfl (lenOf pd_0 rfl) (W := 1) (Nat.le_of_eq rfl) (by decide) (by decide) (by decide) (by decide) ?_
  intro v2 T2 h2 hq2 G2
  obtain ⟨rfl, rfl⟩ := hq2
  show ownGo _ _ _ _ _ _ _ T2 15 #[.val (.ref ix), .val (.int (3 : Int32)), .unset] [(.int (5 : Int32)), (.int (32 : Int32))]
  refine own_callS G2 d1_15 (y := (⟨"java/lang/Integer", "numberOfLeadingZeros", "(I)I"⟩ : MethodName)) (hw _ (List.mem_of_getElem? (i := 13) rfl)) (hw _ (List.mem_of_getElem? (i := 14) rfl)) (hw _ (List.mem_of_getElem? (i := 15) rfl)) (hw _ (List.mem_of_getElem? (i := 16) rfl)) (by decide) (argsL := [(.int (5 : Int32))]) (rest := [(.int (32 : Int32))]) (rmNlz l Z a0 hw h0 n0 Z0) rfl rfl rfl (lenOf pd_1 rfl) (W := 1) (Nat.le_of_eq rfl) (by decide) (by decide) (by decide) (by decide) ?_
  intro v3 T3 h3 hq3 G3
  obtain ⟨rfl, rfl⟩ := hq3
  show ownGo _ _ _ _ _ _ _ T3 18 #[.val (.ref ix), .val (.int (3 : Int32)), .unset] [(.int (29 : Int32)), (.int (32 : Int32))]
  refine own_isub G3 d1_18 ?_
  show ownGo _ _ _ _ _ _ _ T3 19 #[.val (.ref ix), .val (.int (3 : Int32)), .unset] [(.int ((32 : Int32) - (29 : Int32)))]
  rw [(by decide : (32 : Int32) - (29 : Int32) = 3)]
  show ownGo _ _ _ _ _ _ _ T3 19 #[.val (.ref ix), .val (.int (3 : Int32)), .unset] [(.int (3 : Int32))]
  refine own_istoreN G3 d1_19 (L' := #[.val (.ref ix), .val (.int (3 : Int32)), .val (.int (3 : Int32))]) rfl ?_
  show ownGo _ _ _ _ _ _ _ T3 20 #[.val (.ref ix), .val (.int (3 : Int32)), .val (.int (3 : Int32))] []
  refine own_aloadN G3 d1_20 rfl rfl ?_
  show ownGo _ _ _ _ _ _ _ T3 21 #[.val (.ref ix), .val (.int (3 : Int32)), .val (.int (3 : Int32))] [(.ref ix)]
  refine own_iconst G3 d1_21 ?_
  show ownGo _ _ _ _ _ _ _ T3 22 #[.val (.ref ix), .val (.int (3 : Int32)), .val (.int (3 : Int32))] [(.int (1 : Int32)), (.ref ix)]
  refine own_iloadN G3 d1_22 rfl ?_
  show ownGo _ _ _ _ _ _ _ T3 23 #[.val (.ref ix), .val (.int (3 : Int32)), .val (.int (3 : Int32))] [(.int (3 : Int32)), (.int (1 : Int32)), (.ref ix)]
  refine own_ishl G3 d1_23 ?_
  show ownGo _ _ _ _ _ _ _ T3 24 #[.val (.ref ix), .val (.int (3 : Int32)), .val (.int (3 : Int32))] [(.int ((1 : Int32) <<< ((3 : Int32) &&& 31))), (.ref ix)]
  rw [(by decide : ((1 : Int32) <<< ((3 : Int32) &&& 31)) = 8)]
  show ownGo _ _ _ _ _ _ _ T3 24 #[.val (.ref ix), .val (.int (3 : Int32)), .val (.int (3 : Int32))] [(.int (8 : Int32)), (.ref ix)]
  refine own_newarr G3 d1_24 (hw _ (List.mem_of_getElem? (i := 18) rfl)) (by decide) (k := 8) (cap := 8) (by decide) (by decide) (by decide) (by decide) (by decide) ?_
  intro T4 h4 b4 g4 E4 A4 G4
  replace A4 : ownArr Z h4 b4 .long 8 (fun _ => .long 0) := A4
  show ownGo _ _ _ _ _ _ _ T4 26 #[.val (.ref ix), .val (.int (3 : Int32)), .val (.int (3 : Int32))] [(.ref b4), (.ref ix)]
  have n_ke : ix ≠ b4 := Nat.ne_of_lt (Nat.lt_of_lt_of_le E.lt (Nat.le_of_eq g4.symm))
  have f_ke : n0 ≤ b4 := Nat.le_trans Z0 (Nat.le_of_eq g4.symm)
  replace F_keys := F_keys.ext E4
  replace F_numbers := F_numbers.ext E4
  replace F_slots := F_slots.ext E4
  replace F_shift := F_shift.ext E4
  replace F_capacity := F_capacity.ext E4
  replace F_size := F_size.ext E4
  replace E := E.ext E4
  replace Z0 : n0 ≤ h4.size := Nat.le_trans Z0 E4.1
  have A_ke := A4
  refine own_putF G4 d1_26 (hw _ (List.mem_of_getElem? (i := 19) rfl)) Via.refl F_keys E (Or.inr ⟨(hw _ (List.mem_of_getElem? (i := 20) rfl)), rfl, rfl⟩) (hw _ (List.mem_of_getElem? (i := 1) rfl)) (ty := (.array .long)) (by decide) rfl rfl g ?_
  intro T5 h5 W5 G5
  show ownGo _ _ _ _ _ _ _ T5 29 #[.val (.ref ix), .val (.int (3 : Int32)), .val (.int (3 : Int32))] []
  replace F_keys := F_keys.same W5
  replace F_numbers := F_numbers.other W5 (Or.inr (slot_ne (Or.inr (hw _ (List.mem_of_getElem? (i := 23) rfl))) (Or.inr (hw _ (List.mem_of_getElem? (i := 20) rfl))) (by decide) (t := (.array .int)) (t' := (.array .long)) (by decide) (by decide)))
  replace F_slots := F_slots.other W5 (Or.inr (slot_ne (Or.inr (hw _ (List.mem_of_getElem? (i := 27) rfl))) (Or.inr (hw _ (List.mem_of_getElem? (i := 20) rfl))) (by decide) (t := (.array .int)) (t' := (.array .long)) (by decide) (by decide)))
  replace F_shift := F_shift.other W5 (Or.inr (slot_ne (Or.inr (hw _ (List.mem_of_getElem? (i := 25) rfl))) (Or.inr (hw _ (List.mem_of_getElem? (i := 20) rfl))) (by decide) (t := .int) (t' := (.array .long)) (by decide) (by decide)))
  replace F_capacity := F_capacity.other W5 (Or.inr (slot_ne (Or.inr (hw _ (List.mem_of_getElem? (i := 29) rfl))) (Or.inr (hw _ (List.mem_of_getElem? (i := 20) rfl))) (by decide) (t := .int) (t' := (.array .long)) (by decide) (by decide)))
  replace F_size := F_size.other W5 (Or.inr (slot_ne (Or.inl (hw _ (List.mem_of_getElem? (i := 37) rfl))) (Or.inr (hw _ (List.mem_of_getElem? (i := 20) rfl))) (by decide) (t := .int) (t' := (.array .long)) (by decide) (by decide)))
  replace A_ke := A_ke.other W5 n_ke.symm
  replace E := E.wr W5
  replace Z0 : n0 ≤ h5.size := by rw [W5.size]; exact Z0
  refine own_aloadN G5 d1_29 rfl rfl ?_
  show ownGo _ _ _ _ _ _ _ T5 30 #[.val (.ref ix), .val (.int (3 : Int32)), .val (.int (3 : Int32))] [(.ref ix)]
  refine own_iconst G5 d1_30 ?_
  show ownGo _ _ _ _ _ _ _ T5 31 #[.val (.ref ix), .val (.int (3 : Int32)), .val (.int (3 : Int32))] [(.int (1 : Int32)), (.ref ix)]
  refine own_iloadN G5 d1_31 rfl ?_
  show ownGo _ _ _ _ _ _ _ T5 32 #[.val (.ref ix), .val (.int (3 : Int32)), .val (.int (3 : Int32))] [(.int (3 : Int32)), (.int (1 : Int32)), (.ref ix)]
  refine own_ishl G5 d1_32 ?_
  show ownGo _ _ _ _ _ _ _ T5 33 #[.val (.ref ix), .val (.int (3 : Int32)), .val (.int (3 : Int32))] [(.int ((1 : Int32) <<< ((3 : Int32) &&& 31))), (.ref ix)]
  rw [(by decide : ((1 : Int32) <<< ((3 : Int32) &&& 31)) = 8)]
  show ownGo _ _ _ _ _ _ _ T5 33 #[.val (.ref ix), .val (.int (3 : Int32)), .val (.int (3 : Int32))] [(.int (8 : Int32)), (.ref ix)]
  refine own_newarr G5 d1_33 (hw _ (List.mem_of_getElem? (i := 21) rfl)) (by decide) (k := 8) (cap := 8) (by decide) (by decide) (by decide) (by decide) (by decide) ?_
  intro T6 h6 b6 g6 E6 A6 G6
  replace A6 : ownArr Z h6 b6 .int 8 (fun _ => .int 0) := A6
  show ownGo _ _ _ _ _ _ _ T6 35 #[.val (.ref ix), .val (.int (3 : Int32)), .val (.int (3 : Int32))] [(.ref b6), (.ref ix)]
  have n_nu : ix ≠ b6 := Nat.ne_of_lt (Nat.lt_of_lt_of_le E.lt (Nat.le_of_eq g6.symm))
  have f_nu : n0 ≤ b6 := Nat.le_trans Z0 (Nat.le_of_eq g6.symm)
  have n_ke_nu : b4 ≠ b6 := Nat.ne_of_lt (Nat.lt_of_lt_of_le A_ke.lt (Nat.le_of_eq g6.symm))
  replace F_keys := F_keys.ext E6
  replace F_numbers := F_numbers.ext E6
  replace F_slots := F_slots.ext E6
  replace F_shift := F_shift.ext E6
  replace F_capacity := F_capacity.ext E6
  replace F_size := F_size.ext E6
  replace A_ke := A_ke.ext E6
  replace E := E.ext E6
  replace Z0 : n0 ≤ h6.size := Nat.le_trans Z0 E6.1
  have A_nu := A6
  refine own_putF G6 d1_35 (hw _ (List.mem_of_getElem? (i := 22) rfl)) Via.refl F_numbers E (Or.inr ⟨(hw _ (List.mem_of_getElem? (i := 23) rfl)), rfl, rfl⟩) (hw _ (List.mem_of_getElem? (i := 1) rfl)) (ty := (.array .int)) (by decide) rfl rfl g ?_
  intro T7 h7 W7 G7
  show ownGo _ _ _ _ _ _ _ T7 38 #[.val (.ref ix), .val (.int (3 : Int32)), .val (.int (3 : Int32))] []
  replace F_keys := F_keys.other W7 (Or.inr (slot_ne (Or.inr (hw _ (List.mem_of_getElem? (i := 20) rfl))) (Or.inr (hw _ (List.mem_of_getElem? (i := 23) rfl))) (by decide) (t := (.array .long)) (t' := (.array .int)) (by decide) (by decide)))
  replace F_numbers := F_numbers.same W7
  replace F_slots := F_slots.other W7 (Or.inr (slot_ne (Or.inr (hw _ (List.mem_of_getElem? (i := 27) rfl))) (Or.inr (hw _ (List.mem_of_getElem? (i := 23) rfl))) (by decide) (t := (.array .int)) (t' := (.array .int)) (by decide) (by decide)))
  replace F_shift := F_shift.other W7 (Or.inr (slot_ne (Or.inr (hw _ (List.mem_of_getElem? (i := 25) rfl))) (Or.inr (hw _ (List.mem_of_getElem? (i := 23) rfl))) (by decide) (t := .int) (t' := (.array .int)) (by decide) (by decide)))
  replace F_capacity := F_capacity.other W7 (Or.inr (slot_ne (Or.inr (hw _ (List.mem_of_getElem? (i := 29) rfl))) (Or.inr (hw _ (List.mem_of_getElem? (i := 23) rfl))) (by decide) (t := .int) (t' := (.array .int)) (by decide) (by decide)))
  replace F_size := F_size.other W7 (Or.inr (slot_ne (Or.inl (hw _ (List.mem_of_getElem? (i := 37) rfl))) (Or.inr (hw _ (List.mem_of_getElem? (i := 23) rfl))) (by decide) (t := .int) (t' := (.array .int)) (by decide) (by decide)))
  replace A_ke := A_ke.other W7 n_ke.symm
  replace A_nu := A_nu.other W7 n_nu.symm
  replace E := E.wr W7
  replace Z0 : n0 ≤ h7.size := by rw [W7.size]; exact Z0
  refine own_aloadN G7 d1_38 rfl rfl ?_
  show ownGo _ _ _ _ _ _ _ T7 39 #[.val (.ref ix), .val (.int (3 : Int32)), .val (.int (3 : Int32))] [(.ref ix)]
  refine own_bipush G7 d1_39 ?_
  show ownGo _ _ _ _ _ _ _ T7 41 #[.val (.ref ix), .val (.int (3 : Int32)), .val (.int (3 : Int32))] [(.int (64 : Int32)), (.ref ix)]
  refine own_iloadN G7 d1_41 rfl ?_
  show ownGo _ _ _ _ _ _ _ T7 42 #[.val (.ref ix), .val (.int (3 : Int32)), .val (.int (3 : Int32))] [(.int (3 : Int32)), (.int (64 : Int32)), (.ref ix)]
  refine own_isub G7 d1_42 ?_
  show ownGo _ _ _ _ _ _ _ T7 43 #[.val (.ref ix), .val (.int (3 : Int32)), .val (.int (3 : Int32))] [(.int ((64 : Int32) - (3 : Int32))), (.ref ix)]
  rw [(by decide : (64 : Int32) - (3 : Int32) = 61)]
  show ownGo _ _ _ _ _ _ _ T7 43 #[.val (.ref ix), .val (.int (3 : Int32)), .val (.int (3 : Int32))] [(.int (61 : Int32)), (.ref ix)]
  refine own_putF G7 d1_43 (hw _ (List.mem_of_getElem? (i := 24) rfl)) Via.refl F_shift E (Or.inr ⟨(hw _ (List.mem_of_getElem? (i := 25) rfl)), rfl, rfl⟩) (hw _ (List.mem_of_getElem? (i := 1) rfl)) (ty := .int) (by decide) rfl rfl g ?_
  intro T8 h8 W8 G8
  show ownGo _ _ _ _ _ _ _ T8 46 #[.val (.ref ix), .val (.int (3 : Int32)), .val (.int (3 : Int32))] []
  replace F_keys := F_keys.other W8 (Or.inr (slot_ne (Or.inr (hw _ (List.mem_of_getElem? (i := 20) rfl))) (Or.inr (hw _ (List.mem_of_getElem? (i := 25) rfl))) (by decide) (t := (.array .long)) (t' := .int) (by decide) (by decide)))
  replace F_numbers := F_numbers.other W8 (Or.inr (slot_ne (Or.inr (hw _ (List.mem_of_getElem? (i := 23) rfl))) (Or.inr (hw _ (List.mem_of_getElem? (i := 25) rfl))) (by decide) (t := (.array .int)) (t' := .int) (by decide) (by decide)))
  replace F_slots := F_slots.other W8 (Or.inr (slot_ne (Or.inr (hw _ (List.mem_of_getElem? (i := 27) rfl))) (Or.inr (hw _ (List.mem_of_getElem? (i := 25) rfl))) (by decide) (t := (.array .int)) (t' := .int) (by decide) (by decide)))
  replace F_shift := F_shift.same W8
  replace F_capacity := F_capacity.other W8 (Or.inr (slot_ne (Or.inr (hw _ (List.mem_of_getElem? (i := 29) rfl))) (Or.inr (hw _ (List.mem_of_getElem? (i := 25) rfl))) (by decide) (t := .int) (t' := .int) (by decide) (by decide)))
  replace F_size := F_size.other W8 (Or.inr (slot_ne (Or.inl (hw _ (List.mem_of_getElem? (i := 37) rfl))) (Or.inr (hw _ (List.mem_of_getElem? (i := 25) rfl))) (by decide) (t := .int) (t' := .int) (by decide) (by decide)))
  replace A_ke := A_ke.other W8 n_ke.symm
  replace A_nu := A_nu.other W8 n_nu.symm
  replace E := E.wr W8
  replace Z0 : n0 ≤ h8.size := by rw [W8.size]; exact Z0
  refine own_aloadN G8 d1_46 rfl rfl ?_
  show ownGo _ _ _ _ _ _ _ T8 47 #[.val (.ref ix), .val (.int (3 : Int32)), .val (.int (3 : Int32))] [(.ref ix)]
  refine own_iloadN G8 d1_47 rfl ?_
  show ownGo _ _ _ _ _ _ _ T8 48 #[.val (.ref ix), .val (.int (3 : Int32)), .val (.int (3 : Int32))] [(.int (3 : Int32)), (.ref ix)]
  refine own_newarr G8 d1_48 (hw _ (List.mem_of_getElem? (i := 21) rfl)) (by decide) (k := 3) (cap := 3) (by decide) (by decide) (by decide) (by decide) (by decide) ?_
  intro T9 h9 b9 g9 E9 A9 G9
  replace A9 : ownArr Z h9 b9 .int 3 (fun _ => .int 0) := A9
  show ownGo _ _ _ _ _ _ _ T9 50 #[.val (.ref ix), .val (.int (3 : Int32)), .val (.int (3 : Int32))] [(.ref b9), (.ref ix)]
  have n_sl : ix ≠ b9 := Nat.ne_of_lt (Nat.lt_of_lt_of_le E.lt (Nat.le_of_eq g9.symm))
  have f_sl : n0 ≤ b9 := Nat.le_trans Z0 (Nat.le_of_eq g9.symm)
  have n_ke_sl : b4 ≠ b9 := Nat.ne_of_lt (Nat.lt_of_lt_of_le A_ke.lt (Nat.le_of_eq g9.symm))
  have n_nu_sl : b6 ≠ b9 := Nat.ne_of_lt (Nat.lt_of_lt_of_le A_nu.lt (Nat.le_of_eq g9.symm))
  replace F_keys := F_keys.ext E9
  replace F_numbers := F_numbers.ext E9
  replace F_slots := F_slots.ext E9
  replace F_shift := F_shift.ext E9
  replace F_capacity := F_capacity.ext E9
  replace F_size := F_size.ext E9
  replace A_ke := A_ke.ext E9
  replace A_nu := A_nu.ext E9
  replace E := E.ext E9
  replace Z0 : n0 ≤ h9.size := Nat.le_trans Z0 E9.1
  have A_sl := A9
  refine own_putF G9 d1_50 (hw _ (List.mem_of_getElem? (i := 26) rfl)) Via.refl F_slots E (Or.inr ⟨(hw _ (List.mem_of_getElem? (i := 27) rfl)), rfl, rfl⟩) (hw _ (List.mem_of_getElem? (i := 1) rfl)) (ty := (.array .int)) (by decide) rfl rfl g ?_
  intro T10 h10 W10 G10
  show ownGo _ _ _ _ _ _ _ T10 53 #[.val (.ref ix), .val (.int (3 : Int32)), .val (.int (3 : Int32))] []
  replace F_keys := F_keys.other W10 (Or.inr (slot_ne (Or.inr (hw _ (List.mem_of_getElem? (i := 20) rfl))) (Or.inr (hw _ (List.mem_of_getElem? (i := 27) rfl))) (by decide) (t := (.array .long)) (t' := (.array .int)) (by decide) (by decide)))
  replace F_numbers := F_numbers.other W10 (Or.inr (slot_ne (Or.inr (hw _ (List.mem_of_getElem? (i := 23) rfl))) (Or.inr (hw _ (List.mem_of_getElem? (i := 27) rfl))) (by decide) (t := (.array .int)) (t' := (.array .int)) (by decide) (by decide)))
  replace F_slots := F_slots.same W10
  replace F_shift := F_shift.other W10 (Or.inr (slot_ne (Or.inr (hw _ (List.mem_of_getElem? (i := 25) rfl))) (Or.inr (hw _ (List.mem_of_getElem? (i := 27) rfl))) (by decide) (t := .int) (t' := (.array .int)) (by decide) (by decide)))
  replace F_capacity := F_capacity.other W10 (Or.inr (slot_ne (Or.inr (hw _ (List.mem_of_getElem? (i := 29) rfl))) (Or.inr (hw _ (List.mem_of_getElem? (i := 27) rfl))) (by decide) (t := .int) (t' := (.array .int)) (by decide) (by decide)))
  replace F_size := F_size.other W10 (Or.inr (slot_ne (Or.inl (hw _ (List.mem_of_getElem? (i := 37) rfl))) (Or.inr (hw _ (List.mem_of_getElem? (i := 27) rfl))) (by decide) (t := .int) (t' := (.array .int)) (by decide) (by decide)))
  replace A_ke := A_ke.other W10 n_ke.symm
  replace A_nu := A_nu.other W10 n_nu.symm
  replace A_sl := A_sl.other W10 n_sl.symm
  replace E := E.wr W10
  replace Z0 : n0 ≤ h10.size := by rw [W10.size]; exact Z0
  refine own_aloadN G10 d1_53 rfl rfl ?_
  show ownGo _ _ _ _ _ _ _ T10 54 #[.val (.ref ix), .val (.int (3 : Int32)), .val (.int (3 : Int32))] [(.ref ix)]
  refine own_iloadN G10 d1_54 rfl ?_
  show ownGo _ _ _ _ _ _ _ T10 55 #[.val (.ref ix), .val (.int (3 : Int32)), .val (.int (3 : Int32))] [(.int (3 : Int32)), (.ref ix)]
  refine own_putF G10 d1_55 (hw _ (List.mem_of_getElem? (i := 28) rfl)) Via.refl F_capacity E (Or.inr ⟨(hw _ (List.mem_of_getElem? (i := 29) rfl)), rfl, rfl⟩) (hw _ (List.mem_of_getElem? (i := 1) rfl)) (ty := .int) (by decide) rfl rfl g ?_
  intro T11 h11 W11 G11
  show ownGo _ _ _ _ _ _ _ T11 58 #[.val (.ref ix), .val (.int (3 : Int32)), .val (.int (3 : Int32))] []
  replace F_keys := F_keys.other W11 (Or.inr (slot_ne (Or.inr (hw _ (List.mem_of_getElem? (i := 20) rfl))) (Or.inr (hw _ (List.mem_of_getElem? (i := 29) rfl))) (by decide) (t := (.array .long)) (t' := .int) (by decide) (by decide)))
  replace F_numbers := F_numbers.other W11 (Or.inr (slot_ne (Or.inr (hw _ (List.mem_of_getElem? (i := 23) rfl))) (Or.inr (hw _ (List.mem_of_getElem? (i := 29) rfl))) (by decide) (t := (.array .int)) (t' := .int) (by decide) (by decide)))
  replace F_slots := F_slots.other W11 (Or.inr (slot_ne (Or.inr (hw _ (List.mem_of_getElem? (i := 27) rfl))) (Or.inr (hw _ (List.mem_of_getElem? (i := 29) rfl))) (by decide) (t := (.array .int)) (t' := .int) (by decide) (by decide)))
  replace F_shift := F_shift.other W11 (Or.inr (slot_ne (Or.inr (hw _ (List.mem_of_getElem? (i := 25) rfl))) (Or.inr (hw _ (List.mem_of_getElem? (i := 29) rfl))) (by decide) (t := .int) (t' := .int) (by decide) (by decide)))
  replace F_capacity := F_capacity.same W11
  replace F_size := F_size.other W11 (Or.inr (slot_ne (Or.inl (hw _ (List.mem_of_getElem? (i := 37) rfl))) (Or.inr (hw _ (List.mem_of_getElem? (i := 29) rfl))) (by decide) (t := .int) (t' := .int) (by decide) (by decide)))
  replace A_ke := A_ke.other W11 n_ke.symm
  replace A_nu := A_nu.other W11 n_nu.symm
  replace A_sl := A_sl.other W11 n_sl.symm
  replace E := E.wr W11
  replace Z0 : n0 ≤ h11.size := by rw [W11.size]; exact Z0
  exact own_ret G11 d1_58 rfl (by decide) (by decide) ⟨b4, b6, b9, rfl, Z0, ⟨⟨n_ke, n_nu, n_sl, n_ke_nu, n_ke_sl, n_nu_sl⟩, g, f_ke, f_nu, f_sl⟩, fun _ => 0, fun _ => 0, fun _ => 0, ⟨by decide, fun _ _ => Nat.le_refl _, fun q _ r => absurd rfl r, fun i r => absurd r (Nat.not_lt_zero _), fun q _ r => absurd rfl r, fun q _ r => absurd rfl r, fun q r _ _ u => absurd rfl u⟩, E, F_keys, F_numbers, F_slots, F_shift, F_capacity, F_size, A_ke, A_nu, A_sl⟩
theorem pn_rmSize : plainFor (⟨"com/example/termite/termite/engine/LongIndex", "size", "()I"⟩ : MethodName) = true := plainFor_of_name (by first | (simp [plainName, overriddenIn]; done) | decide +kernel)
theorem ef_rmSize (m : MethodId) (ix : Addr) : entryFrame m #[(.ref ix)] 1 = mkF m 0 #[.val (.ref ix)] [] := by first | (simp [entryFrame, mkF, argsToLocals, Value.category]; done) | rfl
set_option maxRecDepth 65536 in
set_option maxHeartbeats 40000000 in
theorem rmSize (l : Launch) (Z : State) (a0 : Array Value) (hw : ∀ d ∈ tables_1, d.before a0 Z = true) (ix ke nu sl : Addr) (ks : List Int64) (h0 : Heap) (n0 : Nat) (Z0 : n0 ≤ h0.size) (V0 : ownS Z h0 ix ke nu sl ks) :
    ownMet l [] (⟨"com/example/termite/termite/engine/LongIndex", "size", "()I"⟩ : MethodName) prog_24_method_3_code 1 (some .int) ({ frames := 0, cells := 0, slots := 0, locals := 0 } : Room) Z n0 #[(.ref ix)] h0 (fun v h => v = some (.int (Int32.ofNat ks.length)) ∧ h0 = h) := by
  refine own_body (own := "com/example/termite/termite/engine/LongIndex") (nm := "size") pn_rmSize (fun m => ef_rmSize m ix) rfl rfl ?_
  intro p e s m below meth c T0 G0
  show ownGo _ _ _ _ _ _ _ T0 0 #[.val (.ref ix)] []
  obtain ⟨kf, nf, sf, I, E, Fk, Fn, Fs, Fh, Fc, Fz, Ak, An, As⟩ := V0
  refine own_aloadN G0 d7_0 rfl rfl ?_
  show ownGo _ _ _ _ _ _ _ T0 1 #[.val (.ref ix)] [(.ref ix)]
  refine own_getF G0 d7_1 (hw _ (List.mem_of_getElem? (i := 36) rfl)) Via.refl Fz ?_
  intro T12 G12
  show ownGo _ _ _ _ _ _ _ T12 4 #[.val (.ref ix)] [(.int (Int32.ofNat ks.length))]
  exact own_ireturn G12 d7_4 rfl (by decide) (by decide) ⟨rfl, rfl⟩
theorem pn_rmClear : plainFor (⟨"com/example/termite/termite/engine/LongIndex", "clear", "()V"⟩ : MethodName) = true := plainFor_of_name (by first | (simp [plainName, overriddenIn]; done) | decide +kernel)
theorem ef_rmClear (m : MethodId) (ix : Addr) : entryFrame m #[(.ref ix)] 2 = mkF m 0 #[.val (.ref ix), .unset] [] := by first | (simp [entryFrame, mkF, argsToLocals, Value.category]; done) | rfl
set_option maxRecDepth 65536 in
set_option maxHeartbeats 40000000 in
theorem rmClear (l : Launch) (Z : State) (a0 : Array Value) (hw : ∀ d ∈ tables_1, d.before a0 Z = true) (ix ke nu sl : Addr) (ks : List Int64) (h0 : Heap) (n0 : Nat) (Z0 : n0 ≤ h0.size) (V0 : ownS Z h0 ix ke nu sl ks) (N : ownN n0 ix ke nu sl) :
    ownMet l [] (⟨"com/example/termite/termite/engine/LongIndex", "clear", "()V"⟩ : MethodName) prog_24_method_4_code 2 none ({ frames := 0, cells := 0, slots := 0, locals := 0 } : Room) Z n0 #[(.ref ix)] h0 (fun v h => v = none ∧ n0 ≤ h.size ∧ ownS Z h ix ke nu sl []) := by
  refine own_body (own := "com/example/termite/termite/engine/LongIndex") (nm := "clear") pn_rmClear (fun m => ef_rmClear m ix) rfl rfl ?_
  intro p e s m below meth c T0 G0
  show ownGo _ _ _ _ _ _ _ T0 0 #[.val (.ref ix), .unset] []
  obtain ⟨kf, nf, sf, I, L0⟩ := V0
  have I' := I
  obtain ⟨i1, i2, i3, i4, i5, i6, i7⟩ := I'
  have N' := N
  obtain ⟨⟨n1, n2, n3, n4, n5, n6⟩, g1, g2, g3, g4⟩ := N'
  have loop : ∀ k i, i + k = ks.length → ∀ (T : State) (h : Heap), ownSt p l e ({ frames := 0, cells := 0, slots := 0, locals := 0 } : Room) s m #[(.ref ix)] below meth c Z n0 "com/example/termite/termite/engine/LongIndex" prog_24_method_4_code 2 none "clear" T h 0 0 → n0 ≤ h.size → ownL Z h ix ke nu sl ks.length kf (ownClr nf i) sf → ownGo p e m below n0 (ownEnd s ({ frames := 0, cells := 0, slots := 0, locals := 0 } : Room)) (fun v h => v = none ∧ n0 ≤ h.size ∧ ownS Z h ix ke nu sl []) T 2 #[.val (.ref ix), .val (.int (Int32.ofNat i))] [] := by
    intro k
    induction k with
    | zero =>
      intro i hi T h G Y L
      have L' := L
      obtain ⟨E, Fk, Fn, Fs, Fh, Fc, Fz, Ak, An, As⟩ := L'
      show ownGo _ _ _ _ _ _ _ T 2 #[.val (.ref ix), .val (.int (Int32.ofNat i))] []
      refine own_iloadN G d6_2 rfl ?_
      show ownGo _ _ _ _ _ _ _ T 3 #[.val (.ref ix), .val (.int (Int32.ofNat i))] [(.int (Int32.ofNat i))]
      refine own_aloadN G d6_3 rfl rfl ?_
      show ownGo _ _ _ _ _ _ _ T 4 #[.val (.ref ix), .val (.int (Int32.ofNat i))] [(.ref ix), (.int (Int32.ofNat i))]
      refine own_getF G d6_4 (hw _ (List.mem_of_getElem? (i := 36) rfl)) Via.refl Fz ?_
      intro T13 G13
      show ownGo _ _ _ _ _ _ _ T13 7 #[.val (.ref ix), .val (.int (Int32.ofNat i))] [(.int (Int32.ofNat ks.length)), (.int (Int32.ofNat i))]
      refine own_icmp_ge G13 d6_7 (pc' := 28) (by decide) (by decide) (fun hc => ?_) (fun hc => False.elim (absurd ((own_ltN (by omega) (by omega)).mp hc) (by omega)))
      show ownGo _ _ _ _ _ _ _ T13 28 #[.val (.ref ix), .val (.int (Int32.ofNat i))] []
      refine own_aloadN G13 d6_28 rfl rfl ?_
      show ownGo _ _ _ _ _ _ _ T13 29 #[.val (.ref ix), .val (.int (Int32.ofNat i))] [(.ref ix)]
      refine own_iconst G13 d6_29 ?_
      show ownGo _ _ _ _ _ _ _ T13 30 #[.val (.ref ix), .val (.int (Int32.ofNat i))] [(.int (0 : Int32)), (.ref ix)]
      refine own_putF G13 d6_30 (hw _ (List.mem_of_getElem? (i := 36) rfl)) Via.refl Fz E (Or.inl (hw _ (List.mem_of_getElem? (i := 37) rfl))) (hw _ (List.mem_of_getElem? (i := 1) rfl)) (ty := .int) (by decide) rfl rfl g1 ?_
      intro T14 h14 W14 G14
      show ownGo _ _ _ _ _ _ _ T14 33 #[.val (.ref ix), .val (.int (Int32.ofNat i))] []
      have L2 := L.wSize hw (v := 0) N W14
      have nz : ∀ q, q < 8 → ownClr nf i q = 0 := fun q hq => by unfold ownClr; rw [if_pos]; have := i2 q hq; omega
      exact own_ret G14 d6_33 rfl (by decide) (by decide) ⟨rfl, by rw [W14.size]; exact Y, kf, ownClr nf i, sf, ⟨by decide, fun q hq => by rw [nz q hq]; exact Nat.le_refl _, fun q hq r => absurd (nz q hq) r, fun i r => absurd r (Nat.not_lt_zero _), fun q hq r => absurd (nz q hq) r, fun q hq r => absurd (nz q hq) r, fun q r hq _ u => absurd (nz q hq) u⟩, L2⟩
    | succ k ih =>
      intro i hi T h G Y L
      have L' := L
      obtain ⟨E, Fk, Fn, Fs, Fh, Fc, Fz, Ak, An, As⟩ := L'
      obtain ⟨s1, s2⟩ := i4 i (by omega)
      show ownGo _ _ _ _ _ _ _ T 2 #[.val (.ref ix), .val (.int (Int32.ofNat i))] []
      refine own_iloadN G d6_2 rfl ?_
      show ownGo _ _ _ _ _ _ _ T 3 #[.val (.ref ix), .val (.int (Int32.ofNat i))] [(.int (Int32.ofNat i))]
      refine own_aloadN G d6_3 rfl rfl ?_
      show ownGo _ _ _ _ _ _ _ T 4 #[.val (.ref ix), .val (.int (Int32.ofNat i))] [(.ref ix), (.int (Int32.ofNat i))]
      refine own_getF G d6_4 (hw _ (List.mem_of_getElem? (i := 36) rfl)) Via.refl Fz ?_
      intro T15 G15
      show ownGo _ _ _ _ _ _ _ T15 7 #[.val (.ref ix), .val (.int (Int32.ofNat i))] [(.int (Int32.ofNat ks.length)), (.int (Int32.ofNat i))]
      refine own_icmp_ge G15 d6_7 (pc' := 28) (by decide) (by decide) (fun hc => False.elim (hc ((own_ltN (by omega) (by omega)).mpr (by omega)))) (fun hc => ?_)
      show ownGo _ _ _ _ _ _ _ T15 10 #[.val (.ref ix), .val (.int (Int32.ofNat i))] []
      refine own_aloadN G15 d6_10 rfl rfl ?_
      show ownGo _ _ _ _ _ _ _ T15 11 #[.val (.ref ix), .val (.int (Int32.ofNat i))] [(.ref ix)]
      refine own_getF G15 d6_11 (hw _ (List.mem_of_getElem? (i := 22) rfl)) Via.refl Fn ?_
      intro T16 G16
      show ownGo _ _ _ _ _ _ _ T16 14 #[.val (.ref ix), .val (.int (Int32.ofNat i))] [(.ref nu)]
      refine own_aloadN G16 d6_14 rfl rfl ?_
      show ownGo _ _ _ _ _ _ _ T16 15 #[.val (.ref ix), .val (.int (Int32.ofNat i))] [(.ref ix), (.ref nu)]
      refine own_getF G16 d6_15 (hw _ (List.mem_of_getElem? (i := 26) rfl)) Via.refl Fs ?_
      intro T17 G17
      show ownGo _ _ _ _ _ _ _ T17 18 #[.val (.ref ix), .val (.int (Int32.ofNat i))] [(.ref sl), (.ref nu)]
      refine own_iloadN G17 d6_18 rfl ?_
      show ownGo _ _ _ _ _ _ _ T17 19 #[.val (.ref ix), .val (.int (Int32.ofNat i))] [(.int (Int32.ofNat i)), (.ref sl), (.ref nu)]
      refine own_iaload G17 d6_19 (v := (.int (Int32.ofNat (sf i)))) As  (own_ixN (by omega) (by decide)) rfl ?_
      show ownGo _ _ _ _ _ _ _ T17 20 #[.val (.ref ix), .val (.int (Int32.ofNat i))] [(.int (Int32.ofNat (sf i))), (.ref nu)]
      refine own_iconst G17 d6_20 ?_
      show ownGo _ _ _ _ _ _ _ T17 21 #[.val (.ref ix), .val (.int (Int32.ofNat i))] [(.int (0 : Int32)), (.int (Int32.ofNat (sf i))), (.ref nu)]
      refine own_iastore G17 d6_21 An  (own_ixN s1 (by decide)) g3 ?_
      intro T18 h18 W18 G18
      show ownGo _ _ _ _ _ _ _ T18 22 #[.val (.ref ix), .val (.int (Int32.ofNat i))] []
      refine own_iinc G18 d6_22 (L' := #[.val (.ref ix), .val (.int ((Int32.ofNat i) + (1 : Int32)))]) rfl rfl ?_
      show ownGo _ _ _ _ _ _ _ T18 25 #[.val (.ref ix), .val (.int ((Int32.ofNat i) + (1 : Int32)))] []
      refine own_goto G18 d6_25 (pc' := 2) (by decide) (by decide) ?_
      show ownGo _ _ _ _ _ _ _ T18 2 #[.val (.ref ix), .val (.int ((Int32.ofNat i) + (1 : Int32)))] []
      rw [own_succN]
      have L2 := L.wNu (v := 0) N W18
      refine ih (i + 1) (by omega) _ _ G18 (by rw [W18.size]; exact Y) ?_
      obtain ⟨E', Fk', Fn', Fs', Fh', Fc', Fz', Ak', An', As'⟩ := L2
      refine ⟨E', Fk', Fn', Fs', Fh', Fc', Fz', Ak', An'.congr fun q hq => ?_, As'⟩
      congr 2
      unfold ownUpd ownClr
      by_cases r : q = sf i
      · subst r; rw [if_pos rfl, if_pos (by omega)]
      · rw [if_neg r]
        by_cases u : nf q ≤ i
        · rw [if_pos u, if_pos (by omega)]
        · have : nf q ≠ i + 1 := fun v => r (by have := i5 q hq (by omega); rw [v, show i + 1 - 1 = i by omega] at this; exact this.symm)
          rw [if_neg u, if_neg (by omega)]
  have hz : ∀ q, ownClr nf 0 q = nf q := fun q => by
    unfold ownClr
    by_cases u : nf q ≤ 0
    · rw [if_pos u]; omega
    · rw [if_neg u]
  refine own_iconst G0 d6_0 ?_
  show ownGo _ _ _ _ _ _ _ T0 1 #[.val (.ref ix), .unset] [(.int (0 : Int32))]
  refine own_istoreN G0 d6_1 (L' := #[.val (.ref ix), .val (.int (0 : Int32))]) rfl ?_
  show ownGo _ _ _ _ _ _ _ T0 2 #[.val (.ref ix), .val (.int (0 : Int32))] []
  refine loop ks.length 0 (by omega) _ _ G0 Z0 ?_
  obtain ⟨E', Fk', Fn', Fs', Fh', Fc', Fz', Ak', An', As'⟩ := L0
  exact ⟨E', Fk', Fn', Fs', Fh', Fc', Fz', Ak', An'.congr fun q hq => by rw [hz q], As'⟩
theorem pn_rmNum : plainFor (⟨"com/example/termite/termite/engine/LongIndex", "number", "(J)I"⟩ : MethodName) = true := plainFor_of_name (by first | (simp [plainName, overriddenIn]; done) | decide +kernel)
theorem ef_rmNum (m : MethodId) (ix : Addr) (k : Int64) : entryFrame m #[(.ref ix), (.long k)] 5 = mkF m 0 #[.val (.ref ix), .val (.long k), .second, .unset, .unset] [] := by first | (simp [entryFrame, mkF, argsToLocals, Value.category]; done) | rfl
set_option maxRecDepth 65536 in
set_option maxHeartbeats 40000000 in
theorem rmNum (l : Launch) (Z : State) (a0 : Array Value) (hw : ∀ d ∈ tables_1, d.before a0 Z = true) (ix : Addr) (k : Int64) (ke nu sl : Addr) (ks : List Int64) (h0 : Heap) (n0 : Nat) (Z0 : n0 ≤ h0.size) (V0 : ownS Z h0 ix ke nu sl ks) (N : ownN n0 ix ke nu sl) (hcap : k ∉ ks → ks.length < 3) :
    ownMet l [] (⟨"com/example/termite/termite/engine/LongIndex", "number", "(J)I"⟩ : MethodName) prog_24_method_2_code 5 (some .int) ({ frames := 0, cells := 0, slots := 0, locals := 0 } : Room) Z n0 #[(.ref ix), (.long k)] h0 (fun v h => n0 ≤ h.size ∧ ((∃ i, ks[i]? = some k ∧ v = some (.int (Int32.ofNat i)) ∧ ownS Z h ix ke nu sl ks) ∨ (k ∉ ks ∧ v = some (.int (Int32.ofNat ks.length)) ∧ ownS Z h ix ke nu sl (ks ++ [k])))) := by
  refine own_body (own := "com/example/termite/termite/engine/LongIndex") (nm := "number") pn_rmNum (fun m => ef_rmNum m ix k) rfl rfl ?_
  intro p e s m below meth c T0 G0
  show ownGo _ _ _ _ _ _ _ T0 0 #[.val (.ref ix), .val (.long k), .second, .unset, .unset] []
  obtain ⟨kf, nf, sf, I, L⟩ := V0
  have I' := I
  obtain ⟨i1, i2, i3, i4, i5, i6, i7⟩ := I'
  have N' := N
  obtain ⟨⟨n1, n2, n3, n4, n5, n6⟩, g1, g2, g3, g4⟩ := N'
  have L' := L
  obtain ⟨E, Fk, Fn, Fs, Fh, Fc, Fz, Ak, An, As⟩ := L'
  obtain ⟨eh, lh⟩ := own_hash k
  refine own_aloadN G0 d5_0 rfl rfl ?_
  show ownGo _ _ _ _ _ _ _ T0 1 #[.val (.ref ix), .val (.long k), .second, .unset, .unset] [(.ref ix)]
  refine own_getF G0 d5_1 (hw _ (List.mem_of_getElem? (i := 22) rfl)) Via.refl Fn ?_
  intro T19 G19
  show ownGo _ _ _ _ _ _ _ T19 4 #[.val (.ref ix), .val (.long k), .second, .unset, .unset] [(.ref nu)]
  refine own_arraylength G19 d5_4 An ?_
  show ownGo _ _ _ _ _ _ _ T19 5 #[.val (.ref ix), .val (.long k), .second, .unset, .unset] [(.int (8 : Int32))]
  refine own_iconst G19 d5_5 ?_
  show ownGo _ _ _ _ _ _ _ T19 6 #[.val (.ref ix), .val (.long k), .second, .unset, .unset] [(.int (1 : Int32)), (.int (8 : Int32))]
  refine own_isub G19 d5_6 ?_
  show ownGo _ _ _ _ _ _ _ T19 7 #[.val (.ref ix), .val (.long k), .second, .unset, .unset] [(.int ((8 : Int32) - (1 : Int32)))]
  rw [(by decide : (8 : Int32) - (1 : Int32) = 7)]
  show ownGo _ _ _ _ _ _ _ T19 7 #[.val (.ref ix), .val (.long k), .second, .unset, .unset] [(.int (7 : Int32))]
  refine own_istoreN G19 d5_7 (L' := #[.val (.ref ix), .val (.long k), .second, .val (.int (7 : Int32)), .unset]) rfl ?_
  show ownGo _ _ _ _ _ _ _ T19 8 #[.val (.ref ix), .val (.long k), .second, .val (.int (7 : Int32)), .unset] []
  refine own_lloadN G19 d5_8 rfl ?_
  show ownGo _ _ _ _ _ _ _ T19 9 #[.val (.ref ix), .val (.long k), .second, .val (.int (7 : Int32)), .unset] [(.long k)]
  refine own_ldc2 G19 d5_9 (hw _ (List.mem_of_getElem? (i := 35) rfl)) ?_
  show ownGo _ _ _ _ _ _ _ T19 12 #[.val (.ref ix), .val (.long k), .second, .val (.int (7 : Int32)), .unset] [(.long (-7046029254386353131 : Int64)), (.long k)]
  refine own_lmul G19 d5_12 ?_
  show ownGo _ _ _ _ _ _ _ T19 13 #[.val (.ref ix), .val (.long k), .second, .val (.int (7 : Int32)), .unset] [(.long (k * (-7046029254386353131 : Int64)))]
  refine own_aloadN G19 d5_13 rfl rfl ?_
  show ownGo _ _ _ _ _ _ _ T19 14 #[.val (.ref ix), .val (.long k), .second, .val (.int (7 : Int32)), .unset] [(.ref ix), (.long (k * (-7046029254386353131 : Int64)))]
  refine own_getF G19 d5_14 (hw _ (List.mem_of_getElem? (i := 24) rfl)) Via.refl Fh ?_
  intro T20 G20
  show ownGo _ _ _ _ _ _ _ T20 17 #[.val (.ref ix), .val (.long k), .second, .val (.int (7 : Int32)), .unset] [(.int (61 : Int32)), (.long (k * (-7046029254386353131 : Int64)))]
  refine own_lushr G20 d5_17 ?_
  show ownGo _ _ _ _ _ _ _ T20 18 #[.val (.ref ix), .val (.long k), .second, .val (.int (7 : Int32)), .unset] [(.long (((k * (-7046029254386353131 : Int64)).toUInt64 >>> ((61 : Int32) &&& 0x3f).toInt64.toUInt64).toInt64))]
  refine own_l2i G20 d5_18 ?_
  show ownGo _ _ _ _ _ _ _ T20 19 #[.val (.ref ix), .val (.long k), .second, .val (.int (7 : Int32)), .unset] [(.int ((((k * (-7046029254386353131 : Int64)).toUInt64 >>> ((61 : Int32) &&& 0x3f).toInt64.toUInt64).toInt64).toInt32))]
  rw [eh]
  show ownGo _ _ _ _ _ _ _ T20 19 #[.val (.ref ix), .val (.long k), .second, .val (.int (7 : Int32)), .unset] [(.int (Int32.ofNat (ownH k)))]
  refine own_istore G20 d5_19 (L' := #[.val (.ref ix), .val (.long k), .second, .val (.int (7 : Int32)), .val (.int (Int32.ofNat (ownH k)))]) rfl ?_
  show ownGo _ _ _ _ _ _ _ T20 21 #[.val (.ref ix), .val (.long k), .second, .val (.int (7 : Int32)), .val (.int (Int32.ofNat (ownH k)))] []
  have fin : ∀ (t q : Nat) (T : State), q = (ownH k + t) % 8 → (∀ u, u < t → nf ((ownH k + u) % 8) ≠ 0 ∧ kf ((ownH k + u) % 8) ≠ k) → (nf q = 0 ∨ (nf q ≠ 0 ∧ kf q = k)) → ownSt p l e ({ frames := 0, cells := 0, slots := 0, locals := 0 } : Room) s m #[(.ref ix), (.long k)] below meth c Z n0 "com/example/termite/termite/engine/LongIndex" prog_24_method_2_code 5 (some .int) "number" T h0 0 0 → ownGo p e m below n0 (ownEnd s ({ frames := 0, cells := 0, slots := 0, locals := 0 } : Room)) (fun v h => n0 ≤ h.size ∧ ((∃ i, ks[i]? = some k ∧ v = some (.int (Int32.ofNat i)) ∧ ownS Z h ix ke nu sl ks) ∨ (k ∉ ks ∧ v = some (.int (Int32.ofNat ks.length)) ∧ ownS Z h ix ke nu sl (ks ++ [k])))) T 54 #[.val (.ref ix), .val (.long k), .second, .val (.int (7 : Int32)), .val (.int (Int32.ofNat q))] [] := by
    intro t q T eq hp hq G
    have lq : q < 8 := by omega
    show ownGo _ _ _ _ _ _ _ T 54 #[.val (.ref ix), .val (.long k), .second, .val (.int (7 : Int32)), .val (.int (Int32.ofNat q))] []
    refine own_aloadN G d5_54 rfl rfl ?_
    show ownGo _ _ _ _ _ _ _ T 55 #[.val (.ref ix), .val (.long k), .second, .val (.int (7 : Int32)), .val (.int (Int32.ofNat q))] [(.ref ix)]
    refine own_getF G d5_55 (hw _ (List.mem_of_getElem? (i := 22) rfl)) Via.refl Fn ?_
    intro T21 G21
    show ownGo _ _ _ _ _ _ _ T21 58 #[.val (.ref ix), .val (.long k), .second, .val (.int (7 : Int32)), .val (.int (Int32.ofNat q))] [(.ref nu)]
    refine own_iload G21 d5_58 rfl ?_
    show ownGo _ _ _ _ _ _ _ T21 60 #[.val (.ref ix), .val (.long k), .second, .val (.int (7 : Int32)), .val (.int (Int32.ofNat q))] [(.int (Int32.ofNat q)), (.ref nu)]
    refine own_iaload G21 d5_60 (v := (.int (Int32.ofNat (nf q)))) An  (own_ixN lq (by decide)) rfl ?_
    show ownGo _ _ _ _ _ _ _ T21 61 #[.val (.ref ix), .val (.long k), .second, .val (.int (7 : Int32)), .val (.int (Int32.ofNat q))] [(.int (Int32.ofNat (nf q)))]
    refine own_if_ne G21 d5_61 (pc' := 132) (by decide) (by decide) (fun hc => ?_) (fun hc => ?_)
    · show ownGo _ _ _ _ _ _ _ T21 132 #[.val (.ref ix), .val (.long k), .second, .val (.int (7 : Int32)), .val (.int (Int32.ofNat q))] []
      have hn : nf q ≠ 0 := fun r => hc (by rw [r]; rfl)
      have hk : kf q = k := hq.elim (fun r => absurd r hn) fun r => r.2
      have hb := i2 q lq
      refine own_aloadN G21 d5_132 rfl rfl ?_
      show ownGo _ _ _ _ _ _ _ T21 133 #[.val (.ref ix), .val (.long k), .second, .val (.int (7 : Int32)), .val (.int (Int32.ofNat q))] [(.ref ix)]
      refine own_getF G21 d5_133 (hw _ (List.mem_of_getElem? (i := 22) rfl)) Via.refl Fn ?_
      intro T22 G22
      show ownGo _ _ _ _ _ _ _ T22 136 #[.val (.ref ix), .val (.long k), .second, .val (.int (7 : Int32)), .val (.int (Int32.ofNat q))] [(.ref nu)]
      refine own_iload G22 d5_136 rfl ?_
      show ownGo _ _ _ _ _ _ _ T22 138 #[.val (.ref ix), .val (.long k), .second, .val (.int (7 : Int32)), .val (.int (Int32.ofNat q))] [(.int (Int32.ofNat q)), (.ref nu)]
      refine own_iaload G22 d5_138 (v := (.int (Int32.ofNat (nf q)))) An  (own_ixN lq (by decide)) rfl ?_
      show ownGo _ _ _ _ _ _ _ T22 139 #[.val (.ref ix), .val (.long k), .second, .val (.int (7 : Int32)), .val (.int (Int32.ofNat q))] [(.int (Int32.ofNat (nf q)))]
      refine own_iconst G22 d5_139 ?_
      show ownGo _ _ _ _ _ _ _ T22 140 #[.val (.ref ix), .val (.long k), .second, .val (.int (7 : Int32)), .val (.int (Int32.ofNat q))] [(.int (1 : Int32)), (.int (Int32.ofNat (nf q)))]
      refine own_isub G22 d5_140 ?_
      show ownGo _ _ _ _ _ _ _ T22 141 #[.val (.ref ix), .val (.long k), .second, .val (.int (7 : Int32)), .val (.int (Int32.ofNat q))] [(.int ((Int32.ofNat (nf q)) - (1 : Int32)))]
      obtain ⟨i, ei⟩ : ∃ i, nf q = i + 1 := ⟨nf q - 1, by omega⟩
      have h3 := i3 q lq hn
      rw [ei, show i + 1 - 1 = i by omega, hk] at h3
      exact own_ireturn G22 d5_141 rfl (by decide) (by decide) ⟨Z0, Or.inl ⟨i, h3, by rw [ei, own_predN], kf, nf, sf, I, L⟩⟩
    · show ownGo _ _ _ _ _ _ _ T21 64 #[.val (.ref ix), .val (.long k), .second, .val (.int (7 : Int32)), .val (.int (Int32.ofNat q))] []
      have hn : nf q = 0 := own_injN (by have := i2 q lq; omega) (by decide) hc
      have he : nf ((ownH k + t) % 8) = 0 := by rw [← eq]; exact hn
      have ab := own_absentL I (own_absent I hp he)
      have hl := hcap ab
      have I2 := own_insert I hp he hl
      rw [← eq] at I2
      refine own_aloadN G21 d5_64 rfl rfl ?_
      show ownGo _ _ _ _ _ _ _ T21 65 #[.val (.ref ix), .val (.long k), .second, .val (.int (7 : Int32)), .val (.int (Int32.ofNat q))] [(.ref ix)]
      refine own_getF G21 d5_65 (hw _ (List.mem_of_getElem? (i := 36) rfl)) Via.refl Fz ?_
      intro T23 G23
      show ownGo _ _ _ _ _ _ _ T23 68 #[.val (.ref ix), .val (.long k), .second, .val (.int (7 : Int32)), .val (.int (Int32.ofNat q))] [(.int (Int32.ofNat ks.length))]
      refine own_aloadN G23 d5_68 rfl rfl ?_
      show ownGo _ _ _ _ _ _ _ T23 69 #[.val (.ref ix), .val (.long k), .second, .val (.int (7 : Int32)), .val (.int (Int32.ofNat q))] [(.ref ix), (.int (Int32.ofNat ks.length))]
      refine own_getF G23 d5_69 (hw _ (List.mem_of_getElem? (i := 28) rfl)) Via.refl Fc ?_
      intro T24 G24
      show ownGo _ _ _ _ _ _ _ T24 72 #[.val (.ref ix), .val (.long k), .second, .val (.int (7 : Int32)), .val (.int (Int32.ofNat q))] [(.int (3 : Int32)), (.int (Int32.ofNat ks.length))]
      refine own_icmp_ne G24 d5_72 (pc' := 92) (by decide) (by decide) (fun hc => ?_) (fun hc => False.elim (absurd (own_injN (n := 3) (by omega) (by decide) hc) (by omega)))
      show ownGo _ _ _ _ _ _ _ T24 92 #[.val (.ref ix), .val (.long k), .second, .val (.int (7 : Int32)), .val (.int (Int32.ofNat q))] []
      refine own_aloadN G24 d5_92 rfl rfl ?_
      show ownGo _ _ _ _ _ _ _ T24 93 #[.val (.ref ix), .val (.long k), .second, .val (.int (7 : Int32)), .val (.int (Int32.ofNat q))] [(.ref ix)]
      refine own_getF G24 d5_93 (hw _ (List.mem_of_getElem? (i := 19) rfl)) Via.refl Fk ?_
      intro T25 G25
      show ownGo _ _ _ _ _ _ _ T25 96 #[.val (.ref ix), .val (.long k), .second, .val (.int (7 : Int32)), .val (.int (Int32.ofNat q))] [(.ref ke)]
      refine own_iload G25 d5_96 rfl ?_
      show ownGo _ _ _ _ _ _ _ T25 98 #[.val (.ref ix), .val (.long k), .second, .val (.int (7 : Int32)), .val (.int (Int32.ofNat q))] [(.int (Int32.ofNat q)), (.ref ke)]
      refine own_lloadN G25 d5_98 rfl ?_
      show ownGo _ _ _ _ _ _ _ T25 99 #[.val (.ref ix), .val (.long k), .second, .val (.int (7 : Int32)), .val (.int (Int32.ofNat q))] [(.long k), (.int (Int32.ofNat q)), (.ref ke)]
      refine own_lastore G25 d5_99 Ak  (own_ixN lq (by decide)) g2 ?_
      intro T26 h26 W26 G26
      show ownGo _ _ _ _ _ _ _ T26 100 #[.val (.ref ix), .val (.long k), .second, .val (.int (7 : Int32)), .val (.int (Int32.ofNat q))] []
      have L1 := L.wKe N W26
      have L1' := L1
      obtain ⟨E1, Fk1, Fn1, Fs1, Fh1, Fc1, Fz1, Ak1, An1, As1⟩ := L1'
      refine own_aloadN G26 d5_100 rfl rfl ?_
      show ownGo _ _ _ _ _ _ _ T26 101 #[.val (.ref ix), .val (.long k), .second, .val (.int (7 : Int32)), .val (.int (Int32.ofNat q))] [(.ref ix)]
      refine own_getF G26 d5_101 (hw _ (List.mem_of_getElem? (i := 26) rfl)) Via.refl Fs1 ?_
      intro T27 G27
      show ownGo _ _ _ _ _ _ _ T27 104 #[.val (.ref ix), .val (.long k), .second, .val (.int (7 : Int32)), .val (.int (Int32.ofNat q))] [(.ref sl)]
      refine own_aloadN G27 d5_104 rfl rfl ?_
      show ownGo _ _ _ _ _ _ _ T27 105 #[.val (.ref ix), .val (.long k), .second, .val (.int (7 : Int32)), .val (.int (Int32.ofNat q))] [(.ref ix), (.ref sl)]
      refine own_getF G27 d5_105 (hw _ (List.mem_of_getElem? (i := 36) rfl)) Via.refl Fz1 ?_
      intro T28 G28
      show ownGo _ _ _ _ _ _ _ T28 108 #[.val (.ref ix), .val (.long k), .second, .val (.int (7 : Int32)), .val (.int (Int32.ofNat q))] [(.int (Int32.ofNat ks.length)), (.ref sl)]
      refine own_iload G28 d5_108 rfl ?_
      show ownGo _ _ _ _ _ _ _ T28 110 #[.val (.ref ix), .val (.long k), .second, .val (.int (7 : Int32)), .val (.int (Int32.ofNat q))] [(.int (Int32.ofNat q)), (.int (Int32.ofNat ks.length)), (.ref sl)]
      refine own_iastore G28 d5_110 As1  (own_ixN hl (by decide)) g4 ?_
      intro T29 h29 W29 G29
      show ownGo _ _ _ _ _ _ _ T29 111 #[.val (.ref ix), .val (.long k), .second, .val (.int (7 : Int32)), .val (.int (Int32.ofNat q))] []
      have L2 := L1.wSl N W29
      have L2' := L2
      obtain ⟨E2, Fk2, Fn2, Fs2, Fh2, Fc2, Fz2, Ak2, An2, As2⟩ := L2'
      refine own_aloadN G29 d5_111 rfl rfl ?_
      show ownGo _ _ _ _ _ _ _ T29 112 #[.val (.ref ix), .val (.long k), .second, .val (.int (7 : Int32)), .val (.int (Int32.ofNat q))] [(.ref ix)]
      refine own_dup G29 d5_112 rfl ?_
      show ownGo _ _ _ _ _ _ _ T29 113 #[.val (.ref ix), .val (.long k), .second, .val (.int (7 : Int32)), .val (.int (Int32.ofNat q))] [(.ref ix), (.ref ix)]
      refine own_getF G29 d5_113 (hw _ (List.mem_of_getElem? (i := 36) rfl)) Via.refl Fz2 ?_
      intro T30 G30
      show ownGo _ _ _ _ _ _ _ T30 116 #[.val (.ref ix), .val (.long k), .second, .val (.int (7 : Int32)), .val (.int (Int32.ofNat q))] [(.int (Int32.ofNat ks.length)), (.ref ix)]
      refine own_iconst G30 d5_116 ?_
      show ownGo _ _ _ _ _ _ _ T30 117 #[.val (.ref ix), .val (.long k), .second, .val (.int (7 : Int32)), .val (.int (Int32.ofNat q))] [(.int (1 : Int32)), (.int (Int32.ofNat ks.length)), (.ref ix)]
      refine own_iadd G30 d5_117 ?_
      show ownGo _ _ _ _ _ _ _ T30 118 #[.val (.ref ix), .val (.long k), .second, .val (.int (7 : Int32)), .val (.int (Int32.ofNat q))] [(.int ((Int32.ofNat ks.length) + (1 : Int32))), (.ref ix)]
      rw [own_succN _]
      show ownGo _ _ _ _ _ _ _ T30 118 #[.val (.ref ix), .val (.long k), .second, .val (.int (7 : Int32)), .val (.int (Int32.ofNat q))] [(.int (Int32.ofNat (ks.length + 1))), (.ref ix)]
      refine own_putF G30 d5_118 (hw _ (List.mem_of_getElem? (i := 36) rfl)) Via.refl Fz2 E2 (Or.inl (hw _ (List.mem_of_getElem? (i := 37) rfl))) (hw _ (List.mem_of_getElem? (i := 1) rfl)) (ty := .int) (by decide) rfl rfl g1 ?_
      intro T31 h31 W31 G31
      show ownGo _ _ _ _ _ _ _ T31 121 #[.val (.ref ix), .val (.long k), .second, .val (.int (7 : Int32)), .val (.int (Int32.ofNat q))] []
      have L3 := L2.wSize hw N W31
      have L3' := L3
      obtain ⟨E3, Fk3, Fn3, Fs3, Fh3, Fc3, Fz3, Ak3, An3, As3⟩ := L3'
      refine own_aloadN G31 d5_121 rfl rfl ?_
      show ownGo _ _ _ _ _ _ _ T31 122 #[.val (.ref ix), .val (.long k), .second, .val (.int (7 : Int32)), .val (.int (Int32.ofNat q))] [(.ref ix)]
      refine own_getF G31 d5_122 (hw _ (List.mem_of_getElem? (i := 22) rfl)) Via.refl Fn3 ?_
      intro T32 G32
      show ownGo _ _ _ _ _ _ _ T32 125 #[.val (.ref ix), .val (.long k), .second, .val (.int (7 : Int32)), .val (.int (Int32.ofNat q))] [(.ref nu)]
      refine own_iload G32 d5_125 rfl ?_
      show ownGo _ _ _ _ _ _ _ T32 127 #[.val (.ref ix), .val (.long k), .second, .val (.int (7 : Int32)), .val (.int (Int32.ofNat q))] [(.int (Int32.ofNat q)), (.ref nu)]
      refine own_aloadN G32 d5_127 rfl rfl ?_
      show ownGo _ _ _ _ _ _ _ T32 128 #[.val (.ref ix), .val (.long k), .second, .val (.int (7 : Int32)), .val (.int (Int32.ofNat q))] [(.ref ix), (.int (Int32.ofNat q)), (.ref nu)]
      refine own_getF G32 d5_128 (hw _ (List.mem_of_getElem? (i := 36) rfl)) Via.refl Fz3 ?_
      intro T33 G33
      show ownGo _ _ _ _ _ _ _ T33 131 #[.val (.ref ix), .val (.long k), .second, .val (.int (7 : Int32)), .val (.int (Int32.ofNat q))] [(.int (Int32.ofNat (ks.length + 1))), (.int (Int32.ofNat q)), (.ref nu)]
      refine own_iastore G33 d5_131 An3  (own_ixN lq (by decide)) g3 ?_
      intro T34 h34 W34 G34
      show ownGo _ _ _ _ _ _ _ T34 132 #[.val (.ref ix), .val (.long k), .second, .val (.int (7 : Int32)), .val (.int (Int32.ofNat q))] []
      have L4 := L3.wNu N W34
      have L4' := L4
      obtain ⟨E4, Fk4, Fn4, Fs4, Fh4, Fc4, Fz4, Ak4, An4, As4⟩ := L4'
      refine own_aloadN G34 d5_132 rfl rfl ?_
      show ownGo _ _ _ _ _ _ _ T34 133 #[.val (.ref ix), .val (.long k), .second, .val (.int (7 : Int32)), .val (.int (Int32.ofNat q))] [(.ref ix)]
      refine own_getF G34 d5_133 (hw _ (List.mem_of_getElem? (i := 22) rfl)) Via.refl Fn4 ?_
      intro T35 G35
      show ownGo _ _ _ _ _ _ _ T35 136 #[.val (.ref ix), .val (.long k), .second, .val (.int (7 : Int32)), .val (.int (Int32.ofNat q))] [(.ref nu)]
      refine own_iload G35 d5_136 rfl ?_
      show ownGo _ _ _ _ _ _ _ T35 138 #[.val (.ref ix), .val (.long k), .second, .val (.int (7 : Int32)), .val (.int (Int32.ofNat q))] [(.int (Int32.ofNat q)), (.ref nu)]
      refine own_iaload G35 d5_138 (v := (.int (Int32.ofNat (ks.length + 1)))) An4  (own_ixN lq (by decide)) (by unfold ownUpd; simp) ?_
      show ownGo _ _ _ _ _ _ _ T35 139 #[.val (.ref ix), .val (.long k), .second, .val (.int (7 : Int32)), .val (.int (Int32.ofNat q))] [(.int (Int32.ofNat (ks.length + 1)))]
      refine own_iconst G35 d5_139 ?_
      show ownGo _ _ _ _ _ _ _ T35 140 #[.val (.ref ix), .val (.long k), .second, .val (.int (7 : Int32)), .val (.int (Int32.ofNat q))] [(.int (1 : Int32)), (.int (Int32.ofNat (ks.length + 1)))]
      refine own_isub G35 d5_140 ?_
      show ownGo _ _ _ _ _ _ _ T35 141 #[.val (.ref ix), .val (.long k), .second, .val (.int (7 : Int32)), .val (.int (Int32.ofNat q))] [(.int ((Int32.ofNat (ks.length + 1)) - (1 : Int32)))]
      exact own_ireturn G35 d5_141 rfl (by decide) (by decide) ⟨by rw [W34.size, W31.size, W29.size, W26.size]; exact Z0, Or.inr ⟨ab, by rw [own_predN], _, _, _, I2, by rw [show (ks ++ [k]).length = ks.length + 1 by simp]; exact L4⟩⟩
  obtain ⟨q0, lq0, eq0⟩ := own_free I
  have loop : ∀ (m' t q : Nat) (T : State), t + m' = (q0 + 8 - ownH k) % 8 → q = (ownH k + t) % 8 → (∀ u, u < t → nf ((ownH k + u) % 8) ≠ 0 ∧ kf ((ownH k + u) % 8) ≠ k) → ownSt p l e ({ frames := 0, cells := 0, slots := 0, locals := 0 } : Room) s m #[(.ref ix), (.long k)] below meth c Z n0 "com/example/termite/termite/engine/LongIndex" prog_24_method_2_code 5 (some .int) "number" T h0 0 0 → ownGo p e m below n0 (ownEnd s ({ frames := 0, cells := 0, slots := 0, locals := 0 } : Room)) (fun v h => n0 ≤ h.size ∧ ((∃ i, ks[i]? = some k ∧ v = some (.int (Int32.ofNat i)) ∧ ownS Z h ix ke nu sl ks) ∨ (k ∉ ks ∧ v = some (.int (Int32.ofNat ks.length)) ∧ ownS Z h ix ke nu sl (ks ++ [k])))) T 21 #[.val (.ref ix), .val (.long k), .second, .val (.int (7 : Int32)), .val (.int (Int32.ofNat q))] [] := by
    intro m'
    induction m' with
    | zero =>
      intro t q T et eq hp G
      have lq : q < 8 := by omega
      show ownGo _ _ _ _ _ _ _ T 21 #[.val (.ref ix), .val (.long k), .second, .val (.int (7 : Int32)), .val (.int (Int32.ofNat q))] []
      refine own_aloadN G d5_21 rfl rfl ?_
      show ownGo _ _ _ _ _ _ _ T 22 #[.val (.ref ix), .val (.long k), .second, .val (.int (7 : Int32)), .val (.int (Int32.ofNat q))] [(.ref ix)]
      refine own_getF G d5_22 (hw _ (List.mem_of_getElem? (i := 22) rfl)) Via.refl Fn ?_
      intro T36 G36
      show ownGo _ _ _ _ _ _ _ T36 25 #[.val (.ref ix), .val (.long k), .second, .val (.int (7 : Int32)), .val (.int (Int32.ofNat q))] [(.ref nu)]
      refine own_iload G36 d5_25 rfl ?_
      show ownGo _ _ _ _ _ _ _ T36 27 #[.val (.ref ix), .val (.long k), .second, .val (.int (7 : Int32)), .val (.int (Int32.ofNat q))] [(.int (Int32.ofNat q)), (.ref nu)]
      refine own_iaload G36 d5_27 (v := (.int (Int32.ofNat (nf q)))) An  (own_ixN lq (by decide)) rfl ?_
      show ownGo _ _ _ _ _ _ _ T36 28 #[.val (.ref ix), .val (.long k), .second, .val (.int (7 : Int32)), .val (.int (Int32.ofNat q))] [(.int (Int32.ofNat (nf q)))]
      have eq' : q = q0 := by omega
      refine own_if_eq G36 d5_28 (pc' := 54) (by decide) (by decide) (fun hc => ?_) (fun hc => False.elim (hc (by rw [eq', eq0]; rfl)))
      show ownGo _ _ _ _ _ _ _ T36 54 #[.val (.ref ix), .val (.long k), .second, .val (.int (7 : Int32)), .val (.int (Int32.ofNat q))] []
      exact fin t q _ eq hp (Or.inl (by rw [eq']; exact eq0)) G36
    | succ m' ih =>
      intro t q T et eq hp G
      have lq : q < 8 := by omega
      show ownGo _ _ _ _ _ _ _ T 21 #[.val (.ref ix), .val (.long k), .second, .val (.int (7 : Int32)), .val (.int (Int32.ofNat q))] []
      refine own_aloadN G d5_21 rfl rfl ?_
      show ownGo _ _ _ _ _ _ _ T 22 #[.val (.ref ix), .val (.long k), .second, .val (.int (7 : Int32)), .val (.int (Int32.ofNat q))] [(.ref ix)]
      refine own_getF G d5_22 (hw _ (List.mem_of_getElem? (i := 22) rfl)) Via.refl Fn ?_
      intro T37 G37
      show ownGo _ _ _ _ _ _ _ T37 25 #[.val (.ref ix), .val (.long k), .second, .val (.int (7 : Int32)), .val (.int (Int32.ofNat q))] [(.ref nu)]
      refine own_iload G37 d5_25 rfl ?_
      show ownGo _ _ _ _ _ _ _ T37 27 #[.val (.ref ix), .val (.long k), .second, .val (.int (7 : Int32)), .val (.int (Int32.ofNat q))] [(.int (Int32.ofNat q)), (.ref nu)]
      refine own_iaload G37 d5_27 (v := (.int (Int32.ofNat (nf q)))) An  (own_ixN lq (by decide)) rfl ?_
      show ownGo _ _ _ _ _ _ _ T37 28 #[.val (.ref ix), .val (.long k), .second, .val (.int (7 : Int32)), .val (.int (Int32.ofNat q))] [(.int (Int32.ofNat (nf q)))]
      refine own_if_eq G37 d5_28 (pc' := 54) (by decide) (by decide) (fun hc => ?_) (fun hc => ?_)
      · show ownGo _ _ _ _ _ _ _ T37 54 #[.val (.ref ix), .val (.long k), .second, .val (.int (7 : Int32)), .val (.int (Int32.ofNat q))] []
        exact fin t q _ eq hp (Or.inl (own_injN (by have := i2 q lq; omega) (by decide) hc)) G37
      · show ownGo _ _ _ _ _ _ _ T37 31 #[.val (.ref ix), .val (.long k), .second, .val (.int (7 : Int32)), .val (.int (Int32.ofNat q))] []
        have hn : nf q ≠ 0 := fun r => hc (by rw [r]; rfl)
        refine own_aloadN G37 d5_31 rfl rfl ?_
        show ownGo _ _ _ _ _ _ _ T37 32 #[.val (.ref ix), .val (.long k), .second, .val (.int (7 : Int32)), .val (.int (Int32.ofNat q))] [(.ref ix)]
        refine own_getF G37 d5_32 (hw _ (List.mem_of_getElem? (i := 19) rfl)) Via.refl Fk ?_
        intro T38 G38
        show ownGo _ _ _ _ _ _ _ T38 35 #[.val (.ref ix), .val (.long k), .second, .val (.int (7 : Int32)), .val (.int (Int32.ofNat q))] [(.ref ke)]
        refine own_iload G38 d5_35 rfl ?_
        show ownGo _ _ _ _ _ _ _ T38 37 #[.val (.ref ix), .val (.long k), .second, .val (.int (7 : Int32)), .val (.int (Int32.ofNat q))] [(.int (Int32.ofNat q)), (.ref ke)]
        refine own_laload G38 d5_37 (v := (.long (kf q))) Ak  (own_ixN lq (by decide)) rfl ?_
        show ownGo _ _ _ _ _ _ _ T38 38 #[.val (.ref ix), .val (.long k), .second, .val (.int (7 : Int32)), .val (.int (Int32.ofNat q))] [(.long (kf q))]
        refine own_lloadN G38 d5_38 rfl ?_
        show ownGo _ _ _ _ _ _ _ T38 39 #[.val (.ref ix), .val (.long k), .second, .val (.int (7 : Int32)), .val (.int (Int32.ofNat q))] [(.long k), (.long (kf q))]
        refine own_lcif_eq G38 d5_39 d5_40 (pc' := 54) (by decide) (by decide) (fun hk => ?_) (fun hk => ?_)
        · show ownGo _ _ _ _ _ _ _ T38 54 #[.val (.ref ix), .val (.long k), .second, .val (.int (7 : Int32)), .val (.int (Int32.ofNat q))] []
          exact fin t q _ eq hp (Or.inr ⟨hn, hk⟩) G38
        · show ownGo _ _ _ _ _ _ _ T38 43 #[.val (.ref ix), .val (.long k), .second, .val (.int (7 : Int32)), .val (.int (Int32.ofNat q))] []
          refine own_iload G38 d5_43 rfl ?_
          show ownGo _ _ _ _ _ _ _ T38 45 #[.val (.ref ix), .val (.long k), .second, .val (.int (7 : Int32)), .val (.int (Int32.ofNat q))] [(.int (Int32.ofNat q))]
          refine own_iconst G38 d5_45 ?_
          show ownGo _ _ _ _ _ _ _ T38 46 #[.val (.ref ix), .val (.long k), .second, .val (.int (7 : Int32)), .val (.int (Int32.ofNat q))] [(.int (1 : Int32)), (.int (Int32.ofNat q))]
          refine own_iadd G38 d5_46 ?_
          show ownGo _ _ _ _ _ _ _ T38 47 #[.val (.ref ix), .val (.long k), .second, .val (.int (7 : Int32)), .val (.int (Int32.ofNat q))] [(.int ((Int32.ofNat q) + (1 : Int32)))]
          refine own_iloadN G38 d5_47 rfl ?_
          show ownGo _ _ _ _ _ _ _ T38 48 #[.val (.ref ix), .val (.long k), .second, .val (.int (7 : Int32)), .val (.int (Int32.ofNat q))] [(.int (7 : Int32)), (.int ((Int32.ofNat q) + (1 : Int32)))]
          refine own_iand G38 d5_48 ?_
          show ownGo _ _ _ _ _ _ _ T38 49 #[.val (.ref ix), .val (.long k), .second, .val (.int (7 : Int32)), .val (.int (Int32.ofNat q))] [(.int (((Int32.ofNat q) + (1 : Int32)) &&& (7 : Int32)))]
          rw [own_next q lq]
          show ownGo _ _ _ _ _ _ _ T38 49 #[.val (.ref ix), .val (.long k), .second, .val (.int (7 : Int32)), .val (.int (Int32.ofNat q))] [(.int (Int32.ofNat ((q + 1) % 8)))]
          refine own_istore G38 d5_49 (L' := #[.val (.ref ix), .val (.long k), .second, .val (.int (7 : Int32)), .val (.int (Int32.ofNat ((q + 1) % 8)))]) rfl ?_
          show ownGo _ _ _ _ _ _ _ T38 51 #[.val (.ref ix), .val (.long k), .second, .val (.int (7 : Int32)), .val (.int (Int32.ofNat ((q + 1) % 8)))] []
          refine own_goto G38 d5_51 (pc' := 21) (by decide) (by decide) ?_
          show ownGo _ _ _ _ _ _ _ T38 21 #[.val (.ref ix), .val (.long k), .second, .val (.int (7 : Int32)), .val (.int (Int32.ofNat ((q + 1) % 8)))] []
          refine ih (t + 1) _ _ (by omega) (by omega) (fun u hu => ?_) G38
          by_cases r : u = t
          · subst r; rw [← eq]; exact ⟨hn, hk⟩
          · exact hp u (by omega)
  exact loop _ 0 (ownH k) _ (Nat.zero_add _) (by omega) (fun u hu => absurd hu (Nat.not_lt_zero _)) G20
theorem pn_rm0 : plainFor (⟨"com/example/termite/termite/engine/LongIndexClearPinLaw", "law", "(JJJJI)Z"⟩ : MethodName) = true := plainFor_of_name (by first | (simp [plainName, overriddenIn]; done) | decide +kernel)
theorem ef_rm0 (m : MethodId) (q1 : Int64) (q2 : Int64) (q3 : Int64) (q4 : Int64) (p5 : Int32) : entryFrame m #[(.long q1), (.long q2), (.long q3), (.long q4), (.int p5)] maxLocals = mkF m 0 #[.val (.long q1), .second, .val (.long q2), .second, .val (.long q3), .second, .val (.long q4), .second, .val (.int p5), .unset, .unset, .unset, .unset, .unset, .unset, .unset, .unset, .unset, .unset] [] := by first | (simp [entryFrame, mkF, argsToLocals, Value.category, maxLocals]; done) | rfl
set_option maxRecDepth 65536 in
set_option maxHeartbeats 40000000 in
theorem rm0 (l : Launch) (Z : State) (a0 : Array Value) (hw : ∀ d ∈ tables_1, d.before a0 Z = true) (q1 q2 q3 q4 : Int64) (p5 : Int32) (h0 : Heap) (n0 : Nat) (Z0 : n0 ≤ h0.size) :
    ownMet l tables_1 x code maxLocals ret room_1 Z n0 #[(.long q1), (.long q2), (.long q3), (.long q4), (.int p5)] h0 (fun v h => v = some (.int 1)) := by
  refine own_body (own := "com/example/termite/termite/engine/LongIndexClearPinLaw") (nm := "law") pn_rm0 (fun m => ef_rm0 m q1 q2 q3 q4 p5) rfl rfl ?_
  intro p e s m below meth c T0 G0
  show ownGo _ _ _ _ _ _ _ T0 0 #[.val (.long q1), .second, .val (.long q2), .second, .val (.long q3), .second, .val (.long q4), .second, .val (.int p5), .unset, .unset, .unset, .unset, .unset, .unset, .unset, .unset, .unset, .unset] []
  refine own_new G0 at_0 (hw _ (List.mem_of_getElem? (i := 0) rfl)) (hw _ (List.mem_of_getElem? (i := 1) rfl)) (hw _ (List.mem_of_getElem? (i := 2) rfl)) (by decide) (by decide) ?_
  intro T39 h39 b39 g39 E39 A39 D39 G39
  show ownGo _ _ _ _ _ _ _ T39 3 #[.val (.long q1), .second, .val (.long q2), .second, .val (.long q3), .second, .val (.long q4), .second, .val (.int p5), .unset, .unset, .unset, .unset, .unset, .unset, .unset, .unset, .unset, .unset] [(.ref b39)]
  have F_keys_b39 : Fld Z h39 b39 "com/example/termite/termite/engine/LongIndex" "keys" "[J" .null := D39 (Or.inr (hw _ (List.mem_of_getElem? (i := 20) rfl))) (ty := (.array .long)) (by decide)
  have F_numbers_b39 : Fld Z h39 b39 "com/example/termite/termite/engine/LongIndex" "numbers" "[I" .null := D39 (Or.inr (hw _ (List.mem_of_getElem? (i := 23) rfl))) (ty := (.array .int)) (by decide)
  have F_shift_b39 : Fld Z h39 b39 "com/example/termite/termite/engine/LongIndex" "shift" "I" (.int (0 : Int32)) := D39 (Or.inr (hw _ (List.mem_of_getElem? (i := 25) rfl))) (ty := .int) (by decide)
  have F_slots_b39 : Fld Z h39 b39 "com/example/termite/termite/engine/LongIndex" "slots" "[I" .null := D39 (Or.inr (hw _ (List.mem_of_getElem? (i := 27) rfl))) (ty := (.array .int)) (by decide)
  have F_capacity_b39 : Fld Z h39 b39 "com/example/termite/termite/engine/LongIndex" "capacity" "I" (.int (0 : Int32)) := D39 (Or.inr (hw _ (List.mem_of_getElem? (i := 29) rfl))) (ty := .int) (by decide)
  have F_size_b39 : Fld Z h39 b39 "com/example/termite/termite/engine/LongIndex" "size" "I" (.int (0 : Int32)) := D39 (Or.inl (hw _ (List.mem_of_getElem? (i := 37) rfl))) (ty := .int) (by decide)
  have g1 : n0 ≤ b39 := Nat.le_trans Z0 (Nat.le_of_eq g39.symm)
  have Y1 : n0 ≤ h39.size := Nat.le_trans Z0 E39.1
  refine own_dup G39 at_3 rfl ?_
  show ownGo _ _ _ _ _ _ _ T39 4 #[.val (.long q1), .second, .val (.long q2), .second, .val (.long q3), .second, .val (.long q4), .second, .val (.int p5), .unset, .unset, .unset, .unset, .unset, .unset, .unset, .unset, .unset, .unset] [(.ref b39), (.ref b39)]
  refine own_iconst G39 at_4 ?_
  show ownGo _ _ _ _ _ _ _ T39 5 #[.val (.long q1), .second, .val (.long q2), .second, .val (.long q3), .second, .val (.long q4), .second, .val (.int p5), .unset, .unset, .unset, .unset, .unset, .unset, .unset, .unset, .unset, .unset] [(.int (3 : Int32)), (.ref b39), (.ref b39)]
  refine own_special G39 at_5 (y := (⟨"com/example/termite/termite/engine/LongIndex", "<init>", "(I)V"⟩ : MethodName)) rfl (hw _ (List.mem_of_getElem? (i := 3) rfl)) (hw _ (List.mem_of_getElem? (i := 4) rfl)) (hw _ (List.mem_of_getElem? (i := 2) rfl)) (hw _ (List.mem_of_getElem? (i := 5) rfl)) (by decide) (a := b39) (argsL := [(.int (3 : Int32))]) (rest := [(.ref b39)]) (rmNew l Z a0 hw b39 h39 n0 Y1 A39 F_keys_b39 F_numbers_b39 F_slots_b39 F_shift_b39 F_capacity_b39 F_size_b39 g1) rfl rfl rfl (lenOf pd_2 rfl) (W := 1) (Nat.le_of_eq rfl) (by decide) (by decide) (by decide) (by decide) ?_
  intro v40 T40 h40 hq40 G40
  obtain ⟨ke, nu, sl, rfl, Y, N, V⟩ := hq40
  show ownGo _ _ _ _ _ _ _ T40 8 #[.val (.long q1), .second, .val (.long q2), .second, .val (.long q3), .second, .val (.long q4), .second, .val (.int p5), .unset, .unset, .unset, .unset, .unset, .unset, .unset, .unset, .unset, .unset] [(.ref b39)]
  refine own_astore G40 at_8 (L' := #[.val (.long q1), .second, .val (.long q2), .second, .val (.long q3), .second, .val (.long q4), .second, .val (.int p5), .val (.ref b39), .unset, .unset, .unset, .unset, .unset, .unset, .unset, .unset, .unset]) rfl rfl ?_
  show ownGo _ _ _ _ _ _ _ T40 10 #[.val (.long q1), .second, .val (.long q2), .second, .val (.long q3), .second, .val (.long q4), .second, .val (.int p5), .val (.ref b39), .unset, .unset, .unset, .unset, .unset, .unset, .unset, .unset, .unset] []
  refine own_iload G40 at_10 rfl ?_
  show ownGo _ _ _ _ _ _ _ T40 12 #[.val (.long q1), .second, .val (.long q2), .second, .val (.long q3), .second, .val (.long q4), .second, .val (.int p5), .val (.ref b39), .unset, .unset, .unset, .unset, .unset, .unset, .unset, .unset, .unset] [(.int p5)]
  refine own_iconst G40 at_12 ?_
  show ownGo _ _ _ _ _ _ _ T40 13 #[.val (.long q1), .second, .val (.long q2), .second, .val (.long q3), .second, .val (.long q4), .second, .val (.int p5), .val (.ref b39), .unset, .unset, .unset, .unset, .unset, .unset, .unset, .unset, .unset] [(.int (3 : Int32)), (.int p5)]
  refine own_iand G40 at_13 ?_
  show ownGo _ _ _ _ _ _ _ T40 14 #[.val (.long q1), .second, .val (.long q2), .second, .val (.long q3), .second, .val (.long q4), .second, .val (.int p5), .val (.ref b39), .unset, .unset, .unset, .unset, .unset, .unset, .unset, .unset, .unset] [(.int (p5 &&& (3 : Int32)))]
  obtain ⟨mm, emm⟩ : ∃ z : Int32, z = (p5 &&& (3 : Int32)) := ⟨_, rfl⟩
  rw [← emm]
  show ownGo _ _ _ _ _ _ _ T40 14 #[.val (.long q1), .second, .val (.long q2), .second, .val (.long q3), .second, .val (.long q4), .second, .val (.int p5), .val (.ref b39), .unset, .unset, .unset, .unset, .unset, .unset, .unset, .unset, .unset] [(.int mm)]
  refine own_istore G40 at_14 (L' := #[.val (.long q1), .second, .val (.long q2), .second, .val (.long q3), .second, .val (.long q4), .second, .val (.int p5), .val (.ref b39), .val (.int mm), .unset, .unset, .unset, .unset, .unset, .unset, .unset, .unset]) rfl ?_
  show ownGo _ _ _ _ _ _ _ T40 16 #[.val (.long q1), .second, .val (.long q2), .second, .val (.long q3), .second, .val (.long q4), .second, .val (.int p5), .val (.ref b39), .val (.int mm), .unset, .unset, .unset, .unset, .unset, .unset, .unset, .unset] []
  refine own_iload G40 at_16 rfl ?_
  show ownGo _ _ _ _ _ _ _ T40 18 #[.val (.long q1), .second, .val (.long q2), .second, .val (.long q3), .second, .val (.long q4), .second, .val (.int p5), .val (.ref b39), .val (.int mm), .unset, .unset, .unset, .unset, .unset, .unset, .unset, .unset] [(.int mm)]
  refine own_iconst G40 at_18 ?_
  show ownGo _ _ _ _ _ _ _ T40 19 #[.val (.long q1), .second, .val (.long q2), .second, .val (.long q3), .second, .val (.long q4), .second, .val (.int p5), .val (.ref b39), .val (.int mm), .unset, .unset, .unset, .unset, .unset, .unset, .unset, .unset] [(.int (1 : Int32)), (.int mm)]
  have j190 : ∀ (x1 x2 x3 x4 x5 x6 : Int32) (T : State) (h : Heap) (ks : List Int64), ownSt p l e room_1 s m #[(.long q1), (.long q2), (.long q3), (.long q4), (.int p5)] below meth c Z n0 "com/example/termite/termite/engine/LongIndexClearPinLaw" code maxLocals ret "law" T h 4 25 → n0 ≤ h.size → ownS Z h b39 ke nu sl ks → ownGo p e m below n0 (ownEnd s room_1) (fun v h => v = some (.int 1)) T 190 #[.val (.long q1), .second, .val (.long q2), .second, .val (.long q3), .second, .val (.long q4), .second, .val (.int p5), .val (.ref b39), .val (.int mm), .val (.int (1 : Int32)), .val (.int x1), .val (.int x2), .val (.int x3), .val (.int x4), .val (.int x5), .val (.int x6), .unset] [] := by
    intro x1 x2 x3 x4 x5 x6 T h ks G Y V
    show ownGo _ _ _ _ _ _ _ T 190 #[.val (.long q1), .second, .val (.long q2), .second, .val (.long q3), .second, .val (.long q4), .second, .val (.int p5), .val (.ref b39), .val (.int mm), .val (.int (1 : Int32)), .val (.int x1), .val (.int x2), .val (.int x3), .val (.int x4), .val (.int x5), .val (.int x6), .unset] []
    refine own_aload G at_190 rfl rfl ?_
    show ownGo _ _ _ _ _ _ _ T 192 #[.val (.long q1), .second, .val (.long q2), .second, .val (.long q3), .second, .val (.long q4), .second, .val (.int p5), .val (.ref b39), .val (.int mm), .val (.int (1 : Int32)), .val (.int x1), .val (.int x2), .val (.int x3), .val (.int x4), .val (.int x5), .val (.int x6), .unset] [(.ref b39)]
    refine own_virtual G at_192 (y := (⟨"com/example/termite/termite/engine/LongIndex", "clear", "()V"⟩ : MethodName)) (hw _ (List.mem_of_getElem? (i := 38) rfl)) (hw _ (List.mem_of_getElem? (i := 39) rfl)) (hw _ (List.mem_of_getElem? (i := 41) rfl)) (hw _ (List.mem_of_getElem? (i := 40) rfl)) (hw _ (List.mem_of_getElem? (i := 2) rfl)) (hw _ (List.mem_of_getElem? (i := 42) rfl)) (by decide) (a := b39) (argsL := []) (rest := []) V.exa (rmClear l Z a0 hw b39 ke nu sl ks h n0 Y V N) rfl rfl rfl (lenOf pd_3 rfl) (W := 0) (Nat.le_of_eq rfl) (by decide) (by decide) (by decide) (by decide) ?_
    intro v41 T41 h41 hq41 G41
    obtain ⟨rfl, Y', V'⟩ := hq41
    show ownGo _ _ _ _ _ _ _ T41 195 #[.val (.long q1), .second, .val (.long q2), .second, .val (.long q3), .second, .val (.long q4), .second, .val (.int p5), .val (.ref b39), .val (.int mm), .val (.int (1 : Int32)), .val (.int x1), .val (.int x2), .val (.int x3), .val (.int x4), .val (.int x5), .val (.int x6), .unset] []
    replace Y := Y'
    replace V := V'
    refine own_aload G41 at_195 rfl rfl ?_
    show ownGo _ _ _ _ _ _ _ T41 197 #[.val (.long q1), .second, .val (.long q2), .second, .val (.long q3), .second, .val (.long q4), .second, .val (.int p5), .val (.ref b39), .val (.int mm), .val (.int (1 : Int32)), .val (.int x1), .val (.int x2), .val (.int x3), .val (.int x4), .val (.int x5), .val (.int x6), .unset] [(.ref b39)]
    refine own_lload G41 at_197 rfl ?_
    show ownGo _ _ _ _ _ _ _ T41 199 #[.val (.long q1), .second, .val (.long q2), .second, .val (.long q3), .second, .val (.long q4), .second, .val (.int p5), .val (.ref b39), .val (.int mm), .val (.int (1 : Int32)), .val (.int x1), .val (.int x2), .val (.int x3), .val (.int x4), .val (.int x5), .val (.int x6), .unset] [(.long q3), (.ref b39)]
    refine own_virtual G41 at_199 (y := (⟨"com/example/termite/termite/engine/LongIndex", "number", "(J)I"⟩ : MethodName)) (hw _ (List.mem_of_getElem? (i := 30) rfl)) (hw _ (List.mem_of_getElem? (i := 31) rfl)) (hw _ (List.mem_of_getElem? (i := 33) rfl)) (hw _ (List.mem_of_getElem? (i := 32) rfl)) (hw _ (List.mem_of_getElem? (i := 2) rfl)) (hw _ (List.mem_of_getElem? (i := 34) rfl)) (by decide) (a := b39) (argsL := [(.long q3)]) (rest := []) V.exa (rmNum l Z a0 hw b39 q3 ke nu sl [] h41 n0 Y V N (fun _ => by simp)) rfl rfl rfl (lenOf pd_4 rfl) (W := 0) (Nat.le_of_eq rfl) (by decide) (by decide) (by decide) (by decide) ?_
    intro v42 T42 h42 hq42 G42
    obtain ⟨Y', ⟨i, hi, -⟩ | ⟨-, rfl, V'⟩⟩ := hq42
    · simp at hi
    show ownGo _ _ _ _ _ _ _ T42 202 #[.val (.long q1), .second, .val (.long q2), .second, .val (.long q3), .second, .val (.long q4), .second, .val (.int p5), .val (.ref b39), .val (.int mm), .val (.int (1 : Int32)), .val (.int x1), .val (.int x2), .val (.int x3), .val (.int x4), .val (.int x5), .val (.int x6), .unset] [(.int (0 : Int32))]
    refine own_istore G42 at_202 (L' := #[.val (.long q1), .second, .val (.long q2), .second, .val (.long q3), .second, .val (.long q4), .second, .val (.int p5), .val (.ref b39), .val (.int mm), .val (.int (1 : Int32)), .val (.int x1), .val (.int x2), .val (.int x3), .val (.int x4), .val (.int x5), .val (.int x6), .val (.int (0 : Int32))]) rfl ?_
    show ownGo _ _ _ _ _ _ _ T42 204 #[.val (.long q1), .second, .val (.long q2), .second, .val (.long q3), .second, .val (.long q4), .second, .val (.int p5), .val (.ref b39), .val (.int mm), .val (.int (1 : Int32)), .val (.int x1), .val (.int x2), .val (.int x3), .val (.int x4), .val (.int x5), .val (.int x6), .val (.int (0 : Int32))] []
    refine own_iload G42 at_204 rfl ?_
    show ownGo _ _ _ _ _ _ _ T42 206 #[.val (.long q1), .second, .val (.long q2), .second, .val (.long q3), .second, .val (.long q4), .second, .val (.int p5), .val (.ref b39), .val (.int mm), .val (.int (1 : Int32)), .val (.int x1), .val (.int x2), .val (.int x3), .val (.int x4), .val (.int x5), .val (.int x6), .val (.int (0 : Int32))] [(.int (1 : Int32))]
    refine own_if_eq G42 at_206 (pc' := 218) (by decide) (by decide) (fun hc => False.elim (absurd hc (by decide))) (fun hc => ?_)
    show ownGo _ _ _ _ _ _ _ T42 209 #[.val (.long q1), .second, .val (.long q2), .second, .val (.long q3), .second, .val (.long q4), .second, .val (.int p5), .val (.ref b39), .val (.int mm), .val (.int (1 : Int32)), .val (.int x1), .val (.int x2), .val (.int x3), .val (.int x4), .val (.int x5), .val (.int x6), .val (.int (0 : Int32))] []
    refine own_iload G42 at_209 rfl ?_
    show ownGo _ _ _ _ _ _ _ T42 211 #[.val (.long q1), .second, .val (.long q2), .second, .val (.long q3), .second, .val (.long q4), .second, .val (.int p5), .val (.ref b39), .val (.int mm), .val (.int (1 : Int32)), .val (.int x1), .val (.int x2), .val (.int x3), .val (.int x4), .val (.int x5), .val (.int x6), .val (.int (0 : Int32))] [(.int (0 : Int32))]
    refine own_if_ne G42 at_211 (pc' := 218) (by decide) (by decide) (fun hc => False.elim (absurd hc (by decide))) (fun hc => ?_)
    show ownGo _ _ _ _ _ _ _ T42 214 #[.val (.long q1), .second, .val (.long q2), .second, .val (.long q3), .second, .val (.long q4), .second, .val (.int p5), .val (.ref b39), .val (.int mm), .val (.int (1 : Int32)), .val (.int x1), .val (.int x2), .val (.int x3), .val (.int x4), .val (.int x5), .val (.int x6), .val (.int (0 : Int32))] []
    refine own_iconst G42 at_214 ?_
    show ownGo _ _ _ _ _ _ _ T42 215 #[.val (.long q1), .second, .val (.long q2), .second, .val (.long q3), .second, .val (.long q4), .second, .val (.int p5), .val (.ref b39), .val (.int mm), .val (.int (1 : Int32)), .val (.int x1), .val (.int x2), .val (.int x3), .val (.int x4), .val (.int x5), .val (.int x6), .val (.int (0 : Int32))] [(.int (1 : Int32))]
    refine own_goto G42 at_215 (pc' := 219) (by decide) (by decide) ?_
    show ownGo _ _ _ _ _ _ _ T42 219 #[.val (.long q1), .second, .val (.long q2), .second, .val (.long q3), .second, .val (.long q4), .second, .val (.int p5), .val (.ref b39), .val (.int mm), .val (.int (1 : Int32)), .val (.int x1), .val (.int x2), .val (.int x3), .val (.int x4), .val (.int x5), .val (.int x6), .val (.int (0 : Int32))] [(.int (1 : Int32))]
    refine own_istore G42 at_219 (L' := #[.val (.long q1), .second, .val (.long q2), .second, .val (.long q3), .second, .val (.long q4), .second, .val (.int p5), .val (.ref b39), .val (.int mm), .val (.int (1 : Int32)), .val (.int x1), .val (.int x2), .val (.int x3), .val (.int x4), .val (.int x5), .val (.int x6), .val (.int (0 : Int32))]) rfl ?_
    show ownGo _ _ _ _ _ _ _ T42 221 #[.val (.long q1), .second, .val (.long q2), .second, .val (.long q3), .second, .val (.long q4), .second, .val (.int p5), .val (.ref b39), .val (.int mm), .val (.int (1 : Int32)), .val (.int x1), .val (.int x2), .val (.int x3), .val (.int x4), .val (.int x5), .val (.int x6), .val (.int (0 : Int32))] []
    refine own_iload G42 at_221 rfl ?_
    show ownGo _ _ _ _ _ _ _ T42 223 #[.val (.long q1), .second, .val (.long q2), .second, .val (.long q3), .second, .val (.long q4), .second, .val (.int p5), .val (.ref b39), .val (.int mm), .val (.int (1 : Int32)), .val (.int x1), .val (.int x2), .val (.int x3), .val (.int x4), .val (.int x5), .val (.int x6), .val (.int (0 : Int32))] [(.int (1 : Int32))]
    exact own_zreturn G42 at_223 rfl (by decide) (by decide) rfl
  have j56 : ∀ (T : State) (h : Heap) (ks : List Int64), ownSt p l e room_1 s m #[(.long q1), (.long q2), (.long q3), (.long q4), (.int p5)] below meth c Z n0 "com/example/termite/termite/engine/LongIndexClearPinLaw" code maxLocals ret "law" T h 4 25 → n0 ≤ h.size → ownS Z h b39 ke nu sl ks → ownGo p e m below n0 (ownEnd s room_1) (fun v h => v = some (.int 1)) T 56 #[.val (.long q1), .second, .val (.long q2), .second, .val (.long q3), .second, .val (.long q4), .second, .val (.int p5), .val (.ref b39), .val (.int mm), .unset, .unset, .unset, .unset, .unset, .unset, .unset, .unset] [] := by
    intro T h ks G Y V
    show ownGo _ _ _ _ _ _ _ T 56 #[.val (.long q1), .second, .val (.long q2), .second, .val (.long q3), .second, .val (.long q4), .second, .val (.int p5), .val (.ref b39), .val (.int mm), .unset, .unset, .unset, .unset, .unset, .unset, .unset, .unset] []
    refine own_aload G at_56 rfl rfl ?_
    show ownGo _ _ _ _ _ _ _ T 58 #[.val (.long q1), .second, .val (.long q2), .second, .val (.long q3), .second, .val (.long q4), .second, .val (.int p5), .val (.ref b39), .val (.int mm), .unset, .unset, .unset, .unset, .unset, .unset, .unset, .unset] [(.ref b39)]
    refine own_virtual G at_58 (y := (⟨"com/example/termite/termite/engine/LongIndex", "clear", "()V"⟩ : MethodName)) (hw _ (List.mem_of_getElem? (i := 38) rfl)) (hw _ (List.mem_of_getElem? (i := 39) rfl)) (hw _ (List.mem_of_getElem? (i := 41) rfl)) (hw _ (List.mem_of_getElem? (i := 40) rfl)) (hw _ (List.mem_of_getElem? (i := 2) rfl)) (hw _ (List.mem_of_getElem? (i := 42) rfl)) (by decide) (a := b39) (argsL := []) (rest := []) V.exa (rmClear l Z a0 hw b39 ke nu sl ks h n0 Y V N) rfl rfl rfl (lenOf pd_3 rfl) (W := 0) (Nat.le_of_eq rfl) (by decide) (by decide) (by decide) (by decide) ?_
    intro v43 T43 h43 hq43 G43
    obtain ⟨rfl, Y', V'⟩ := hq43
    show ownGo _ _ _ _ _ _ _ T43 61 #[.val (.long q1), .second, .val (.long q2), .second, .val (.long q3), .second, .val (.long q4), .second, .val (.int p5), .val (.ref b39), .val (.int mm), .unset, .unset, .unset, .unset, .unset, .unset, .unset, .unset] []
    replace Y := Y'
    replace V := V'
    refine own_aload G43 at_61 rfl rfl ?_
    show ownGo _ _ _ _ _ _ _ T43 63 #[.val (.long q1), .second, .val (.long q2), .second, .val (.long q3), .second, .val (.long q4), .second, .val (.int p5), .val (.ref b39), .val (.int mm), .unset, .unset, .unset, .unset, .unset, .unset, .unset, .unset] [(.ref b39)]
    refine own_virtual G43 at_63 (y := (⟨"com/example/termite/termite/engine/LongIndex", "size", "()I"⟩ : MethodName)) (hw _ (List.mem_of_getElem? (i := 43) rfl)) (hw _ (List.mem_of_getElem? (i := 44) rfl)) (hw _ (List.mem_of_getElem? (i := 46) rfl)) (hw _ (List.mem_of_getElem? (i := 45) rfl)) (hw _ (List.mem_of_getElem? (i := 2) rfl)) (hw _ (List.mem_of_getElem? (i := 47) rfl)) (by decide) (a := b39) (argsL := []) (rest := []) V.exa (rmSize l Z a0 hw b39 ke nu sl [] h43 n0 Y V) rfl rfl rfl (lenOf pd_5 rfl) (W := 0) (Nat.le_of_eq rfl) (by decide) (by decide) (by decide) (by decide) ?_
    intro v44 T44 h44 hq44 G44
    obtain ⟨rfl, rfl⟩ := hq44
    show ownGo _ _ _ _ _ _ _ T44 66 #[.val (.long q1), .second, .val (.long q2), .second, .val (.long q3), .second, .val (.long q4), .second, .val (.int p5), .val (.ref b39), .val (.int mm), .unset, .unset, .unset, .unset, .unset, .unset, .unset, .unset] [(.int (0 : Int32))]
    refine own_if_ne G44 at_66 (pc' := 73) (by decide) (by decide) (fun hc => False.elim (absurd hc (by decide))) (fun hc => ?_)
    show ownGo _ _ _ _ _ _ _ T44 69 #[.val (.long q1), .second, .val (.long q2), .second, .val (.long q3), .second, .val (.long q4), .second, .val (.int p5), .val (.ref b39), .val (.int mm), .unset, .unset, .unset, .unset, .unset, .unset, .unset, .unset] []
    refine own_iconst G44 at_69 ?_
    show ownGo _ _ _ _ _ _ _ T44 70 #[.val (.long q1), .second, .val (.long q2), .second, .val (.long q3), .second, .val (.long q4), .second, .val (.int p5), .val (.ref b39), .val (.int mm), .unset, .unset, .unset, .unset, .unset, .unset, .unset, .unset] [(.int (1 : Int32))]
    refine own_goto G44 at_70 (pc' := 74) (by decide) (by decide) ?_
    show ownGo _ _ _ _ _ _ _ T44 74 #[.val (.long q1), .second, .val (.long q2), .second, .val (.long q3), .second, .val (.long q4), .second, .val (.int p5), .val (.ref b39), .val (.int mm), .unset, .unset, .unset, .unset, .unset, .unset, .unset, .unset] [(.int (1 : Int32))]
    refine own_istore G44 at_74 (L' := #[.val (.long q1), .second, .val (.long q2), .second, .val (.long q3), .second, .val (.long q4), .second, .val (.int p5), .val (.ref b39), .val (.int mm), .val (.int (1 : Int32)), .unset, .unset, .unset, .unset, .unset, .unset, .unset]) rfl ?_
    show ownGo _ _ _ _ _ _ _ T44 76 #[.val (.long q1), .second, .val (.long q2), .second, .val (.long q3), .second, .val (.long q4), .second, .val (.int p5), .val (.ref b39), .val (.int mm), .val (.int (1 : Int32)), .unset, .unset, .unset, .unset, .unset, .unset, .unset] []
    refine own_aload G44 at_76 rfl rfl ?_
    show ownGo _ _ _ _ _ _ _ T44 78 #[.val (.long q1), .second, .val (.long q2), .second, .val (.long q3), .second, .val (.long q4), .second, .val (.int p5), .val (.ref b39), .val (.int mm), .val (.int (1 : Int32)), .unset, .unset, .unset, .unset, .unset, .unset, .unset] [(.ref b39)]
    refine own_lload G44 at_78 rfl ?_
    show ownGo _ _ _ _ _ _ _ T44 80 #[.val (.long q1), .second, .val (.long q2), .second, .val (.long q3), .second, .val (.long q4), .second, .val (.int p5), .val (.ref b39), .val (.int mm), .val (.int (1 : Int32)), .unset, .unset, .unset, .unset, .unset, .unset, .unset] [(.long q4), (.ref b39)]
    refine own_virtual G44 at_80 (y := (⟨"com/example/termite/termite/engine/LongIndex", "number", "(J)I"⟩ : MethodName)) (hw _ (List.mem_of_getElem? (i := 30) rfl)) (hw _ (List.mem_of_getElem? (i := 31) rfl)) (hw _ (List.mem_of_getElem? (i := 33) rfl)) (hw _ (List.mem_of_getElem? (i := 32) rfl)) (hw _ (List.mem_of_getElem? (i := 2) rfl)) (hw _ (List.mem_of_getElem? (i := 34) rfl)) (by decide) (a := b39) (argsL := [(.long q4)]) (rest := []) V.exa (rmNum l Z a0 hw b39 q4 ke nu sl [] h43 n0 Y V N (fun _ => by simp)) rfl rfl rfl (lenOf pd_4 rfl) (W := 0) (Nat.le_of_eq rfl) (by decide) (by decide) (by decide) (by decide) ?_
    intro v45 T45 h45 hq45 G45
    obtain ⟨Y', ⟨i, hi, -⟩ | ⟨-, rfl, V'⟩⟩ := hq45
    · simp at hi
    show ownGo _ _ _ _ _ _ _ T45 83 #[.val (.long q1), .second, .val (.long q2), .second, .val (.long q3), .second, .val (.long q4), .second, .val (.int p5), .val (.ref b39), .val (.int mm), .val (.int (1 : Int32)), .unset, .unset, .unset, .unset, .unset, .unset, .unset] [(.int (0 : Int32))]
    replace Y := Y'
    replace V : ownS Z h45 b39 ke nu sl [q4] := V'
    refine own_istore G45 at_83 (L' := #[.val (.long q1), .second, .val (.long q2), .second, .val (.long q3), .second, .val (.long q4), .second, .val (.int p5), .val (.ref b39), .val (.int mm), .val (.int (1 : Int32)), .val (.int (0 : Int32)), .unset, .unset, .unset, .unset, .unset, .unset]) rfl ?_
    show ownGo _ _ _ _ _ _ _ T45 85 #[.val (.long q1), .second, .val (.long q2), .second, .val (.long q3), .second, .val (.long q4), .second, .val (.int p5), .val (.ref b39), .val (.int mm), .val (.int (1 : Int32)), .val (.int (0 : Int32)), .unset, .unset, .unset, .unset, .unset, .unset] []
    refine own_aload G45 at_85 rfl rfl ?_
    show ownGo _ _ _ _ _ _ _ T45 87 #[.val (.long q1), .second, .val (.long q2), .second, .val (.long q3), .second, .val (.long q4), .second, .val (.int p5), .val (.ref b39), .val (.int mm), .val (.int (1 : Int32)), .val (.int (0 : Int32)), .unset, .unset, .unset, .unset, .unset, .unset] [(.ref b39)]
    refine own_lloadN G45 at_87 rfl ?_
    show ownGo _ _ _ _ _ _ _ T45 88 #[.val (.long q1), .second, .val (.long q2), .second, .val (.long q3), .second, .val (.long q4), .second, .val (.int p5), .val (.ref b39), .val (.int mm), .val (.int (1 : Int32)), .val (.int (0 : Int32)), .unset, .unset, .unset, .unset, .unset, .unset] [(.long q1), (.ref b39)]
    refine own_virtual G45 at_88 (y := (⟨"com/example/termite/termite/engine/LongIndex", "number", "(J)I"⟩ : MethodName)) (hw _ (List.mem_of_getElem? (i := 30) rfl)) (hw _ (List.mem_of_getElem? (i := 31) rfl)) (hw _ (List.mem_of_getElem? (i := 33) rfl)) (hw _ (List.mem_of_getElem? (i := 32) rfl)) (hw _ (List.mem_of_getElem? (i := 2) rfl)) (hw _ (List.mem_of_getElem? (i := 34) rfl)) (by decide) (a := b39) (argsL := [(.long q1)]) (rest := []) V.exa (rmNum l Z a0 hw b39 q1 ke nu sl [q4] h45 n0 Y V N (fun _ => by simp)) rfl rfl rfl (lenOf pd_4 rfl) (W := 0) (Nat.le_of_eq rfl) (by decide) (by decide) (by decide) (by decide) ?_
    intro v46 T46 h46 hq46 G46
    obtain ⟨Y', ⟨i, hi, rfl, V'⟩ | ⟨hi, rfl, V'⟩⟩ := hq46
    · obtain ⟨rfl, e1⟩ : i = 0 ∧ q4 = q1 := by
        rcases i with _ | i
        · exact ⟨rfl, by simpa using hi⟩
        · simp at hi
      show ownGo _ _ _ _ _ _ _ T46 91 #[.val (.long q1), .second, .val (.long q2), .second, .val (.long q3), .second, .val (.long q4), .second, .val (.int p5), .val (.ref b39), .val (.int mm), .val (.int (1 : Int32)), .val (.int (0 : Int32)), .unset, .unset, .unset, .unset, .unset, .unset] [(.int (0 : Int32))]
      replace Y := Y'
      replace V := V'
      refine own_istore G46 at_91 (L' := #[.val (.long q1), .second, .val (.long q2), .second, .val (.long q3), .second, .val (.long q4), .second, .val (.int p5), .val (.ref b39), .val (.int mm), .val (.int (1 : Int32)), .val (.int (0 : Int32)), .val (.int (0 : Int32)), .unset, .unset, .unset, .unset, .unset]) rfl ?_
      show ownGo _ _ _ _ _ _ _ T46 93 #[.val (.long q1), .second, .val (.long q2), .second, .val (.long q3), .second, .val (.long q4), .second, .val (.int p5), .val (.ref b39), .val (.int mm), .val (.int (1 : Int32)), .val (.int (0 : Int32)), .val (.int (0 : Int32)), .unset, .unset, .unset, .unset, .unset] []
      refine own_aload G46 at_93 rfl rfl ?_
      show ownGo _ _ _ _ _ _ _ T46 95 #[.val (.long q1), .second, .val (.long q2), .second, .val (.long q3), .second, .val (.long q4), .second, .val (.int p5), .val (.ref b39), .val (.int mm), .val (.int (1 : Int32)), .val (.int (0 : Int32)), .val (.int (0 : Int32)), .unset, .unset, .unset, .unset, .unset] [(.ref b39)]
      refine own_lloadN G46 at_95 rfl ?_
      show ownGo _ _ _ _ _ _ _ T46 96 #[.val (.long q1), .second, .val (.long q2), .second, .val (.long q3), .second, .val (.long q4), .second, .val (.int p5), .val (.ref b39), .val (.int mm), .val (.int (1 : Int32)), .val (.int (0 : Int32)), .val (.int (0 : Int32)), .unset, .unset, .unset, .unset, .unset] [(.long q2), (.ref b39)]
      refine own_virtual G46 at_96 (y := (⟨"com/example/termite/termite/engine/LongIndex", "number", "(J)I"⟩ : MethodName)) (hw _ (List.mem_of_getElem? (i := 30) rfl)) (hw _ (List.mem_of_getElem? (i := 31) rfl)) (hw _ (List.mem_of_getElem? (i := 33) rfl)) (hw _ (List.mem_of_getElem? (i := 32) rfl)) (hw _ (List.mem_of_getElem? (i := 2) rfl)) (hw _ (List.mem_of_getElem? (i := 34) rfl)) (by decide) (a := b39) (argsL := [(.long q2)]) (rest := []) V.exa (rmNum l Z a0 hw b39 q2 ke nu sl [q4] h46 n0 Y V N (fun _ => by simp)) rfl rfl rfl (lenOf pd_4 rfl) (W := 0) (Nat.le_of_eq rfl) (by decide) (by decide) (by decide) (by decide) ?_
      intro v47 T47 h47 hq47 G47
      obtain ⟨Y', ⟨i, hi2, rfl, V'⟩ | ⟨hi2, rfl, V'⟩⟩ := hq47
      · obtain ⟨rfl, e2⟩ : i = 0 ∧ q4 = q2 := by
          rcases i with _ | i
          · exact ⟨rfl, by simpa using hi2⟩
          · simp at hi2
        show ownGo _ _ _ _ _ _ _ T47 99 #[.val (.long q1), .second, .val (.long q2), .second, .val (.long q3), .second, .val (.long q4), .second, .val (.int p5), .val (.ref b39), .val (.int mm), .val (.int (1 : Int32)), .val (.int (0 : Int32)), .val (.int (0 : Int32)), .unset, .unset, .unset, .unset, .unset] [(.int (0 : Int32))]
        replace Y := Y'
        replace V := V'
        refine own_istore G47 at_99 (L' := #[.val (.long q1), .second, .val (.long q2), .second, .val (.long q3), .second, .val (.long q4), .second, .val (.int p5), .val (.ref b39), .val (.int mm), .val (.int (1 : Int32)), .val (.int (0 : Int32)), .val (.int (0 : Int32)), .val (.int (0 : Int32)), .unset, .unset, .unset, .unset]) rfl ?_
        show ownGo _ _ _ _ _ _ _ T47 101 #[.val (.long q1), .second, .val (.long q2), .second, .val (.long q3), .second, .val (.long q4), .second, .val (.int p5), .val (.ref b39), .val (.int mm), .val (.int (1 : Int32)), .val (.int (0 : Int32)), .val (.int (0 : Int32)), .val (.int (0 : Int32)), .unset, .unset, .unset, .unset] []
        refine own_lloadN G47 at_101 rfl ?_
        show ownGo _ _ _ _ _ _ _ T47 102 #[.val (.long q1), .second, .val (.long q2), .second, .val (.long q3), .second, .val (.long q4), .second, .val (.int p5), .val (.ref b39), .val (.int mm), .val (.int (1 : Int32)), .val (.int (0 : Int32)), .val (.int (0 : Int32)), .val (.int (0 : Int32)), .unset, .unset, .unset, .unset] [(.long q1)]
        refine own_lload G47 at_102 rfl ?_
        show ownGo _ _ _ _ _ _ _ T47 104 #[.val (.long q1), .second, .val (.long q2), .second, .val (.long q3), .second, .val (.long q4), .second, .val (.int p5), .val (.ref b39), .val (.int mm), .val (.int (1 : Int32)), .val (.int (0 : Int32)), .val (.int (0 : Int32)), .val (.int (0 : Int32)), .unset, .unset, .unset, .unset] [(.long q4), (.long q1)]
        refine own_lcif_ne G47 at_104 at_105 (pc' := 112) (by decide) (by decide) (fun hc => False.elim (hc e1.symm)) (fun hc => ?_)
        show ownGo _ _ _ _ _ _ _ T47 108 #[.val (.long q1), .second, .val (.long q2), .second, .val (.long q3), .second, .val (.long q4), .second, .val (.int p5), .val (.ref b39), .val (.int mm), .val (.int (1 : Int32)), .val (.int (0 : Int32)), .val (.int (0 : Int32)), .val (.int (0 : Int32)), .unset, .unset, .unset, .unset] []
        refine own_iconst G47 at_108 ?_
        show ownGo _ _ _ _ _ _ _ T47 109 #[.val (.long q1), .second, .val (.long q2), .second, .val (.long q3), .second, .val (.long q4), .second, .val (.int p5), .val (.ref b39), .val (.int mm), .val (.int (1 : Int32)), .val (.int (0 : Int32)), .val (.int (0 : Int32)), .val (.int (0 : Int32)), .unset, .unset, .unset, .unset] [(.int (0 : Int32))]
        refine own_goto G47 at_109 (pc' := 113) (by decide) (by decide) ?_
        show ownGo _ _ _ _ _ _ _ T47 113 #[.val (.long q1), .second, .val (.long q2), .second, .val (.long q3), .second, .val (.long q4), .second, .val (.int p5), .val (.ref b39), .val (.int mm), .val (.int (1 : Int32)), .val (.int (0 : Int32)), .val (.int (0 : Int32)), .val (.int (0 : Int32)), .unset, .unset, .unset, .unset] [(.int (0 : Int32))]
        refine own_istore G47 at_113 (L' := #[.val (.long q1), .second, .val (.long q2), .second, .val (.long q3), .second, .val (.long q4), .second, .val (.int p5), .val (.ref b39), .val (.int mm), .val (.int (1 : Int32)), .val (.int (0 : Int32)), .val (.int (0 : Int32)), .val (.int (0 : Int32)), .val (.int (0 : Int32)), .unset, .unset, .unset]) rfl ?_
        show ownGo _ _ _ _ _ _ _ T47 115 #[.val (.long q1), .second, .val (.long q2), .second, .val (.long q3), .second, .val (.long q4), .second, .val (.int p5), .val (.ref b39), .val (.int mm), .val (.int (1 : Int32)), .val (.int (0 : Int32)), .val (.int (0 : Int32)), .val (.int (0 : Int32)), .val (.int (0 : Int32)), .unset, .unset, .unset] []
        refine own_lloadN G47 at_115 rfl ?_
        show ownGo _ _ _ _ _ _ _ T47 116 #[.val (.long q1), .second, .val (.long q2), .second, .val (.long q3), .second, .val (.long q4), .second, .val (.int p5), .val (.ref b39), .val (.int mm), .val (.int (1 : Int32)), .val (.int (0 : Int32)), .val (.int (0 : Int32)), .val (.int (0 : Int32)), .val (.int (0 : Int32)), .unset, .unset, .unset] [(.long q1)]
        refine own_lload G47 at_116 rfl ?_
        show ownGo _ _ _ _ _ _ _ T47 118 #[.val (.long q1), .second, .val (.long q2), .second, .val (.long q3), .second, .val (.long q4), .second, .val (.int p5), .val (.ref b39), .val (.int mm), .val (.int (1 : Int32)), .val (.int (0 : Int32)), .val (.int (0 : Int32)), .val (.int (0 : Int32)), .val (.int (0 : Int32)), .unset, .unset, .unset] [(.long q4), (.long q1)]
        refine own_lcif_ne G47 at_118 at_119 (pc' := 126) (by decide) (by decide) (fun hc => False.elim (hc e1.symm)) (fun hc => ?_)
        show ownGo _ _ _ _ _ _ _ T47 122 #[.val (.long q1), .second, .val (.long q2), .second, .val (.long q3), .second, .val (.long q4), .second, .val (.int p5), .val (.ref b39), .val (.int mm), .val (.int (1 : Int32)), .val (.int (0 : Int32)), .val (.int (0 : Int32)), .val (.int (0 : Int32)), .val (.int (0 : Int32)), .unset, .unset, .unset] []
        refine own_iconst G47 at_122 ?_
        show ownGo _ _ _ _ _ _ _ T47 123 #[.val (.long q1), .second, .val (.long q2), .second, .val (.long q3), .second, .val (.long q4), .second, .val (.int p5), .val (.ref b39), .val (.int mm), .val (.int (1 : Int32)), .val (.int (0 : Int32)), .val (.int (0 : Int32)), .val (.int (0 : Int32)), .val (.int (0 : Int32)), .unset, .unset, .unset] [(.int (1 : Int32))]
        refine own_goto G47 at_123 (pc' := 127) (by decide) (by decide) ?_
        show ownGo _ _ _ _ _ _ _ T47 127 #[.val (.long q1), .second, .val (.long q2), .second, .val (.long q3), .second, .val (.long q4), .second, .val (.int p5), .val (.ref b39), .val (.int mm), .val (.int (1 : Int32)), .val (.int (0 : Int32)), .val (.int (0 : Int32)), .val (.int (0 : Int32)), .val (.int (0 : Int32)), .unset, .unset, .unset] [(.int (1 : Int32))]
        refine own_istore G47 at_127 (L' := #[.val (.long q1), .second, .val (.long q2), .second, .val (.long q3), .second, .val (.long q4), .second, .val (.int p5), .val (.ref b39), .val (.int mm), .val (.int (1 : Int32)), .val (.int (0 : Int32)), .val (.int (0 : Int32)), .val (.int (0 : Int32)), .val (.int (0 : Int32)), .val (.int (1 : Int32)), .unset, .unset]) rfl ?_
        show ownGo _ _ _ _ _ _ _ T47 129 #[.val (.long q1), .second, .val (.long q2), .second, .val (.long q3), .second, .val (.long q4), .second, .val (.int p5), .val (.ref b39), .val (.int mm), .val (.int (1 : Int32)), .val (.int (0 : Int32)), .val (.int (0 : Int32)), .val (.int (0 : Int32)), .val (.int (0 : Int32)), .val (.int (1 : Int32)), .unset, .unset] []
        refine own_lloadN G47 at_129 rfl ?_
        show ownGo _ _ _ _ _ _ _ T47 130 #[.val (.long q1), .second, .val (.long q2), .second, .val (.long q3), .second, .val (.long q4), .second, .val (.int p5), .val (.ref b39), .val (.int mm), .val (.int (1 : Int32)), .val (.int (0 : Int32)), .val (.int (0 : Int32)), .val (.int (0 : Int32)), .val (.int (0 : Int32)), .val (.int (1 : Int32)), .unset, .unset] [(.long q2)]
        refine own_lload G47 at_130 rfl ?_
        show ownGo _ _ _ _ _ _ _ T47 132 #[.val (.long q1), .second, .val (.long q2), .second, .val (.long q3), .second, .val (.long q4), .second, .val (.int p5), .val (.ref b39), .val (.int mm), .val (.int (1 : Int32)), .val (.int (0 : Int32)), .val (.int (0 : Int32)), .val (.int (0 : Int32)), .val (.int (0 : Int32)), .val (.int (1 : Int32)), .unset, .unset] [(.long q4), (.long q2)]
        refine own_lcif_ne G47 at_132 at_133 (pc' := 142) (by decide) (by decide) (fun hc => False.elim (hc e2.symm)) (fun hc => ?_)
        show ownGo _ _ _ _ _ _ _ T47 136 #[.val (.long q1), .second, .val (.long q2), .second, .val (.long q3), .second, .val (.long q4), .second, .val (.int p5), .val (.ref b39), .val (.int mm), .val (.int (1 : Int32)), .val (.int (0 : Int32)), .val (.int (0 : Int32)), .val (.int (0 : Int32)), .val (.int (0 : Int32)), .val (.int (1 : Int32)), .unset, .unset] []
        refine own_iconst G47 at_136 ?_
        show ownGo _ _ _ _ _ _ _ T47 137 #[.val (.long q1), .second, .val (.long q2), .second, .val (.long q3), .second, .val (.long q4), .second, .val (.int p5), .val (.ref b39), .val (.int mm), .val (.int (1 : Int32)), .val (.int (0 : Int32)), .val (.int (0 : Int32)), .val (.int (0 : Int32)), .val (.int (0 : Int32)), .val (.int (1 : Int32)), .unset, .unset] [(.int (0 : Int32))]
        refine own_istore G47 at_137 (L' := #[.val (.long q1), .second, .val (.long q2), .second, .val (.long q3), .second, .val (.long q4), .second, .val (.int p5), .val (.ref b39), .val (.int mm), .val (.int (1 : Int32)), .val (.int (0 : Int32)), .val (.int (0 : Int32)), .val (.int (0 : Int32)), .val (.int (0 : Int32)), .val (.int (1 : Int32)), .val (.int (0 : Int32)), .unset]) rfl ?_
        show ownGo _ _ _ _ _ _ _ T47 139 #[.val (.long q1), .second, .val (.long q2), .second, .val (.long q3), .second, .val (.long q4), .second, .val (.int p5), .val (.ref b39), .val (.int mm), .val (.int (1 : Int32)), .val (.int (0 : Int32)), .val (.int (0 : Int32)), .val (.int (0 : Int32)), .val (.int (0 : Int32)), .val (.int (1 : Int32)), .val (.int (0 : Int32)), .unset] []
        refine own_goto G47 at_139 (pc' := 159) (by decide) (by decide) ?_
        show ownGo _ _ _ _ _ _ _ T47 159 #[.val (.long q1), .second, .val (.long q2), .second, .val (.long q3), .second, .val (.long q4), .second, .val (.int p5), .val (.ref b39), .val (.int mm), .val (.int (1 : Int32)), .val (.int (0 : Int32)), .val (.int (0 : Int32)), .val (.int (0 : Int32)), .val (.int (0 : Int32)), .val (.int (1 : Int32)), .val (.int (0 : Int32)), .unset] []
        refine own_iload G47 at_159 rfl ?_
        show ownGo _ _ _ _ _ _ _ T47 161 #[.val (.long q1), .second, .val (.long q2), .second, .val (.long q3), .second, .val (.long q4), .second, .val (.int p5), .val (.ref b39), .val (.int mm), .val (.int (1 : Int32)), .val (.int (0 : Int32)), .val (.int (0 : Int32)), .val (.int (0 : Int32)), .val (.int (0 : Int32)), .val (.int (1 : Int32)), .val (.int (0 : Int32)), .unset] [(.int (1 : Int32))]
        refine own_if_eq G47 at_161 (pc' := 187) (by decide) (by decide) (fun hc => False.elim (absurd hc (by decide))) (fun hc => ?_)
        show ownGo _ _ _ _ _ _ _ T47 164 #[.val (.long q1), .second, .val (.long q2), .second, .val (.long q3), .second, .val (.long q4), .second, .val (.int p5), .val (.ref b39), .val (.int mm), .val (.int (1 : Int32)), .val (.int (0 : Int32)), .val (.int (0 : Int32)), .val (.int (0 : Int32)), .val (.int (0 : Int32)), .val (.int (1 : Int32)), .val (.int (0 : Int32)), .unset] []
        refine own_iload G47 at_164 rfl ?_
        show ownGo _ _ _ _ _ _ _ T47 166 #[.val (.long q1), .second, .val (.long q2), .second, .val (.long q3), .second, .val (.long q4), .second, .val (.int p5), .val (.ref b39), .val (.int mm), .val (.int (1 : Int32)), .val (.int (0 : Int32)), .val (.int (0 : Int32)), .val (.int (0 : Int32)), .val (.int (0 : Int32)), .val (.int (1 : Int32)), .val (.int (0 : Int32)), .unset] [(.int (0 : Int32))]
        refine own_if_ne G47 at_166 (pc' := 187) (by decide) (by decide) (fun hc => False.elim (absurd hc (by decide))) (fun hc => ?_)
        show ownGo _ _ _ _ _ _ _ T47 169 #[.val (.long q1), .second, .val (.long q2), .second, .val (.long q3), .second, .val (.long q4), .second, .val (.int p5), .val (.ref b39), .val (.int mm), .val (.int (1 : Int32)), .val (.int (0 : Int32)), .val (.int (0 : Int32)), .val (.int (0 : Int32)), .val (.int (0 : Int32)), .val (.int (1 : Int32)), .val (.int (0 : Int32)), .unset] []
        refine own_iload G47 at_169 rfl ?_
        show ownGo _ _ _ _ _ _ _ T47 171 #[.val (.long q1), .second, .val (.long q2), .second, .val (.long q3), .second, .val (.long q4), .second, .val (.int p5), .val (.ref b39), .val (.int mm), .val (.int (1 : Int32)), .val (.int (0 : Int32)), .val (.int (0 : Int32)), .val (.int (0 : Int32)), .val (.int (0 : Int32)), .val (.int (1 : Int32)), .val (.int (0 : Int32)), .unset] [(.int (0 : Int32))]
        refine own_iload G47 at_171 rfl ?_
        show ownGo _ _ _ _ _ _ _ T47 173 #[.val (.long q1), .second, .val (.long q2), .second, .val (.long q3), .second, .val (.long q4), .second, .val (.int p5), .val (.ref b39), .val (.int mm), .val (.int (1 : Int32)), .val (.int (0 : Int32)), .val (.int (0 : Int32)), .val (.int (0 : Int32)), .val (.int (0 : Int32)), .val (.int (1 : Int32)), .val (.int (0 : Int32)), .unset] [(.int (0 : Int32)), (.int (0 : Int32))]
        refine own_icmp_ne G47 at_173 (pc' := 187) (by decide) (by decide) (fun hc => False.elim (hc rfl)) (fun hc => ?_)
        show ownGo _ _ _ _ _ _ _ T47 176 #[.val (.long q1), .second, .val (.long q2), .second, .val (.long q3), .second, .val (.long q4), .second, .val (.int p5), .val (.ref b39), .val (.int mm), .val (.int (1 : Int32)), .val (.int (0 : Int32)), .val (.int (0 : Int32)), .val (.int (0 : Int32)), .val (.int (0 : Int32)), .val (.int (1 : Int32)), .val (.int (0 : Int32)), .unset] []
        refine own_iload G47 at_176 rfl ?_
        show ownGo _ _ _ _ _ _ _ T47 178 #[.val (.long q1), .second, .val (.long q2), .second, .val (.long q3), .second, .val (.long q4), .second, .val (.int p5), .val (.ref b39), .val (.int mm), .val (.int (1 : Int32)), .val (.int (0 : Int32)), .val (.int (0 : Int32)), .val (.int (0 : Int32)), .val (.int (0 : Int32)), .val (.int (1 : Int32)), .val (.int (0 : Int32)), .unset] [(.int (0 : Int32))]
        refine own_iload G47 at_178 rfl ?_
        show ownGo _ _ _ _ _ _ _ T47 180 #[.val (.long q1), .second, .val (.long q2), .second, .val (.long q3), .second, .val (.long q4), .second, .val (.int p5), .val (.ref b39), .val (.int mm), .val (.int (1 : Int32)), .val (.int (0 : Int32)), .val (.int (0 : Int32)), .val (.int (0 : Int32)), .val (.int (0 : Int32)), .val (.int (1 : Int32)), .val (.int (0 : Int32)), .unset] [(.int (0 : Int32)), (.int (0 : Int32))]
        refine own_icmp_ne G47 at_180 (pc' := 187) (by decide) (by decide) (fun hc => False.elim (hc rfl)) (fun hc => ?_)
        show ownGo _ _ _ _ _ _ _ T47 183 #[.val (.long q1), .second, .val (.long q2), .second, .val (.long q3), .second, .val (.long q4), .second, .val (.int p5), .val (.ref b39), .val (.int mm), .val (.int (1 : Int32)), .val (.int (0 : Int32)), .val (.int (0 : Int32)), .val (.int (0 : Int32)), .val (.int (0 : Int32)), .val (.int (1 : Int32)), .val (.int (0 : Int32)), .unset] []
        refine own_iconst G47 at_183 ?_
        show ownGo _ _ _ _ _ _ _ T47 184 #[.val (.long q1), .second, .val (.long q2), .second, .val (.long q3), .second, .val (.long q4), .second, .val (.int p5), .val (.ref b39), .val (.int mm), .val (.int (1 : Int32)), .val (.int (0 : Int32)), .val (.int (0 : Int32)), .val (.int (0 : Int32)), .val (.int (0 : Int32)), .val (.int (1 : Int32)), .val (.int (0 : Int32)), .unset] [(.int (1 : Int32))]
        refine own_goto G47 at_184 (pc' := 188) (by decide) (by decide) ?_
        show ownGo _ _ _ _ _ _ _ T47 188 #[.val (.long q1), .second, .val (.long q2), .second, .val (.long q3), .second, .val (.long q4), .second, .val (.int p5), .val (.ref b39), .val (.int mm), .val (.int (1 : Int32)), .val (.int (0 : Int32)), .val (.int (0 : Int32)), .val (.int (0 : Int32)), .val (.int (0 : Int32)), .val (.int (1 : Int32)), .val (.int (0 : Int32)), .unset] [(.int (1 : Int32))]
        refine own_istore G47 at_188 (L' := #[.val (.long q1), .second, .val (.long q2), .second, .val (.long q3), .second, .val (.long q4), .second, .val (.int p5), .val (.ref b39), .val (.int mm), .val (.int (1 : Int32)), .val (.int (0 : Int32)), .val (.int (0 : Int32)), .val (.int (0 : Int32)), .val (.int (0 : Int32)), .val (.int (1 : Int32)), .val (.int (0 : Int32)), .unset]) rfl ?_
        show ownGo _ _ _ _ _ _ _ T47 190 #[.val (.long q1), .second, .val (.long q2), .second, .val (.long q3), .second, .val (.long q4), .second, .val (.int p5), .val (.ref b39), .val (.int mm), .val (.int (1 : Int32)), .val (.int (0 : Int32)), .val (.int (0 : Int32)), .val (.int (0 : Int32)), .val (.int (0 : Int32)), .val (.int (1 : Int32)), .val (.int (0 : Int32)), .unset] []
        exact j190 _ _ _ _ _ _ _ _ [q4] (own_more G47 (by decide) (by decide)) Y V
      · have e2 : ¬ q2 = q4 := fun r => hi2 (by simp [r])
        show ownGo _ _ _ _ _ _ _ T47 99 #[.val (.long q1), .second, .val (.long q2), .second, .val (.long q3), .second, .val (.long q4), .second, .val (.int p5), .val (.ref b39), .val (.int mm), .val (.int (1 : Int32)), .val (.int (0 : Int32)), .val (.int (0 : Int32)), .unset, .unset, .unset, .unset, .unset] [(.int (1 : Int32))]
        replace Y := Y'
        replace V := V'
        refine own_istore G47 at_99 (L' := #[.val (.long q1), .second, .val (.long q2), .second, .val (.long q3), .second, .val (.long q4), .second, .val (.int p5), .val (.ref b39), .val (.int mm), .val (.int (1 : Int32)), .val (.int (0 : Int32)), .val (.int (0 : Int32)), .val (.int (1 : Int32)), .unset, .unset, .unset, .unset]) rfl ?_
        show ownGo _ _ _ _ _ _ _ T47 101 #[.val (.long q1), .second, .val (.long q2), .second, .val (.long q3), .second, .val (.long q4), .second, .val (.int p5), .val (.ref b39), .val (.int mm), .val (.int (1 : Int32)), .val (.int (0 : Int32)), .val (.int (0 : Int32)), .val (.int (1 : Int32)), .unset, .unset, .unset, .unset] []
        refine own_lloadN G47 at_101 rfl ?_
        show ownGo _ _ _ _ _ _ _ T47 102 #[.val (.long q1), .second, .val (.long q2), .second, .val (.long q3), .second, .val (.long q4), .second, .val (.int p5), .val (.ref b39), .val (.int mm), .val (.int (1 : Int32)), .val (.int (0 : Int32)), .val (.int (0 : Int32)), .val (.int (1 : Int32)), .unset, .unset, .unset, .unset] [(.long q1)]
        refine own_lload G47 at_102 rfl ?_
        show ownGo _ _ _ _ _ _ _ T47 104 #[.val (.long q1), .second, .val (.long q2), .second, .val (.long q3), .second, .val (.long q4), .second, .val (.int p5), .val (.ref b39), .val (.int mm), .val (.int (1 : Int32)), .val (.int (0 : Int32)), .val (.int (0 : Int32)), .val (.int (1 : Int32)), .unset, .unset, .unset, .unset] [(.long q4), (.long q1)]
        refine own_lcif_ne G47 at_104 at_105 (pc' := 112) (by decide) (by decide) (fun hc => False.elim (hc e1.symm)) (fun hc => ?_)
        show ownGo _ _ _ _ _ _ _ T47 108 #[.val (.long q1), .second, .val (.long q2), .second, .val (.long q3), .second, .val (.long q4), .second, .val (.int p5), .val (.ref b39), .val (.int mm), .val (.int (1 : Int32)), .val (.int (0 : Int32)), .val (.int (0 : Int32)), .val (.int (1 : Int32)), .unset, .unset, .unset, .unset] []
        refine own_iconst G47 at_108 ?_
        show ownGo _ _ _ _ _ _ _ T47 109 #[.val (.long q1), .second, .val (.long q2), .second, .val (.long q3), .second, .val (.long q4), .second, .val (.int p5), .val (.ref b39), .val (.int mm), .val (.int (1 : Int32)), .val (.int (0 : Int32)), .val (.int (0 : Int32)), .val (.int (1 : Int32)), .unset, .unset, .unset, .unset] [(.int (0 : Int32))]
        refine own_goto G47 at_109 (pc' := 113) (by decide) (by decide) ?_
        show ownGo _ _ _ _ _ _ _ T47 113 #[.val (.long q1), .second, .val (.long q2), .second, .val (.long q3), .second, .val (.long q4), .second, .val (.int p5), .val (.ref b39), .val (.int mm), .val (.int (1 : Int32)), .val (.int (0 : Int32)), .val (.int (0 : Int32)), .val (.int (1 : Int32)), .unset, .unset, .unset, .unset] [(.int (0 : Int32))]
        refine own_istore G47 at_113 (L' := #[.val (.long q1), .second, .val (.long q2), .second, .val (.long q3), .second, .val (.long q4), .second, .val (.int p5), .val (.ref b39), .val (.int mm), .val (.int (1 : Int32)), .val (.int (0 : Int32)), .val (.int (0 : Int32)), .val (.int (1 : Int32)), .val (.int (0 : Int32)), .unset, .unset, .unset]) rfl ?_
        show ownGo _ _ _ _ _ _ _ T47 115 #[.val (.long q1), .second, .val (.long q2), .second, .val (.long q3), .second, .val (.long q4), .second, .val (.int p5), .val (.ref b39), .val (.int mm), .val (.int (1 : Int32)), .val (.int (0 : Int32)), .val (.int (0 : Int32)), .val (.int (1 : Int32)), .val (.int (0 : Int32)), .unset, .unset, .unset] []
        refine own_lloadN G47 at_115 rfl ?_
        show ownGo _ _ _ _ _ _ _ T47 116 #[.val (.long q1), .second, .val (.long q2), .second, .val (.long q3), .second, .val (.long q4), .second, .val (.int p5), .val (.ref b39), .val (.int mm), .val (.int (1 : Int32)), .val (.int (0 : Int32)), .val (.int (0 : Int32)), .val (.int (1 : Int32)), .val (.int (0 : Int32)), .unset, .unset, .unset] [(.long q1)]
        refine own_lload G47 at_116 rfl ?_
        show ownGo _ _ _ _ _ _ _ T47 118 #[.val (.long q1), .second, .val (.long q2), .second, .val (.long q3), .second, .val (.long q4), .second, .val (.int p5), .val (.ref b39), .val (.int mm), .val (.int (1 : Int32)), .val (.int (0 : Int32)), .val (.int (0 : Int32)), .val (.int (1 : Int32)), .val (.int (0 : Int32)), .unset, .unset, .unset] [(.long q4), (.long q1)]
        refine own_lcif_ne G47 at_118 at_119 (pc' := 126) (by decide) (by decide) (fun hc => False.elim (hc e1.symm)) (fun hc => ?_)
        show ownGo _ _ _ _ _ _ _ T47 122 #[.val (.long q1), .second, .val (.long q2), .second, .val (.long q3), .second, .val (.long q4), .second, .val (.int p5), .val (.ref b39), .val (.int mm), .val (.int (1 : Int32)), .val (.int (0 : Int32)), .val (.int (0 : Int32)), .val (.int (1 : Int32)), .val (.int (0 : Int32)), .unset, .unset, .unset] []
        refine own_iconst G47 at_122 ?_
        show ownGo _ _ _ _ _ _ _ T47 123 #[.val (.long q1), .second, .val (.long q2), .second, .val (.long q3), .second, .val (.long q4), .second, .val (.int p5), .val (.ref b39), .val (.int mm), .val (.int (1 : Int32)), .val (.int (0 : Int32)), .val (.int (0 : Int32)), .val (.int (1 : Int32)), .val (.int (0 : Int32)), .unset, .unset, .unset] [(.int (1 : Int32))]
        refine own_goto G47 at_123 (pc' := 127) (by decide) (by decide) ?_
        show ownGo _ _ _ _ _ _ _ T47 127 #[.val (.long q1), .second, .val (.long q2), .second, .val (.long q3), .second, .val (.long q4), .second, .val (.int p5), .val (.ref b39), .val (.int mm), .val (.int (1 : Int32)), .val (.int (0 : Int32)), .val (.int (0 : Int32)), .val (.int (1 : Int32)), .val (.int (0 : Int32)), .unset, .unset, .unset] [(.int (1 : Int32))]
        refine own_istore G47 at_127 (L' := #[.val (.long q1), .second, .val (.long q2), .second, .val (.long q3), .second, .val (.long q4), .second, .val (.int p5), .val (.ref b39), .val (.int mm), .val (.int (1 : Int32)), .val (.int (0 : Int32)), .val (.int (0 : Int32)), .val (.int (1 : Int32)), .val (.int (0 : Int32)), .val (.int (1 : Int32)), .unset, .unset]) rfl ?_
        show ownGo _ _ _ _ _ _ _ T47 129 #[.val (.long q1), .second, .val (.long q2), .second, .val (.long q3), .second, .val (.long q4), .second, .val (.int p5), .val (.ref b39), .val (.int mm), .val (.int (1 : Int32)), .val (.int (0 : Int32)), .val (.int (0 : Int32)), .val (.int (1 : Int32)), .val (.int (0 : Int32)), .val (.int (1 : Int32)), .unset, .unset] []
        refine own_lloadN G47 at_129 rfl ?_
        show ownGo _ _ _ _ _ _ _ T47 130 #[.val (.long q1), .second, .val (.long q2), .second, .val (.long q3), .second, .val (.long q4), .second, .val (.int p5), .val (.ref b39), .val (.int mm), .val (.int (1 : Int32)), .val (.int (0 : Int32)), .val (.int (0 : Int32)), .val (.int (1 : Int32)), .val (.int (0 : Int32)), .val (.int (1 : Int32)), .unset, .unset] [(.long q2)]
        refine own_lload G47 at_130 rfl ?_
        show ownGo _ _ _ _ _ _ _ T47 132 #[.val (.long q1), .second, .val (.long q2), .second, .val (.long q3), .second, .val (.long q4), .second, .val (.int p5), .val (.ref b39), .val (.int mm), .val (.int (1 : Int32)), .val (.int (0 : Int32)), .val (.int (0 : Int32)), .val (.int (1 : Int32)), .val (.int (0 : Int32)), .val (.int (1 : Int32)), .unset, .unset] [(.long q4), (.long q2)]
        refine own_lcif_ne G47 at_132 at_133 (pc' := 142) (by decide) (by decide) (fun hc => ?_) (fun hc => False.elim (e2 hc))
        show ownGo _ _ _ _ _ _ _ T47 142 #[.val (.long q1), .second, .val (.long q2), .second, .val (.long q3), .second, .val (.long q4), .second, .val (.int p5), .val (.ref b39), .val (.int mm), .val (.int (1 : Int32)), .val (.int (0 : Int32)), .val (.int (0 : Int32)), .val (.int (1 : Int32)), .val (.int (0 : Int32)), .val (.int (1 : Int32)), .unset, .unset] []
        refine own_lloadN G47 at_142 rfl ?_
        show ownGo _ _ _ _ _ _ _ T47 143 #[.val (.long q1), .second, .val (.long q2), .second, .val (.long q3), .second, .val (.long q4), .second, .val (.int p5), .val (.ref b39), .val (.int mm), .val (.int (1 : Int32)), .val (.int (0 : Int32)), .val (.int (0 : Int32)), .val (.int (1 : Int32)), .val (.int (0 : Int32)), .val (.int (1 : Int32)), .unset, .unset] [(.long q2)]
        refine own_lloadN G47 at_143 rfl ?_
        show ownGo _ _ _ _ _ _ _ T47 144 #[.val (.long q1), .second, .val (.long q2), .second, .val (.long q3), .second, .val (.long q4), .second, .val (.int p5), .val (.ref b39), .val (.int mm), .val (.int (1 : Int32)), .val (.int (0 : Int32)), .val (.int (0 : Int32)), .val (.int (1 : Int32)), .val (.int (0 : Int32)), .val (.int (1 : Int32)), .unset, .unset] [(.long q1), (.long q2)]
        refine own_lcif_ne G47 at_144 at_145 (pc' := 155) (by decide) (by decide) (fun hc => ?_) (fun hc => False.elim ((fun r => e2 (r.trans e1.symm)) hc))
        show ownGo _ _ _ _ _ _ _ T47 155 #[.val (.long q1), .second, .val (.long q2), .second, .val (.long q3), .second, .val (.long q4), .second, .val (.int p5), .val (.ref b39), .val (.int mm), .val (.int (1 : Int32)), .val (.int (0 : Int32)), .val (.int (0 : Int32)), .val (.int (1 : Int32)), .val (.int (0 : Int32)), .val (.int (1 : Int32)), .unset, .unset] []
        refine own_iload G47 at_155 rfl ?_
        show ownGo _ _ _ _ _ _ _ T47 157 #[.val (.long q1), .second, .val (.long q2), .second, .val (.long q3), .second, .val (.long q4), .second, .val (.int p5), .val (.ref b39), .val (.int mm), .val (.int (1 : Int32)), .val (.int (0 : Int32)), .val (.int (0 : Int32)), .val (.int (1 : Int32)), .val (.int (0 : Int32)), .val (.int (1 : Int32)), .unset, .unset] [(.int (1 : Int32))]
        refine own_istore G47 at_157 (L' := #[.val (.long q1), .second, .val (.long q2), .second, .val (.long q3), .second, .val (.long q4), .second, .val (.int p5), .val (.ref b39), .val (.int mm), .val (.int (1 : Int32)), .val (.int (0 : Int32)), .val (.int (0 : Int32)), .val (.int (1 : Int32)), .val (.int (0 : Int32)), .val (.int (1 : Int32)), .val (.int (1 : Int32)), .unset]) rfl ?_
        show ownGo _ _ _ _ _ _ _ T47 159 #[.val (.long q1), .second, .val (.long q2), .second, .val (.long q3), .second, .val (.long q4), .second, .val (.int p5), .val (.ref b39), .val (.int mm), .val (.int (1 : Int32)), .val (.int (0 : Int32)), .val (.int (0 : Int32)), .val (.int (1 : Int32)), .val (.int (0 : Int32)), .val (.int (1 : Int32)), .val (.int (1 : Int32)), .unset] []
        refine own_iload G47 at_159 rfl ?_
        show ownGo _ _ _ _ _ _ _ T47 161 #[.val (.long q1), .second, .val (.long q2), .second, .val (.long q3), .second, .val (.long q4), .second, .val (.int p5), .val (.ref b39), .val (.int mm), .val (.int (1 : Int32)), .val (.int (0 : Int32)), .val (.int (0 : Int32)), .val (.int (1 : Int32)), .val (.int (0 : Int32)), .val (.int (1 : Int32)), .val (.int (1 : Int32)), .unset] [(.int (1 : Int32))]
        refine own_if_eq G47 at_161 (pc' := 187) (by decide) (by decide) (fun hc => False.elim (absurd hc (by decide))) (fun hc => ?_)
        show ownGo _ _ _ _ _ _ _ T47 164 #[.val (.long q1), .second, .val (.long q2), .second, .val (.long q3), .second, .val (.long q4), .second, .val (.int p5), .val (.ref b39), .val (.int mm), .val (.int (1 : Int32)), .val (.int (0 : Int32)), .val (.int (0 : Int32)), .val (.int (1 : Int32)), .val (.int (0 : Int32)), .val (.int (1 : Int32)), .val (.int (1 : Int32)), .unset] []
        refine own_iload G47 at_164 rfl ?_
        show ownGo _ _ _ _ _ _ _ T47 166 #[.val (.long q1), .second, .val (.long q2), .second, .val (.long q3), .second, .val (.long q4), .second, .val (.int p5), .val (.ref b39), .val (.int mm), .val (.int (1 : Int32)), .val (.int (0 : Int32)), .val (.int (0 : Int32)), .val (.int (1 : Int32)), .val (.int (0 : Int32)), .val (.int (1 : Int32)), .val (.int (1 : Int32)), .unset] [(.int (0 : Int32))]
        refine own_if_ne G47 at_166 (pc' := 187) (by decide) (by decide) (fun hc => False.elim (absurd hc (by decide))) (fun hc => ?_)
        show ownGo _ _ _ _ _ _ _ T47 169 #[.val (.long q1), .second, .val (.long q2), .second, .val (.long q3), .second, .val (.long q4), .second, .val (.int p5), .val (.ref b39), .val (.int mm), .val (.int (1 : Int32)), .val (.int (0 : Int32)), .val (.int (0 : Int32)), .val (.int (1 : Int32)), .val (.int (0 : Int32)), .val (.int (1 : Int32)), .val (.int (1 : Int32)), .unset] []
        refine own_iload G47 at_169 rfl ?_
        show ownGo _ _ _ _ _ _ _ T47 171 #[.val (.long q1), .second, .val (.long q2), .second, .val (.long q3), .second, .val (.long q4), .second, .val (.int p5), .val (.ref b39), .val (.int mm), .val (.int (1 : Int32)), .val (.int (0 : Int32)), .val (.int (0 : Int32)), .val (.int (1 : Int32)), .val (.int (0 : Int32)), .val (.int (1 : Int32)), .val (.int (1 : Int32)), .unset] [(.int (0 : Int32))]
        refine own_iload G47 at_171 rfl ?_
        show ownGo _ _ _ _ _ _ _ T47 173 #[.val (.long q1), .second, .val (.long q2), .second, .val (.long q3), .second, .val (.long q4), .second, .val (.int p5), .val (.ref b39), .val (.int mm), .val (.int (1 : Int32)), .val (.int (0 : Int32)), .val (.int (0 : Int32)), .val (.int (1 : Int32)), .val (.int (0 : Int32)), .val (.int (1 : Int32)), .val (.int (1 : Int32)), .unset] [(.int (0 : Int32)), (.int (0 : Int32))]
        refine own_icmp_ne G47 at_173 (pc' := 187) (by decide) (by decide) (fun hc => False.elim (hc rfl)) (fun hc => ?_)
        show ownGo _ _ _ _ _ _ _ T47 176 #[.val (.long q1), .second, .val (.long q2), .second, .val (.long q3), .second, .val (.long q4), .second, .val (.int p5), .val (.ref b39), .val (.int mm), .val (.int (1 : Int32)), .val (.int (0 : Int32)), .val (.int (0 : Int32)), .val (.int (1 : Int32)), .val (.int (0 : Int32)), .val (.int (1 : Int32)), .val (.int (1 : Int32)), .unset] []
        refine own_iload G47 at_176 rfl ?_
        show ownGo _ _ _ _ _ _ _ T47 178 #[.val (.long q1), .second, .val (.long q2), .second, .val (.long q3), .second, .val (.long q4), .second, .val (.int p5), .val (.ref b39), .val (.int mm), .val (.int (1 : Int32)), .val (.int (0 : Int32)), .val (.int (0 : Int32)), .val (.int (1 : Int32)), .val (.int (0 : Int32)), .val (.int (1 : Int32)), .val (.int (1 : Int32)), .unset] [(.int (1 : Int32))]
        refine own_iload G47 at_178 rfl ?_
        show ownGo _ _ _ _ _ _ _ T47 180 #[.val (.long q1), .second, .val (.long q2), .second, .val (.long q3), .second, .val (.long q4), .second, .val (.int p5), .val (.ref b39), .val (.int mm), .val (.int (1 : Int32)), .val (.int (0 : Int32)), .val (.int (0 : Int32)), .val (.int (1 : Int32)), .val (.int (0 : Int32)), .val (.int (1 : Int32)), .val (.int (1 : Int32)), .unset] [(.int (1 : Int32)), (.int (1 : Int32))]
        refine own_icmp_ne G47 at_180 (pc' := 187) (by decide) (by decide) (fun hc => False.elim (hc rfl)) (fun hc => ?_)
        show ownGo _ _ _ _ _ _ _ T47 183 #[.val (.long q1), .second, .val (.long q2), .second, .val (.long q3), .second, .val (.long q4), .second, .val (.int p5), .val (.ref b39), .val (.int mm), .val (.int (1 : Int32)), .val (.int (0 : Int32)), .val (.int (0 : Int32)), .val (.int (1 : Int32)), .val (.int (0 : Int32)), .val (.int (1 : Int32)), .val (.int (1 : Int32)), .unset] []
        refine own_iconst G47 at_183 ?_
        show ownGo _ _ _ _ _ _ _ T47 184 #[.val (.long q1), .second, .val (.long q2), .second, .val (.long q3), .second, .val (.long q4), .second, .val (.int p5), .val (.ref b39), .val (.int mm), .val (.int (1 : Int32)), .val (.int (0 : Int32)), .val (.int (0 : Int32)), .val (.int (1 : Int32)), .val (.int (0 : Int32)), .val (.int (1 : Int32)), .val (.int (1 : Int32)), .unset] [(.int (1 : Int32))]
        refine own_goto G47 at_184 (pc' := 188) (by decide) (by decide) ?_
        show ownGo _ _ _ _ _ _ _ T47 188 #[.val (.long q1), .second, .val (.long q2), .second, .val (.long q3), .second, .val (.long q4), .second, .val (.int p5), .val (.ref b39), .val (.int mm), .val (.int (1 : Int32)), .val (.int (0 : Int32)), .val (.int (0 : Int32)), .val (.int (1 : Int32)), .val (.int (0 : Int32)), .val (.int (1 : Int32)), .val (.int (1 : Int32)), .unset] [(.int (1 : Int32))]
        refine own_istore G47 at_188 (L' := #[.val (.long q1), .second, .val (.long q2), .second, .val (.long q3), .second, .val (.long q4), .second, .val (.int p5), .val (.ref b39), .val (.int mm), .val (.int (1 : Int32)), .val (.int (0 : Int32)), .val (.int (0 : Int32)), .val (.int (1 : Int32)), .val (.int (0 : Int32)), .val (.int (1 : Int32)), .val (.int (1 : Int32)), .unset]) rfl ?_
        show ownGo _ _ _ _ _ _ _ T47 190 #[.val (.long q1), .second, .val (.long q2), .second, .val (.long q3), .second, .val (.long q4), .second, .val (.int p5), .val (.ref b39), .val (.int mm), .val (.int (1 : Int32)), .val (.int (0 : Int32)), .val (.int (0 : Int32)), .val (.int (1 : Int32)), .val (.int (0 : Int32)), .val (.int (1 : Int32)), .val (.int (1 : Int32)), .unset] []
        exact j190 _ _ _ _ _ _ _ _ ([q4] ++ [q2]) (own_more G47 (by decide) (by decide)) Y V
    · have e1 : ¬ q1 = q4 := fun r => hi (by simp [r])
      show ownGo _ _ _ _ _ _ _ T46 91 #[.val (.long q1), .second, .val (.long q2), .second, .val (.long q3), .second, .val (.long q4), .second, .val (.int p5), .val (.ref b39), .val (.int mm), .val (.int (1 : Int32)), .val (.int (0 : Int32)), .unset, .unset, .unset, .unset, .unset, .unset] [(.int (1 : Int32))]
      replace Y := Y'
      replace V : ownS Z h46 b39 ke nu sl [q4, q1] := V'
      refine own_istore G46 at_91 (L' := #[.val (.long q1), .second, .val (.long q2), .second, .val (.long q3), .second, .val (.long q4), .second, .val (.int p5), .val (.ref b39), .val (.int mm), .val (.int (1 : Int32)), .val (.int (0 : Int32)), .val (.int (1 : Int32)), .unset, .unset, .unset, .unset, .unset]) rfl ?_
      show ownGo _ _ _ _ _ _ _ T46 93 #[.val (.long q1), .second, .val (.long q2), .second, .val (.long q3), .second, .val (.long q4), .second, .val (.int p5), .val (.ref b39), .val (.int mm), .val (.int (1 : Int32)), .val (.int (0 : Int32)), .val (.int (1 : Int32)), .unset, .unset, .unset, .unset, .unset] []
      refine own_aload G46 at_93 rfl rfl ?_
      show ownGo _ _ _ _ _ _ _ T46 95 #[.val (.long q1), .second, .val (.long q2), .second, .val (.long q3), .second, .val (.long q4), .second, .val (.int p5), .val (.ref b39), .val (.int mm), .val (.int (1 : Int32)), .val (.int (0 : Int32)), .val (.int (1 : Int32)), .unset, .unset, .unset, .unset, .unset] [(.ref b39)]
      refine own_lloadN G46 at_95 rfl ?_
      show ownGo _ _ _ _ _ _ _ T46 96 #[.val (.long q1), .second, .val (.long q2), .second, .val (.long q3), .second, .val (.long q4), .second, .val (.int p5), .val (.ref b39), .val (.int mm), .val (.int (1 : Int32)), .val (.int (0 : Int32)), .val (.int (1 : Int32)), .unset, .unset, .unset, .unset, .unset] [(.long q2), (.ref b39)]
      refine own_virtual G46 at_96 (y := (⟨"com/example/termite/termite/engine/LongIndex", "number", "(J)I"⟩ : MethodName)) (hw _ (List.mem_of_getElem? (i := 30) rfl)) (hw _ (List.mem_of_getElem? (i := 31) rfl)) (hw _ (List.mem_of_getElem? (i := 33) rfl)) (hw _ (List.mem_of_getElem? (i := 32) rfl)) (hw _ (List.mem_of_getElem? (i := 2) rfl)) (hw _ (List.mem_of_getElem? (i := 34) rfl)) (by decide) (a := b39) (argsL := [(.long q2)]) (rest := []) V.exa (rmNum l Z a0 hw b39 q2 ke nu sl [q4, q1] h46 n0 Y V N (fun _ => by simp)) rfl rfl rfl (lenOf pd_4 rfl) (W := 0) (Nat.le_of_eq rfl) (by decide) (by decide) (by decide) (by decide) ?_
      intro v48 T48 h48 hq48 G48
      obtain ⟨Y', ⟨i, hi2, rfl, V'⟩ | ⟨hi2, rfl, V'⟩⟩ := hq48
      · rcases i with _ | _ | i
        · have e2 : q4 = q2 := by simpa using hi2
          show ownGo _ _ _ _ _ _ _ T48 99 #[.val (.long q1), .second, .val (.long q2), .second, .val (.long q3), .second, .val (.long q4), .second, .val (.int p5), .val (.ref b39), .val (.int mm), .val (.int (1 : Int32)), .val (.int (0 : Int32)), .val (.int (1 : Int32)), .unset, .unset, .unset, .unset, .unset] [(.int (0 : Int32))]
          replace Y := Y'
          replace V := V'
          refine own_istore G48 at_99 (L' := #[.val (.long q1), .second, .val (.long q2), .second, .val (.long q3), .second, .val (.long q4), .second, .val (.int p5), .val (.ref b39), .val (.int mm), .val (.int (1 : Int32)), .val (.int (0 : Int32)), .val (.int (1 : Int32)), .val (.int (0 : Int32)), .unset, .unset, .unset, .unset]) rfl ?_
          show ownGo _ _ _ _ _ _ _ T48 101 #[.val (.long q1), .second, .val (.long q2), .second, .val (.long q3), .second, .val (.long q4), .second, .val (.int p5), .val (.ref b39), .val (.int mm), .val (.int (1 : Int32)), .val (.int (0 : Int32)), .val (.int (1 : Int32)), .val (.int (0 : Int32)), .unset, .unset, .unset, .unset] []
          refine own_lloadN G48 at_101 rfl ?_
          show ownGo _ _ _ _ _ _ _ T48 102 #[.val (.long q1), .second, .val (.long q2), .second, .val (.long q3), .second, .val (.long q4), .second, .val (.int p5), .val (.ref b39), .val (.int mm), .val (.int (1 : Int32)), .val (.int (0 : Int32)), .val (.int (1 : Int32)), .val (.int (0 : Int32)), .unset, .unset, .unset, .unset] [(.long q1)]
          refine own_lload G48 at_102 rfl ?_
          show ownGo _ _ _ _ _ _ _ T48 104 #[.val (.long q1), .second, .val (.long q2), .second, .val (.long q3), .second, .val (.long q4), .second, .val (.int p5), .val (.ref b39), .val (.int mm), .val (.int (1 : Int32)), .val (.int (0 : Int32)), .val (.int (1 : Int32)), .val (.int (0 : Int32)), .unset, .unset, .unset, .unset] [(.long q4), (.long q1)]
          refine own_lcif_ne G48 at_104 at_105 (pc' := 112) (by decide) (by decide) (fun hc => ?_) (fun hc => False.elim (e1 hc))
          show ownGo _ _ _ _ _ _ _ T48 112 #[.val (.long q1), .second, .val (.long q2), .second, .val (.long q3), .second, .val (.long q4), .second, .val (.int p5), .val (.ref b39), .val (.int mm), .val (.int (1 : Int32)), .val (.int (0 : Int32)), .val (.int (1 : Int32)), .val (.int (0 : Int32)), .unset, .unset, .unset, .unset] []
          refine own_iconst G48 at_112 ?_
          show ownGo _ _ _ _ _ _ _ T48 113 #[.val (.long q1), .second, .val (.long q2), .second, .val (.long q3), .second, .val (.long q4), .second, .val (.int p5), .val (.ref b39), .val (.int mm), .val (.int (1 : Int32)), .val (.int (0 : Int32)), .val (.int (1 : Int32)), .val (.int (0 : Int32)), .unset, .unset, .unset, .unset] [(.int (1 : Int32))]
          refine own_istore G48 at_113 (L' := #[.val (.long q1), .second, .val (.long q2), .second, .val (.long q3), .second, .val (.long q4), .second, .val (.int p5), .val (.ref b39), .val (.int mm), .val (.int (1 : Int32)), .val (.int (0 : Int32)), .val (.int (1 : Int32)), .val (.int (0 : Int32)), .val (.int (1 : Int32)), .unset, .unset, .unset]) rfl ?_
          show ownGo _ _ _ _ _ _ _ T48 115 #[.val (.long q1), .second, .val (.long q2), .second, .val (.long q3), .second, .val (.long q4), .second, .val (.int p5), .val (.ref b39), .val (.int mm), .val (.int (1 : Int32)), .val (.int (0 : Int32)), .val (.int (1 : Int32)), .val (.int (0 : Int32)), .val (.int (1 : Int32)), .unset, .unset, .unset] []
          refine own_lloadN G48 at_115 rfl ?_
          show ownGo _ _ _ _ _ _ _ T48 116 #[.val (.long q1), .second, .val (.long q2), .second, .val (.long q3), .second, .val (.long q4), .second, .val (.int p5), .val (.ref b39), .val (.int mm), .val (.int (1 : Int32)), .val (.int (0 : Int32)), .val (.int (1 : Int32)), .val (.int (0 : Int32)), .val (.int (1 : Int32)), .unset, .unset, .unset] [(.long q1)]
          refine own_lload G48 at_116 rfl ?_
          show ownGo _ _ _ _ _ _ _ T48 118 #[.val (.long q1), .second, .val (.long q2), .second, .val (.long q3), .second, .val (.long q4), .second, .val (.int p5), .val (.ref b39), .val (.int mm), .val (.int (1 : Int32)), .val (.int (0 : Int32)), .val (.int (1 : Int32)), .val (.int (0 : Int32)), .val (.int (1 : Int32)), .unset, .unset, .unset] [(.long q4), (.long q1)]
          refine own_lcif_ne G48 at_118 at_119 (pc' := 126) (by decide) (by decide) (fun hc => ?_) (fun hc => False.elim (e1 hc))
          show ownGo _ _ _ _ _ _ _ T48 126 #[.val (.long q1), .second, .val (.long q2), .second, .val (.long q3), .second, .val (.long q4), .second, .val (.int p5), .val (.ref b39), .val (.int mm), .val (.int (1 : Int32)), .val (.int (0 : Int32)), .val (.int (1 : Int32)), .val (.int (0 : Int32)), .val (.int (1 : Int32)), .unset, .unset, .unset] []
          refine own_iconst G48 at_126 ?_
          show ownGo _ _ _ _ _ _ _ T48 127 #[.val (.long q1), .second, .val (.long q2), .second, .val (.long q3), .second, .val (.long q4), .second, .val (.int p5), .val (.ref b39), .val (.int mm), .val (.int (1 : Int32)), .val (.int (0 : Int32)), .val (.int (1 : Int32)), .val (.int (0 : Int32)), .val (.int (1 : Int32)), .unset, .unset, .unset] [(.int (2 : Int32))]
          refine own_istore G48 at_127 (L' := #[.val (.long q1), .second, .val (.long q2), .second, .val (.long q3), .second, .val (.long q4), .second, .val (.int p5), .val (.ref b39), .val (.int mm), .val (.int (1 : Int32)), .val (.int (0 : Int32)), .val (.int (1 : Int32)), .val (.int (0 : Int32)), .val (.int (1 : Int32)), .val (.int (2 : Int32)), .unset, .unset]) rfl ?_
          show ownGo _ _ _ _ _ _ _ T48 129 #[.val (.long q1), .second, .val (.long q2), .second, .val (.long q3), .second, .val (.long q4), .second, .val (.int p5), .val (.ref b39), .val (.int mm), .val (.int (1 : Int32)), .val (.int (0 : Int32)), .val (.int (1 : Int32)), .val (.int (0 : Int32)), .val (.int (1 : Int32)), .val (.int (2 : Int32)), .unset, .unset] []
          refine own_lloadN G48 at_129 rfl ?_
          show ownGo _ _ _ _ _ _ _ T48 130 #[.val (.long q1), .second, .val (.long q2), .second, .val (.long q3), .second, .val (.long q4), .second, .val (.int p5), .val (.ref b39), .val (.int mm), .val (.int (1 : Int32)), .val (.int (0 : Int32)), .val (.int (1 : Int32)), .val (.int (0 : Int32)), .val (.int (1 : Int32)), .val (.int (2 : Int32)), .unset, .unset] [(.long q2)]
          refine own_lload G48 at_130 rfl ?_
          show ownGo _ _ _ _ _ _ _ T48 132 #[.val (.long q1), .second, .val (.long q2), .second, .val (.long q3), .second, .val (.long q4), .second, .val (.int p5), .val (.ref b39), .val (.int mm), .val (.int (1 : Int32)), .val (.int (0 : Int32)), .val (.int (1 : Int32)), .val (.int (0 : Int32)), .val (.int (1 : Int32)), .val (.int (2 : Int32)), .unset, .unset] [(.long q4), (.long q2)]
          refine own_lcif_ne G48 at_132 at_133 (pc' := 142) (by decide) (by decide) (fun hc => False.elim (hc e2.symm)) (fun hc => ?_)
          show ownGo _ _ _ _ _ _ _ T48 136 #[.val (.long q1), .second, .val (.long q2), .second, .val (.long q3), .second, .val (.long q4), .second, .val (.int p5), .val (.ref b39), .val (.int mm), .val (.int (1 : Int32)), .val (.int (0 : Int32)), .val (.int (1 : Int32)), .val (.int (0 : Int32)), .val (.int (1 : Int32)), .val (.int (2 : Int32)), .unset, .unset] []
          refine own_iconst G48 at_136 ?_
          show ownGo _ _ _ _ _ _ _ T48 137 #[.val (.long q1), .second, .val (.long q2), .second, .val (.long q3), .second, .val (.long q4), .second, .val (.int p5), .val (.ref b39), .val (.int mm), .val (.int (1 : Int32)), .val (.int (0 : Int32)), .val (.int (1 : Int32)), .val (.int (0 : Int32)), .val (.int (1 : Int32)), .val (.int (2 : Int32)), .unset, .unset] [(.int (0 : Int32))]
          refine own_istore G48 at_137 (L' := #[.val (.long q1), .second, .val (.long q2), .second, .val (.long q3), .second, .val (.long q4), .second, .val (.int p5), .val (.ref b39), .val (.int mm), .val (.int (1 : Int32)), .val (.int (0 : Int32)), .val (.int (1 : Int32)), .val (.int (0 : Int32)), .val (.int (1 : Int32)), .val (.int (2 : Int32)), .val (.int (0 : Int32)), .unset]) rfl ?_
          show ownGo _ _ _ _ _ _ _ T48 139 #[.val (.long q1), .second, .val (.long q2), .second, .val (.long q3), .second, .val (.long q4), .second, .val (.int p5), .val (.ref b39), .val (.int mm), .val (.int (1 : Int32)), .val (.int (0 : Int32)), .val (.int (1 : Int32)), .val (.int (0 : Int32)), .val (.int (1 : Int32)), .val (.int (2 : Int32)), .val (.int (0 : Int32)), .unset] []
          refine own_goto G48 at_139 (pc' := 159) (by decide) (by decide) ?_
          show ownGo _ _ _ _ _ _ _ T48 159 #[.val (.long q1), .second, .val (.long q2), .second, .val (.long q3), .second, .val (.long q4), .second, .val (.int p5), .val (.ref b39), .val (.int mm), .val (.int (1 : Int32)), .val (.int (0 : Int32)), .val (.int (1 : Int32)), .val (.int (0 : Int32)), .val (.int (1 : Int32)), .val (.int (2 : Int32)), .val (.int (0 : Int32)), .unset] []
          refine own_iload G48 at_159 rfl ?_
          show ownGo _ _ _ _ _ _ _ T48 161 #[.val (.long q1), .second, .val (.long q2), .second, .val (.long q3), .second, .val (.long q4), .second, .val (.int p5), .val (.ref b39), .val (.int mm), .val (.int (1 : Int32)), .val (.int (0 : Int32)), .val (.int (1 : Int32)), .val (.int (0 : Int32)), .val (.int (1 : Int32)), .val (.int (2 : Int32)), .val (.int (0 : Int32)), .unset] [(.int (1 : Int32))]
          refine own_if_eq G48 at_161 (pc' := 187) (by decide) (by decide) (fun hc => False.elim (absurd hc (by decide))) (fun hc => ?_)
          show ownGo _ _ _ _ _ _ _ T48 164 #[.val (.long q1), .second, .val (.long q2), .second, .val (.long q3), .second, .val (.long q4), .second, .val (.int p5), .val (.ref b39), .val (.int mm), .val (.int (1 : Int32)), .val (.int (0 : Int32)), .val (.int (1 : Int32)), .val (.int (0 : Int32)), .val (.int (1 : Int32)), .val (.int (2 : Int32)), .val (.int (0 : Int32)), .unset] []
          refine own_iload G48 at_164 rfl ?_
          show ownGo _ _ _ _ _ _ _ T48 166 #[.val (.long q1), .second, .val (.long q2), .second, .val (.long q3), .second, .val (.long q4), .second, .val (.int p5), .val (.ref b39), .val (.int mm), .val (.int (1 : Int32)), .val (.int (0 : Int32)), .val (.int (1 : Int32)), .val (.int (0 : Int32)), .val (.int (1 : Int32)), .val (.int (2 : Int32)), .val (.int (0 : Int32)), .unset] [(.int (0 : Int32))]
          refine own_if_ne G48 at_166 (pc' := 187) (by decide) (by decide) (fun hc => False.elim (absurd hc (by decide))) (fun hc => ?_)
          show ownGo _ _ _ _ _ _ _ T48 169 #[.val (.long q1), .second, .val (.long q2), .second, .val (.long q3), .second, .val (.long q4), .second, .val (.int p5), .val (.ref b39), .val (.int mm), .val (.int (1 : Int32)), .val (.int (0 : Int32)), .val (.int (1 : Int32)), .val (.int (0 : Int32)), .val (.int (1 : Int32)), .val (.int (2 : Int32)), .val (.int (0 : Int32)), .unset] []
          refine own_iload G48 at_169 rfl ?_
          show ownGo _ _ _ _ _ _ _ T48 171 #[.val (.long q1), .second, .val (.long q2), .second, .val (.long q3), .second, .val (.long q4), .second, .val (.int p5), .val (.ref b39), .val (.int mm), .val (.int (1 : Int32)), .val (.int (0 : Int32)), .val (.int (1 : Int32)), .val (.int (0 : Int32)), .val (.int (1 : Int32)), .val (.int (2 : Int32)), .val (.int (0 : Int32)), .unset] [(.int (1 : Int32))]
          refine own_iload G48 at_171 rfl ?_
          show ownGo _ _ _ _ _ _ _ T48 173 #[.val (.long q1), .second, .val (.long q2), .second, .val (.long q3), .second, .val (.long q4), .second, .val (.int p5), .val (.ref b39), .val (.int mm), .val (.int (1 : Int32)), .val (.int (0 : Int32)), .val (.int (1 : Int32)), .val (.int (0 : Int32)), .val (.int (1 : Int32)), .val (.int (2 : Int32)), .val (.int (0 : Int32)), .unset] [(.int (1 : Int32)), (.int (1 : Int32))]
          refine own_icmp_ne G48 at_173 (pc' := 187) (by decide) (by decide) (fun hc => False.elim (hc rfl)) (fun hc => ?_)
          show ownGo _ _ _ _ _ _ _ T48 176 #[.val (.long q1), .second, .val (.long q2), .second, .val (.long q3), .second, .val (.long q4), .second, .val (.int p5), .val (.ref b39), .val (.int mm), .val (.int (1 : Int32)), .val (.int (0 : Int32)), .val (.int (1 : Int32)), .val (.int (0 : Int32)), .val (.int (1 : Int32)), .val (.int (2 : Int32)), .val (.int (0 : Int32)), .unset] []
          refine own_iload G48 at_176 rfl ?_
          show ownGo _ _ _ _ _ _ _ T48 178 #[.val (.long q1), .second, .val (.long q2), .second, .val (.long q3), .second, .val (.long q4), .second, .val (.int p5), .val (.ref b39), .val (.int mm), .val (.int (1 : Int32)), .val (.int (0 : Int32)), .val (.int (1 : Int32)), .val (.int (0 : Int32)), .val (.int (1 : Int32)), .val (.int (2 : Int32)), .val (.int (0 : Int32)), .unset] [(.int (0 : Int32))]
          refine own_iload G48 at_178 rfl ?_
          show ownGo _ _ _ _ _ _ _ T48 180 #[.val (.long q1), .second, .val (.long q2), .second, .val (.long q3), .second, .val (.long q4), .second, .val (.int p5), .val (.ref b39), .val (.int mm), .val (.int (1 : Int32)), .val (.int (0 : Int32)), .val (.int (1 : Int32)), .val (.int (0 : Int32)), .val (.int (1 : Int32)), .val (.int (2 : Int32)), .val (.int (0 : Int32)), .unset] [(.int (0 : Int32)), (.int (0 : Int32))]
          refine own_icmp_ne G48 at_180 (pc' := 187) (by decide) (by decide) (fun hc => False.elim (hc rfl)) (fun hc => ?_)
          show ownGo _ _ _ _ _ _ _ T48 183 #[.val (.long q1), .second, .val (.long q2), .second, .val (.long q3), .second, .val (.long q4), .second, .val (.int p5), .val (.ref b39), .val (.int mm), .val (.int (1 : Int32)), .val (.int (0 : Int32)), .val (.int (1 : Int32)), .val (.int (0 : Int32)), .val (.int (1 : Int32)), .val (.int (2 : Int32)), .val (.int (0 : Int32)), .unset] []
          refine own_iconst G48 at_183 ?_
          show ownGo _ _ _ _ _ _ _ T48 184 #[.val (.long q1), .second, .val (.long q2), .second, .val (.long q3), .second, .val (.long q4), .second, .val (.int p5), .val (.ref b39), .val (.int mm), .val (.int (1 : Int32)), .val (.int (0 : Int32)), .val (.int (1 : Int32)), .val (.int (0 : Int32)), .val (.int (1 : Int32)), .val (.int (2 : Int32)), .val (.int (0 : Int32)), .unset] [(.int (1 : Int32))]
          refine own_goto G48 at_184 (pc' := 188) (by decide) (by decide) ?_
          show ownGo _ _ _ _ _ _ _ T48 188 #[.val (.long q1), .second, .val (.long q2), .second, .val (.long q3), .second, .val (.long q4), .second, .val (.int p5), .val (.ref b39), .val (.int mm), .val (.int (1 : Int32)), .val (.int (0 : Int32)), .val (.int (1 : Int32)), .val (.int (0 : Int32)), .val (.int (1 : Int32)), .val (.int (2 : Int32)), .val (.int (0 : Int32)), .unset] [(.int (1 : Int32))]
          refine own_istore G48 at_188 (L' := #[.val (.long q1), .second, .val (.long q2), .second, .val (.long q3), .second, .val (.long q4), .second, .val (.int p5), .val (.ref b39), .val (.int mm), .val (.int (1 : Int32)), .val (.int (0 : Int32)), .val (.int (1 : Int32)), .val (.int (0 : Int32)), .val (.int (1 : Int32)), .val (.int (2 : Int32)), .val (.int (0 : Int32)), .unset]) rfl ?_
          show ownGo _ _ _ _ _ _ _ T48 190 #[.val (.long q1), .second, .val (.long q2), .second, .val (.long q3), .second, .val (.long q4), .second, .val (.int p5), .val (.ref b39), .val (.int mm), .val (.int (1 : Int32)), .val (.int (0 : Int32)), .val (.int (1 : Int32)), .val (.int (0 : Int32)), .val (.int (1 : Int32)), .val (.int (2 : Int32)), .val (.int (0 : Int32)), .unset] []
          exact j190 _ _ _ _ _ _ _ _ [q4, q1] (own_more G48 (by decide) (by decide)) Y V
        · have e2 : q1 = q2 := by simpa using hi2
          show ownGo _ _ _ _ _ _ _ T48 99 #[.val (.long q1), .second, .val (.long q2), .second, .val (.long q3), .second, .val (.long q4), .second, .val (.int p5), .val (.ref b39), .val (.int mm), .val (.int (1 : Int32)), .val (.int (0 : Int32)), .val (.int (1 : Int32)), .unset, .unset, .unset, .unset, .unset] [(.int (1 : Int32))]
          replace Y := Y'
          replace V := V'
          refine own_istore G48 at_99 (L' := #[.val (.long q1), .second, .val (.long q2), .second, .val (.long q3), .second, .val (.long q4), .second, .val (.int p5), .val (.ref b39), .val (.int mm), .val (.int (1 : Int32)), .val (.int (0 : Int32)), .val (.int (1 : Int32)), .val (.int (1 : Int32)), .unset, .unset, .unset, .unset]) rfl ?_
          show ownGo _ _ _ _ _ _ _ T48 101 #[.val (.long q1), .second, .val (.long q2), .second, .val (.long q3), .second, .val (.long q4), .second, .val (.int p5), .val (.ref b39), .val (.int mm), .val (.int (1 : Int32)), .val (.int (0 : Int32)), .val (.int (1 : Int32)), .val (.int (1 : Int32)), .unset, .unset, .unset, .unset] []
          refine own_lloadN G48 at_101 rfl ?_
          show ownGo _ _ _ _ _ _ _ T48 102 #[.val (.long q1), .second, .val (.long q2), .second, .val (.long q3), .second, .val (.long q4), .second, .val (.int p5), .val (.ref b39), .val (.int mm), .val (.int (1 : Int32)), .val (.int (0 : Int32)), .val (.int (1 : Int32)), .val (.int (1 : Int32)), .unset, .unset, .unset, .unset] [(.long q1)]
          refine own_lload G48 at_102 rfl ?_
          show ownGo _ _ _ _ _ _ _ T48 104 #[.val (.long q1), .second, .val (.long q2), .second, .val (.long q3), .second, .val (.long q4), .second, .val (.int p5), .val (.ref b39), .val (.int mm), .val (.int (1 : Int32)), .val (.int (0 : Int32)), .val (.int (1 : Int32)), .val (.int (1 : Int32)), .unset, .unset, .unset, .unset] [(.long q4), (.long q1)]
          refine own_lcif_ne G48 at_104 at_105 (pc' := 112) (by decide) (by decide) (fun hc => ?_) (fun hc => False.elim (e1 hc))
          show ownGo _ _ _ _ _ _ _ T48 112 #[.val (.long q1), .second, .val (.long q2), .second, .val (.long q3), .second, .val (.long q4), .second, .val (.int p5), .val (.ref b39), .val (.int mm), .val (.int (1 : Int32)), .val (.int (0 : Int32)), .val (.int (1 : Int32)), .val (.int (1 : Int32)), .unset, .unset, .unset, .unset] []
          refine own_iconst G48 at_112 ?_
          show ownGo _ _ _ _ _ _ _ T48 113 #[.val (.long q1), .second, .val (.long q2), .second, .val (.long q3), .second, .val (.long q4), .second, .val (.int p5), .val (.ref b39), .val (.int mm), .val (.int (1 : Int32)), .val (.int (0 : Int32)), .val (.int (1 : Int32)), .val (.int (1 : Int32)), .unset, .unset, .unset, .unset] [(.int (1 : Int32))]
          refine own_istore G48 at_113 (L' := #[.val (.long q1), .second, .val (.long q2), .second, .val (.long q3), .second, .val (.long q4), .second, .val (.int p5), .val (.ref b39), .val (.int mm), .val (.int (1 : Int32)), .val (.int (0 : Int32)), .val (.int (1 : Int32)), .val (.int (1 : Int32)), .val (.int (1 : Int32)), .unset, .unset, .unset]) rfl ?_
          show ownGo _ _ _ _ _ _ _ T48 115 #[.val (.long q1), .second, .val (.long q2), .second, .val (.long q3), .second, .val (.long q4), .second, .val (.int p5), .val (.ref b39), .val (.int mm), .val (.int (1 : Int32)), .val (.int (0 : Int32)), .val (.int (1 : Int32)), .val (.int (1 : Int32)), .val (.int (1 : Int32)), .unset, .unset, .unset] []
          refine own_lloadN G48 at_115 rfl ?_
          show ownGo _ _ _ _ _ _ _ T48 116 #[.val (.long q1), .second, .val (.long q2), .second, .val (.long q3), .second, .val (.long q4), .second, .val (.int p5), .val (.ref b39), .val (.int mm), .val (.int (1 : Int32)), .val (.int (0 : Int32)), .val (.int (1 : Int32)), .val (.int (1 : Int32)), .val (.int (1 : Int32)), .unset, .unset, .unset] [(.long q1)]
          refine own_lload G48 at_116 rfl ?_
          show ownGo _ _ _ _ _ _ _ T48 118 #[.val (.long q1), .second, .val (.long q2), .second, .val (.long q3), .second, .val (.long q4), .second, .val (.int p5), .val (.ref b39), .val (.int mm), .val (.int (1 : Int32)), .val (.int (0 : Int32)), .val (.int (1 : Int32)), .val (.int (1 : Int32)), .val (.int (1 : Int32)), .unset, .unset, .unset] [(.long q4), (.long q1)]
          refine own_lcif_ne G48 at_118 at_119 (pc' := 126) (by decide) (by decide) (fun hc => ?_) (fun hc => False.elim (e1 hc))
          show ownGo _ _ _ _ _ _ _ T48 126 #[.val (.long q1), .second, .val (.long q2), .second, .val (.long q3), .second, .val (.long q4), .second, .val (.int p5), .val (.ref b39), .val (.int mm), .val (.int (1 : Int32)), .val (.int (0 : Int32)), .val (.int (1 : Int32)), .val (.int (1 : Int32)), .val (.int (1 : Int32)), .unset, .unset, .unset] []
          refine own_iconst G48 at_126 ?_
          show ownGo _ _ _ _ _ _ _ T48 127 #[.val (.long q1), .second, .val (.long q2), .second, .val (.long q3), .second, .val (.long q4), .second, .val (.int p5), .val (.ref b39), .val (.int mm), .val (.int (1 : Int32)), .val (.int (0 : Int32)), .val (.int (1 : Int32)), .val (.int (1 : Int32)), .val (.int (1 : Int32)), .unset, .unset, .unset] [(.int (2 : Int32))]
          refine own_istore G48 at_127 (L' := #[.val (.long q1), .second, .val (.long q2), .second, .val (.long q3), .second, .val (.long q4), .second, .val (.int p5), .val (.ref b39), .val (.int mm), .val (.int (1 : Int32)), .val (.int (0 : Int32)), .val (.int (1 : Int32)), .val (.int (1 : Int32)), .val (.int (1 : Int32)), .val (.int (2 : Int32)), .unset, .unset]) rfl ?_
          show ownGo _ _ _ _ _ _ _ T48 129 #[.val (.long q1), .second, .val (.long q2), .second, .val (.long q3), .second, .val (.long q4), .second, .val (.int p5), .val (.ref b39), .val (.int mm), .val (.int (1 : Int32)), .val (.int (0 : Int32)), .val (.int (1 : Int32)), .val (.int (1 : Int32)), .val (.int (1 : Int32)), .val (.int (2 : Int32)), .unset, .unset] []
          refine own_lloadN G48 at_129 rfl ?_
          show ownGo _ _ _ _ _ _ _ T48 130 #[.val (.long q1), .second, .val (.long q2), .second, .val (.long q3), .second, .val (.long q4), .second, .val (.int p5), .val (.ref b39), .val (.int mm), .val (.int (1 : Int32)), .val (.int (0 : Int32)), .val (.int (1 : Int32)), .val (.int (1 : Int32)), .val (.int (1 : Int32)), .val (.int (2 : Int32)), .unset, .unset] [(.long q2)]
          refine own_lload G48 at_130 rfl ?_
          show ownGo _ _ _ _ _ _ _ T48 132 #[.val (.long q1), .second, .val (.long q2), .second, .val (.long q3), .second, .val (.long q4), .second, .val (.int p5), .val (.ref b39), .val (.int mm), .val (.int (1 : Int32)), .val (.int (0 : Int32)), .val (.int (1 : Int32)), .val (.int (1 : Int32)), .val (.int (1 : Int32)), .val (.int (2 : Int32)), .unset, .unset] [(.long q4), (.long q2)]
          refine own_lcif_ne G48 at_132 at_133 (pc' := 142) (by decide) (by decide) (fun hc => ?_) (fun hc => False.elim ((fun r => e1 (e2.trans r)) hc))
          show ownGo _ _ _ _ _ _ _ T48 142 #[.val (.long q1), .second, .val (.long q2), .second, .val (.long q3), .second, .val (.long q4), .second, .val (.int p5), .val (.ref b39), .val (.int mm), .val (.int (1 : Int32)), .val (.int (0 : Int32)), .val (.int (1 : Int32)), .val (.int (1 : Int32)), .val (.int (1 : Int32)), .val (.int (2 : Int32)), .unset, .unset] []
          refine own_lloadN G48 at_142 rfl ?_
          show ownGo _ _ _ _ _ _ _ T48 143 #[.val (.long q1), .second, .val (.long q2), .second, .val (.long q3), .second, .val (.long q4), .second, .val (.int p5), .val (.ref b39), .val (.int mm), .val (.int (1 : Int32)), .val (.int (0 : Int32)), .val (.int (1 : Int32)), .val (.int (1 : Int32)), .val (.int (1 : Int32)), .val (.int (2 : Int32)), .unset, .unset] [(.long q2)]
          refine own_lloadN G48 at_143 rfl ?_
          show ownGo _ _ _ _ _ _ _ T48 144 #[.val (.long q1), .second, .val (.long q2), .second, .val (.long q3), .second, .val (.long q4), .second, .val (.int p5), .val (.ref b39), .val (.int mm), .val (.int (1 : Int32)), .val (.int (0 : Int32)), .val (.int (1 : Int32)), .val (.int (1 : Int32)), .val (.int (1 : Int32)), .val (.int (2 : Int32)), .unset, .unset] [(.long q1), (.long q2)]
          refine own_lcif_ne G48 at_144 at_145 (pc' := 155) (by decide) (by decide) (fun hc => False.elim (hc e2.symm)) (fun hc => ?_)
          show ownGo _ _ _ _ _ _ _ T48 148 #[.val (.long q1), .second, .val (.long q2), .second, .val (.long q3), .second, .val (.long q4), .second, .val (.int p5), .val (.ref b39), .val (.int mm), .val (.int (1 : Int32)), .val (.int (0 : Int32)), .val (.int (1 : Int32)), .val (.int (1 : Int32)), .val (.int (1 : Int32)), .val (.int (2 : Int32)), .unset, .unset] []
          refine own_iload G48 at_148 rfl ?_
          show ownGo _ _ _ _ _ _ _ T48 150 #[.val (.long q1), .second, .val (.long q2), .second, .val (.long q3), .second, .val (.long q4), .second, .val (.int p5), .val (.ref b39), .val (.int mm), .val (.int (1 : Int32)), .val (.int (0 : Int32)), .val (.int (1 : Int32)), .val (.int (1 : Int32)), .val (.int (1 : Int32)), .val (.int (2 : Int32)), .unset, .unset] [(.int (1 : Int32))]
          refine own_istore G48 at_150 (L' := #[.val (.long q1), .second, .val (.long q2), .second, .val (.long q3), .second, .val (.long q4), .second, .val (.int p5), .val (.ref b39), .val (.int mm), .val (.int (1 : Int32)), .val (.int (0 : Int32)), .val (.int (1 : Int32)), .val (.int (1 : Int32)), .val (.int (1 : Int32)), .val (.int (2 : Int32)), .val (.int (1 : Int32)), .unset]) rfl ?_
          show ownGo _ _ _ _ _ _ _ T48 152 #[.val (.long q1), .second, .val (.long q2), .second, .val (.long q3), .second, .val (.long q4), .second, .val (.int p5), .val (.ref b39), .val (.int mm), .val (.int (1 : Int32)), .val (.int (0 : Int32)), .val (.int (1 : Int32)), .val (.int (1 : Int32)), .val (.int (1 : Int32)), .val (.int (2 : Int32)), .val (.int (1 : Int32)), .unset] []
          refine own_goto G48 at_152 (pc' := 159) (by decide) (by decide) ?_
          show ownGo _ _ _ _ _ _ _ T48 159 #[.val (.long q1), .second, .val (.long q2), .second, .val (.long q3), .second, .val (.long q4), .second, .val (.int p5), .val (.ref b39), .val (.int mm), .val (.int (1 : Int32)), .val (.int (0 : Int32)), .val (.int (1 : Int32)), .val (.int (1 : Int32)), .val (.int (1 : Int32)), .val (.int (2 : Int32)), .val (.int (1 : Int32)), .unset] []
          refine own_iload G48 at_159 rfl ?_
          show ownGo _ _ _ _ _ _ _ T48 161 #[.val (.long q1), .second, .val (.long q2), .second, .val (.long q3), .second, .val (.long q4), .second, .val (.int p5), .val (.ref b39), .val (.int mm), .val (.int (1 : Int32)), .val (.int (0 : Int32)), .val (.int (1 : Int32)), .val (.int (1 : Int32)), .val (.int (1 : Int32)), .val (.int (2 : Int32)), .val (.int (1 : Int32)), .unset] [(.int (1 : Int32))]
          refine own_if_eq G48 at_161 (pc' := 187) (by decide) (by decide) (fun hc => False.elim (absurd hc (by decide))) (fun hc => ?_)
          show ownGo _ _ _ _ _ _ _ T48 164 #[.val (.long q1), .second, .val (.long q2), .second, .val (.long q3), .second, .val (.long q4), .second, .val (.int p5), .val (.ref b39), .val (.int mm), .val (.int (1 : Int32)), .val (.int (0 : Int32)), .val (.int (1 : Int32)), .val (.int (1 : Int32)), .val (.int (1 : Int32)), .val (.int (2 : Int32)), .val (.int (1 : Int32)), .unset] []
          refine own_iload G48 at_164 rfl ?_
          show ownGo _ _ _ _ _ _ _ T48 166 #[.val (.long q1), .second, .val (.long q2), .second, .val (.long q3), .second, .val (.long q4), .second, .val (.int p5), .val (.ref b39), .val (.int mm), .val (.int (1 : Int32)), .val (.int (0 : Int32)), .val (.int (1 : Int32)), .val (.int (1 : Int32)), .val (.int (1 : Int32)), .val (.int (2 : Int32)), .val (.int (1 : Int32)), .unset] [(.int (0 : Int32))]
          refine own_if_ne G48 at_166 (pc' := 187) (by decide) (by decide) (fun hc => False.elim (absurd hc (by decide))) (fun hc => ?_)
          show ownGo _ _ _ _ _ _ _ T48 169 #[.val (.long q1), .second, .val (.long q2), .second, .val (.long q3), .second, .val (.long q4), .second, .val (.int p5), .val (.ref b39), .val (.int mm), .val (.int (1 : Int32)), .val (.int (0 : Int32)), .val (.int (1 : Int32)), .val (.int (1 : Int32)), .val (.int (1 : Int32)), .val (.int (2 : Int32)), .val (.int (1 : Int32)), .unset] []
          refine own_iload G48 at_169 rfl ?_
          show ownGo _ _ _ _ _ _ _ T48 171 #[.val (.long q1), .second, .val (.long q2), .second, .val (.long q3), .second, .val (.long q4), .second, .val (.int p5), .val (.ref b39), .val (.int mm), .val (.int (1 : Int32)), .val (.int (0 : Int32)), .val (.int (1 : Int32)), .val (.int (1 : Int32)), .val (.int (1 : Int32)), .val (.int (2 : Int32)), .val (.int (1 : Int32)), .unset] [(.int (1 : Int32))]
          refine own_iload G48 at_171 rfl ?_
          show ownGo _ _ _ _ _ _ _ T48 173 #[.val (.long q1), .second, .val (.long q2), .second, .val (.long q3), .second, .val (.long q4), .second, .val (.int p5), .val (.ref b39), .val (.int mm), .val (.int (1 : Int32)), .val (.int (0 : Int32)), .val (.int (1 : Int32)), .val (.int (1 : Int32)), .val (.int (1 : Int32)), .val (.int (2 : Int32)), .val (.int (1 : Int32)), .unset] [(.int (1 : Int32)), (.int (1 : Int32))]
          refine own_icmp_ne G48 at_173 (pc' := 187) (by decide) (by decide) (fun hc => False.elim (hc rfl)) (fun hc => ?_)
          show ownGo _ _ _ _ _ _ _ T48 176 #[.val (.long q1), .second, .val (.long q2), .second, .val (.long q3), .second, .val (.long q4), .second, .val (.int p5), .val (.ref b39), .val (.int mm), .val (.int (1 : Int32)), .val (.int (0 : Int32)), .val (.int (1 : Int32)), .val (.int (1 : Int32)), .val (.int (1 : Int32)), .val (.int (2 : Int32)), .val (.int (1 : Int32)), .unset] []
          refine own_iload G48 at_176 rfl ?_
          show ownGo _ _ _ _ _ _ _ T48 178 #[.val (.long q1), .second, .val (.long q2), .second, .val (.long q3), .second, .val (.long q4), .second, .val (.int p5), .val (.ref b39), .val (.int mm), .val (.int (1 : Int32)), .val (.int (0 : Int32)), .val (.int (1 : Int32)), .val (.int (1 : Int32)), .val (.int (1 : Int32)), .val (.int (2 : Int32)), .val (.int (1 : Int32)), .unset] [(.int (1 : Int32))]
          refine own_iload G48 at_178 rfl ?_
          show ownGo _ _ _ _ _ _ _ T48 180 #[.val (.long q1), .second, .val (.long q2), .second, .val (.long q3), .second, .val (.long q4), .second, .val (.int p5), .val (.ref b39), .val (.int mm), .val (.int (1 : Int32)), .val (.int (0 : Int32)), .val (.int (1 : Int32)), .val (.int (1 : Int32)), .val (.int (1 : Int32)), .val (.int (2 : Int32)), .val (.int (1 : Int32)), .unset] [(.int (1 : Int32)), (.int (1 : Int32))]
          refine own_icmp_ne G48 at_180 (pc' := 187) (by decide) (by decide) (fun hc => False.elim (hc rfl)) (fun hc => ?_)
          show ownGo _ _ _ _ _ _ _ T48 183 #[.val (.long q1), .second, .val (.long q2), .second, .val (.long q3), .second, .val (.long q4), .second, .val (.int p5), .val (.ref b39), .val (.int mm), .val (.int (1 : Int32)), .val (.int (0 : Int32)), .val (.int (1 : Int32)), .val (.int (1 : Int32)), .val (.int (1 : Int32)), .val (.int (2 : Int32)), .val (.int (1 : Int32)), .unset] []
          refine own_iconst G48 at_183 ?_
          show ownGo _ _ _ _ _ _ _ T48 184 #[.val (.long q1), .second, .val (.long q2), .second, .val (.long q3), .second, .val (.long q4), .second, .val (.int p5), .val (.ref b39), .val (.int mm), .val (.int (1 : Int32)), .val (.int (0 : Int32)), .val (.int (1 : Int32)), .val (.int (1 : Int32)), .val (.int (1 : Int32)), .val (.int (2 : Int32)), .val (.int (1 : Int32)), .unset] [(.int (1 : Int32))]
          refine own_goto G48 at_184 (pc' := 188) (by decide) (by decide) ?_
          show ownGo _ _ _ _ _ _ _ T48 188 #[.val (.long q1), .second, .val (.long q2), .second, .val (.long q3), .second, .val (.long q4), .second, .val (.int p5), .val (.ref b39), .val (.int mm), .val (.int (1 : Int32)), .val (.int (0 : Int32)), .val (.int (1 : Int32)), .val (.int (1 : Int32)), .val (.int (1 : Int32)), .val (.int (2 : Int32)), .val (.int (1 : Int32)), .unset] [(.int (1 : Int32))]
          refine own_istore G48 at_188 (L' := #[.val (.long q1), .second, .val (.long q2), .second, .val (.long q3), .second, .val (.long q4), .second, .val (.int p5), .val (.ref b39), .val (.int mm), .val (.int (1 : Int32)), .val (.int (0 : Int32)), .val (.int (1 : Int32)), .val (.int (1 : Int32)), .val (.int (1 : Int32)), .val (.int (2 : Int32)), .val (.int (1 : Int32)), .unset]) rfl ?_
          show ownGo _ _ _ _ _ _ _ T48 190 #[.val (.long q1), .second, .val (.long q2), .second, .val (.long q3), .second, .val (.long q4), .second, .val (.int p5), .val (.ref b39), .val (.int mm), .val (.int (1 : Int32)), .val (.int (0 : Int32)), .val (.int (1 : Int32)), .val (.int (1 : Int32)), .val (.int (1 : Int32)), .val (.int (2 : Int32)), .val (.int (1 : Int32)), .unset] []
          exact j190 _ _ _ _ _ _ _ _ [q4, q1] (own_more G48 (by decide) (by decide)) Y V
        · simp at hi2
      · have e2 : ¬ q2 = q4 := fun r => hi2 (by simp [r])
        have e3 : ¬ q2 = q1 := fun r => hi2 (by simp [r])
        show ownGo _ _ _ _ _ _ _ T48 99 #[.val (.long q1), .second, .val (.long q2), .second, .val (.long q3), .second, .val (.long q4), .second, .val (.int p5), .val (.ref b39), .val (.int mm), .val (.int (1 : Int32)), .val (.int (0 : Int32)), .val (.int (1 : Int32)), .unset, .unset, .unset, .unset, .unset] [(.int (2 : Int32))]
        replace Y := Y'
        replace V := V'
        refine own_istore G48 at_99 (L' := #[.val (.long q1), .second, .val (.long q2), .second, .val (.long q3), .second, .val (.long q4), .second, .val (.int p5), .val (.ref b39), .val (.int mm), .val (.int (1 : Int32)), .val (.int (0 : Int32)), .val (.int (1 : Int32)), .val (.int (2 : Int32)), .unset, .unset, .unset, .unset]) rfl ?_
        show ownGo _ _ _ _ _ _ _ T48 101 #[.val (.long q1), .second, .val (.long q2), .second, .val (.long q3), .second, .val (.long q4), .second, .val (.int p5), .val (.ref b39), .val (.int mm), .val (.int (1 : Int32)), .val (.int (0 : Int32)), .val (.int (1 : Int32)), .val (.int (2 : Int32)), .unset, .unset, .unset, .unset] []
        refine own_lloadN G48 at_101 rfl ?_
        show ownGo _ _ _ _ _ _ _ T48 102 #[.val (.long q1), .second, .val (.long q2), .second, .val (.long q3), .second, .val (.long q4), .second, .val (.int p5), .val (.ref b39), .val (.int mm), .val (.int (1 : Int32)), .val (.int (0 : Int32)), .val (.int (1 : Int32)), .val (.int (2 : Int32)), .unset, .unset, .unset, .unset] [(.long q1)]
        refine own_lload G48 at_102 rfl ?_
        show ownGo _ _ _ _ _ _ _ T48 104 #[.val (.long q1), .second, .val (.long q2), .second, .val (.long q3), .second, .val (.long q4), .second, .val (.int p5), .val (.ref b39), .val (.int mm), .val (.int (1 : Int32)), .val (.int (0 : Int32)), .val (.int (1 : Int32)), .val (.int (2 : Int32)), .unset, .unset, .unset, .unset] [(.long q4), (.long q1)]
        refine own_lcif_ne G48 at_104 at_105 (pc' := 112) (by decide) (by decide) (fun hc => ?_) (fun hc => False.elim (e1 hc))
        show ownGo _ _ _ _ _ _ _ T48 112 #[.val (.long q1), .second, .val (.long q2), .second, .val (.long q3), .second, .val (.long q4), .second, .val (.int p5), .val (.ref b39), .val (.int mm), .val (.int (1 : Int32)), .val (.int (0 : Int32)), .val (.int (1 : Int32)), .val (.int (2 : Int32)), .unset, .unset, .unset, .unset] []
        refine own_iconst G48 at_112 ?_
        show ownGo _ _ _ _ _ _ _ T48 113 #[.val (.long q1), .second, .val (.long q2), .second, .val (.long q3), .second, .val (.long q4), .second, .val (.int p5), .val (.ref b39), .val (.int mm), .val (.int (1 : Int32)), .val (.int (0 : Int32)), .val (.int (1 : Int32)), .val (.int (2 : Int32)), .unset, .unset, .unset, .unset] [(.int (1 : Int32))]
        refine own_istore G48 at_113 (L' := #[.val (.long q1), .second, .val (.long q2), .second, .val (.long q3), .second, .val (.long q4), .second, .val (.int p5), .val (.ref b39), .val (.int mm), .val (.int (1 : Int32)), .val (.int (0 : Int32)), .val (.int (1 : Int32)), .val (.int (2 : Int32)), .val (.int (1 : Int32)), .unset, .unset, .unset]) rfl ?_
        show ownGo _ _ _ _ _ _ _ T48 115 #[.val (.long q1), .second, .val (.long q2), .second, .val (.long q3), .second, .val (.long q4), .second, .val (.int p5), .val (.ref b39), .val (.int mm), .val (.int (1 : Int32)), .val (.int (0 : Int32)), .val (.int (1 : Int32)), .val (.int (2 : Int32)), .val (.int (1 : Int32)), .unset, .unset, .unset] []
        refine own_lloadN G48 at_115 rfl ?_
        show ownGo _ _ _ _ _ _ _ T48 116 #[.val (.long q1), .second, .val (.long q2), .second, .val (.long q3), .second, .val (.long q4), .second, .val (.int p5), .val (.ref b39), .val (.int mm), .val (.int (1 : Int32)), .val (.int (0 : Int32)), .val (.int (1 : Int32)), .val (.int (2 : Int32)), .val (.int (1 : Int32)), .unset, .unset, .unset] [(.long q1)]
        refine own_lload G48 at_116 rfl ?_
        show ownGo _ _ _ _ _ _ _ T48 118 #[.val (.long q1), .second, .val (.long q2), .second, .val (.long q3), .second, .val (.long q4), .second, .val (.int p5), .val (.ref b39), .val (.int mm), .val (.int (1 : Int32)), .val (.int (0 : Int32)), .val (.int (1 : Int32)), .val (.int (2 : Int32)), .val (.int (1 : Int32)), .unset, .unset, .unset] [(.long q4), (.long q1)]
        refine own_lcif_ne G48 at_118 at_119 (pc' := 126) (by decide) (by decide) (fun hc => ?_) (fun hc => False.elim (e1 hc))
        show ownGo _ _ _ _ _ _ _ T48 126 #[.val (.long q1), .second, .val (.long q2), .second, .val (.long q3), .second, .val (.long q4), .second, .val (.int p5), .val (.ref b39), .val (.int mm), .val (.int (1 : Int32)), .val (.int (0 : Int32)), .val (.int (1 : Int32)), .val (.int (2 : Int32)), .val (.int (1 : Int32)), .unset, .unset, .unset] []
        refine own_iconst G48 at_126 ?_
        show ownGo _ _ _ _ _ _ _ T48 127 #[.val (.long q1), .second, .val (.long q2), .second, .val (.long q3), .second, .val (.long q4), .second, .val (.int p5), .val (.ref b39), .val (.int mm), .val (.int (1 : Int32)), .val (.int (0 : Int32)), .val (.int (1 : Int32)), .val (.int (2 : Int32)), .val (.int (1 : Int32)), .unset, .unset, .unset] [(.int (2 : Int32))]
        refine own_istore G48 at_127 (L' := #[.val (.long q1), .second, .val (.long q2), .second, .val (.long q3), .second, .val (.long q4), .second, .val (.int p5), .val (.ref b39), .val (.int mm), .val (.int (1 : Int32)), .val (.int (0 : Int32)), .val (.int (1 : Int32)), .val (.int (2 : Int32)), .val (.int (1 : Int32)), .val (.int (2 : Int32)), .unset, .unset]) rfl ?_
        show ownGo _ _ _ _ _ _ _ T48 129 #[.val (.long q1), .second, .val (.long q2), .second, .val (.long q3), .second, .val (.long q4), .second, .val (.int p5), .val (.ref b39), .val (.int mm), .val (.int (1 : Int32)), .val (.int (0 : Int32)), .val (.int (1 : Int32)), .val (.int (2 : Int32)), .val (.int (1 : Int32)), .val (.int (2 : Int32)), .unset, .unset] []
        refine own_lloadN G48 at_129 rfl ?_
        show ownGo _ _ _ _ _ _ _ T48 130 #[.val (.long q1), .second, .val (.long q2), .second, .val (.long q3), .second, .val (.long q4), .second, .val (.int p5), .val (.ref b39), .val (.int mm), .val (.int (1 : Int32)), .val (.int (0 : Int32)), .val (.int (1 : Int32)), .val (.int (2 : Int32)), .val (.int (1 : Int32)), .val (.int (2 : Int32)), .unset, .unset] [(.long q2)]
        refine own_lload G48 at_130 rfl ?_
        show ownGo _ _ _ _ _ _ _ T48 132 #[.val (.long q1), .second, .val (.long q2), .second, .val (.long q3), .second, .val (.long q4), .second, .val (.int p5), .val (.ref b39), .val (.int mm), .val (.int (1 : Int32)), .val (.int (0 : Int32)), .val (.int (1 : Int32)), .val (.int (2 : Int32)), .val (.int (1 : Int32)), .val (.int (2 : Int32)), .unset, .unset] [(.long q4), (.long q2)]
        refine own_lcif_ne G48 at_132 at_133 (pc' := 142) (by decide) (by decide) (fun hc => ?_) (fun hc => False.elim (e2 hc))
        show ownGo _ _ _ _ _ _ _ T48 142 #[.val (.long q1), .second, .val (.long q2), .second, .val (.long q3), .second, .val (.long q4), .second, .val (.int p5), .val (.ref b39), .val (.int mm), .val (.int (1 : Int32)), .val (.int (0 : Int32)), .val (.int (1 : Int32)), .val (.int (2 : Int32)), .val (.int (1 : Int32)), .val (.int (2 : Int32)), .unset, .unset] []
        refine own_lloadN G48 at_142 rfl ?_
        show ownGo _ _ _ _ _ _ _ T48 143 #[.val (.long q1), .second, .val (.long q2), .second, .val (.long q3), .second, .val (.long q4), .second, .val (.int p5), .val (.ref b39), .val (.int mm), .val (.int (1 : Int32)), .val (.int (0 : Int32)), .val (.int (1 : Int32)), .val (.int (2 : Int32)), .val (.int (1 : Int32)), .val (.int (2 : Int32)), .unset, .unset] [(.long q2)]
        refine own_lloadN G48 at_143 rfl ?_
        show ownGo _ _ _ _ _ _ _ T48 144 #[.val (.long q1), .second, .val (.long q2), .second, .val (.long q3), .second, .val (.long q4), .second, .val (.int p5), .val (.ref b39), .val (.int mm), .val (.int (1 : Int32)), .val (.int (0 : Int32)), .val (.int (1 : Int32)), .val (.int (2 : Int32)), .val (.int (1 : Int32)), .val (.int (2 : Int32)), .unset, .unset] [(.long q1), (.long q2)]
        refine own_lcif_ne G48 at_144 at_145 (pc' := 155) (by decide) (by decide) (fun hc => ?_) (fun hc => False.elim (e3 hc))
        show ownGo _ _ _ _ _ _ _ T48 155 #[.val (.long q1), .second, .val (.long q2), .second, .val (.long q3), .second, .val (.long q4), .second, .val (.int p5), .val (.ref b39), .val (.int mm), .val (.int (1 : Int32)), .val (.int (0 : Int32)), .val (.int (1 : Int32)), .val (.int (2 : Int32)), .val (.int (1 : Int32)), .val (.int (2 : Int32)), .unset, .unset] []
        refine own_iload G48 at_155 rfl ?_
        show ownGo _ _ _ _ _ _ _ T48 157 #[.val (.long q1), .second, .val (.long q2), .second, .val (.long q3), .second, .val (.long q4), .second, .val (.int p5), .val (.ref b39), .val (.int mm), .val (.int (1 : Int32)), .val (.int (0 : Int32)), .val (.int (1 : Int32)), .val (.int (2 : Int32)), .val (.int (1 : Int32)), .val (.int (2 : Int32)), .unset, .unset] [(.int (2 : Int32))]
        refine own_istore G48 at_157 (L' := #[.val (.long q1), .second, .val (.long q2), .second, .val (.long q3), .second, .val (.long q4), .second, .val (.int p5), .val (.ref b39), .val (.int mm), .val (.int (1 : Int32)), .val (.int (0 : Int32)), .val (.int (1 : Int32)), .val (.int (2 : Int32)), .val (.int (1 : Int32)), .val (.int (2 : Int32)), .val (.int (2 : Int32)), .unset]) rfl ?_
        show ownGo _ _ _ _ _ _ _ T48 159 #[.val (.long q1), .second, .val (.long q2), .second, .val (.long q3), .second, .val (.long q4), .second, .val (.int p5), .val (.ref b39), .val (.int mm), .val (.int (1 : Int32)), .val (.int (0 : Int32)), .val (.int (1 : Int32)), .val (.int (2 : Int32)), .val (.int (1 : Int32)), .val (.int (2 : Int32)), .val (.int (2 : Int32)), .unset] []
        refine own_iload G48 at_159 rfl ?_
        show ownGo _ _ _ _ _ _ _ T48 161 #[.val (.long q1), .second, .val (.long q2), .second, .val (.long q3), .second, .val (.long q4), .second, .val (.int p5), .val (.ref b39), .val (.int mm), .val (.int (1 : Int32)), .val (.int (0 : Int32)), .val (.int (1 : Int32)), .val (.int (2 : Int32)), .val (.int (1 : Int32)), .val (.int (2 : Int32)), .val (.int (2 : Int32)), .unset] [(.int (1 : Int32))]
        refine own_if_eq G48 at_161 (pc' := 187) (by decide) (by decide) (fun hc => False.elim (absurd hc (by decide))) (fun hc => ?_)
        show ownGo _ _ _ _ _ _ _ T48 164 #[.val (.long q1), .second, .val (.long q2), .second, .val (.long q3), .second, .val (.long q4), .second, .val (.int p5), .val (.ref b39), .val (.int mm), .val (.int (1 : Int32)), .val (.int (0 : Int32)), .val (.int (1 : Int32)), .val (.int (2 : Int32)), .val (.int (1 : Int32)), .val (.int (2 : Int32)), .val (.int (2 : Int32)), .unset] []
        refine own_iload G48 at_164 rfl ?_
        show ownGo _ _ _ _ _ _ _ T48 166 #[.val (.long q1), .second, .val (.long q2), .second, .val (.long q3), .second, .val (.long q4), .second, .val (.int p5), .val (.ref b39), .val (.int mm), .val (.int (1 : Int32)), .val (.int (0 : Int32)), .val (.int (1 : Int32)), .val (.int (2 : Int32)), .val (.int (1 : Int32)), .val (.int (2 : Int32)), .val (.int (2 : Int32)), .unset] [(.int (0 : Int32))]
        refine own_if_ne G48 at_166 (pc' := 187) (by decide) (by decide) (fun hc => False.elim (absurd hc (by decide))) (fun hc => ?_)
        show ownGo _ _ _ _ _ _ _ T48 169 #[.val (.long q1), .second, .val (.long q2), .second, .val (.long q3), .second, .val (.long q4), .second, .val (.int p5), .val (.ref b39), .val (.int mm), .val (.int (1 : Int32)), .val (.int (0 : Int32)), .val (.int (1 : Int32)), .val (.int (2 : Int32)), .val (.int (1 : Int32)), .val (.int (2 : Int32)), .val (.int (2 : Int32)), .unset] []
        refine own_iload G48 at_169 rfl ?_
        show ownGo _ _ _ _ _ _ _ T48 171 #[.val (.long q1), .second, .val (.long q2), .second, .val (.long q3), .second, .val (.long q4), .second, .val (.int p5), .val (.ref b39), .val (.int mm), .val (.int (1 : Int32)), .val (.int (0 : Int32)), .val (.int (1 : Int32)), .val (.int (2 : Int32)), .val (.int (1 : Int32)), .val (.int (2 : Int32)), .val (.int (2 : Int32)), .unset] [(.int (1 : Int32))]
        refine own_iload G48 at_171 rfl ?_
        show ownGo _ _ _ _ _ _ _ T48 173 #[.val (.long q1), .second, .val (.long q2), .second, .val (.long q3), .second, .val (.long q4), .second, .val (.int p5), .val (.ref b39), .val (.int mm), .val (.int (1 : Int32)), .val (.int (0 : Int32)), .val (.int (1 : Int32)), .val (.int (2 : Int32)), .val (.int (1 : Int32)), .val (.int (2 : Int32)), .val (.int (2 : Int32)), .unset] [(.int (1 : Int32)), (.int (1 : Int32))]
        refine own_icmp_ne G48 at_173 (pc' := 187) (by decide) (by decide) (fun hc => False.elim (hc rfl)) (fun hc => ?_)
        show ownGo _ _ _ _ _ _ _ T48 176 #[.val (.long q1), .second, .val (.long q2), .second, .val (.long q3), .second, .val (.long q4), .second, .val (.int p5), .val (.ref b39), .val (.int mm), .val (.int (1 : Int32)), .val (.int (0 : Int32)), .val (.int (1 : Int32)), .val (.int (2 : Int32)), .val (.int (1 : Int32)), .val (.int (2 : Int32)), .val (.int (2 : Int32)), .unset] []
        refine own_iload G48 at_176 rfl ?_
        show ownGo _ _ _ _ _ _ _ T48 178 #[.val (.long q1), .second, .val (.long q2), .second, .val (.long q3), .second, .val (.long q4), .second, .val (.int p5), .val (.ref b39), .val (.int mm), .val (.int (1 : Int32)), .val (.int (0 : Int32)), .val (.int (1 : Int32)), .val (.int (2 : Int32)), .val (.int (1 : Int32)), .val (.int (2 : Int32)), .val (.int (2 : Int32)), .unset] [(.int (2 : Int32))]
        refine own_iload G48 at_178 rfl ?_
        show ownGo _ _ _ _ _ _ _ T48 180 #[.val (.long q1), .second, .val (.long q2), .second, .val (.long q3), .second, .val (.long q4), .second, .val (.int p5), .val (.ref b39), .val (.int mm), .val (.int (1 : Int32)), .val (.int (0 : Int32)), .val (.int (1 : Int32)), .val (.int (2 : Int32)), .val (.int (1 : Int32)), .val (.int (2 : Int32)), .val (.int (2 : Int32)), .unset] [(.int (2 : Int32)), (.int (2 : Int32))]
        refine own_icmp_ne G48 at_180 (pc' := 187) (by decide) (by decide) (fun hc => False.elim (hc rfl)) (fun hc => ?_)
        show ownGo _ _ _ _ _ _ _ T48 183 #[.val (.long q1), .second, .val (.long q2), .second, .val (.long q3), .second, .val (.long q4), .second, .val (.int p5), .val (.ref b39), .val (.int mm), .val (.int (1 : Int32)), .val (.int (0 : Int32)), .val (.int (1 : Int32)), .val (.int (2 : Int32)), .val (.int (1 : Int32)), .val (.int (2 : Int32)), .val (.int (2 : Int32)), .unset] []
        refine own_iconst G48 at_183 ?_
        show ownGo _ _ _ _ _ _ _ T48 184 #[.val (.long q1), .second, .val (.long q2), .second, .val (.long q3), .second, .val (.long q4), .second, .val (.int p5), .val (.ref b39), .val (.int mm), .val (.int (1 : Int32)), .val (.int (0 : Int32)), .val (.int (1 : Int32)), .val (.int (2 : Int32)), .val (.int (1 : Int32)), .val (.int (2 : Int32)), .val (.int (2 : Int32)), .unset] [(.int (1 : Int32))]
        refine own_goto G48 at_184 (pc' := 188) (by decide) (by decide) ?_
        show ownGo _ _ _ _ _ _ _ T48 188 #[.val (.long q1), .second, .val (.long q2), .second, .val (.long q3), .second, .val (.long q4), .second, .val (.int p5), .val (.ref b39), .val (.int mm), .val (.int (1 : Int32)), .val (.int (0 : Int32)), .val (.int (1 : Int32)), .val (.int (2 : Int32)), .val (.int (1 : Int32)), .val (.int (2 : Int32)), .val (.int (2 : Int32)), .unset] [(.int (1 : Int32))]
        refine own_istore G48 at_188 (L' := #[.val (.long q1), .second, .val (.long q2), .second, .val (.long q3), .second, .val (.long q4), .second, .val (.int p5), .val (.ref b39), .val (.int mm), .val (.int (1 : Int32)), .val (.int (0 : Int32)), .val (.int (1 : Int32)), .val (.int (2 : Int32)), .val (.int (1 : Int32)), .val (.int (2 : Int32)), .val (.int (2 : Int32)), .unset]) rfl ?_
        show ownGo _ _ _ _ _ _ _ T48 190 #[.val (.long q1), .second, .val (.long q2), .second, .val (.long q3), .second, .val (.long q4), .second, .val (.int p5), .val (.ref b39), .val (.int mm), .val (.int (1 : Int32)), .val (.int (0 : Int32)), .val (.int (1 : Int32)), .val (.int (2 : Int32)), .val (.int (1 : Int32)), .val (.int (2 : Int32)), .val (.int (2 : Int32)), .unset] []
        exact j190 _ _ _ _ _ _ _ _ ([q4, q1] ++ [q2]) (own_more G48 (by decide) (by decide)) Y V
  have j42 : ∀ (T : State) (h : Heap) (ks : List Int64), ownSt p l e room_1 s m #[(.long q1), (.long q2), (.long q3), (.long q4), (.int p5)] below meth c Z n0 "com/example/termite/termite/engine/LongIndexClearPinLaw" code maxLocals ret "law" T h 4 25 → n0 ≤ h.size → ownS Z h b39 ke nu sl ks → ks.length ≤ 2 → ownGo p e m below n0 (ownEnd s room_1) (fun v h => v = some (.int 1)) T 42 #[.val (.long q1), .second, .val (.long q2), .second, .val (.long q3), .second, .val (.long q4), .second, .val (.int p5), .val (.ref b39), .val (.int mm), .unset, .unset, .unset, .unset, .unset, .unset, .unset, .unset] [] := by
    intro T h ks G Y V hl
    show ownGo _ _ _ _ _ _ _ T 42 #[.val (.long q1), .second, .val (.long q2), .second, .val (.long q3), .second, .val (.long q4), .second, .val (.int p5), .val (.ref b39), .val (.int mm), .unset, .unset, .unset, .unset, .unset, .unset, .unset, .unset] []
    refine own_iload G at_42 rfl ?_
    show ownGo _ _ _ _ _ _ _ T 44 #[.val (.long q1), .second, .val (.long q2), .second, .val (.long q3), .second, .val (.long q4), .second, .val (.int p5), .val (.ref b39), .val (.int mm), .unset, .unset, .unset, .unset, .unset, .unset, .unset, .unset] [(.int mm)]
    refine own_iconst G at_44 ?_
    show ownGo _ _ _ _ _ _ _ T 45 #[.val (.long q1), .second, .val (.long q2), .second, .val (.long q3), .second, .val (.long q4), .second, .val (.int p5), .val (.ref b39), .val (.int mm), .unset, .unset, .unset, .unset, .unset, .unset, .unset, .unset] [(.int (3 : Int32)), (.int mm)]
    refine own_icmp_lt G at_45 (pc' := 56) (by decide) (by decide) (fun hc => ?_) (fun hc => ?_)
    · show ownGo _ _ _ _ _ _ _ T 56 #[.val (.long q1), .second, .val (.long q2), .second, .val (.long q3), .second, .val (.long q4), .second, .val (.int p5), .val (.ref b39), .val (.int mm), .unset, .unset, .unset, .unset, .unset, .unset, .unset, .unset] []
      exact j56 _ _ ks G Y V
    · show ownGo _ _ _ _ _ _ _ T 48 #[.val (.long q1), .second, .val (.long q2), .second, .val (.long q3), .second, .val (.long q4), .second, .val (.int p5), .val (.ref b39), .val (.int mm), .unset, .unset, .unset, .unset, .unset, .unset, .unset, .unset] []
      refine own_aload G at_48 rfl rfl ?_
      show ownGo _ _ _ _ _ _ _ T 50 #[.val (.long q1), .second, .val (.long q2), .second, .val (.long q3), .second, .val (.long q4), .second, .val (.int p5), .val (.ref b39), .val (.int mm), .unset, .unset, .unset, .unset, .unset, .unset, .unset, .unset] [(.ref b39)]
      refine own_lload G at_50 rfl ?_
      show ownGo _ _ _ _ _ _ _ T 52 #[.val (.long q1), .second, .val (.long q2), .second, .val (.long q3), .second, .val (.long q4), .second, .val (.int p5), .val (.ref b39), .val (.int mm), .unset, .unset, .unset, .unset, .unset, .unset, .unset, .unset] [(.long q3), (.ref b39)]
      refine own_virtual G at_52 (y := (⟨"com/example/termite/termite/engine/LongIndex", "number", "(J)I"⟩ : MethodName)) (hw _ (List.mem_of_getElem? (i := 30) rfl)) (hw _ (List.mem_of_getElem? (i := 31) rfl)) (hw _ (List.mem_of_getElem? (i := 33) rfl)) (hw _ (List.mem_of_getElem? (i := 32) rfl)) (hw _ (List.mem_of_getElem? (i := 2) rfl)) (hw _ (List.mem_of_getElem? (i := 34) rfl)) (by decide) (a := b39) (argsL := [(.long q3)]) (rest := []) V.exa (rmNum l Z a0 hw b39 q3 ke nu sl ks h n0 Y V N (fun _ => by omega)) rfl rfl rfl (lenOf pd_4 rfl) (W := 0) (Nat.le_of_eq rfl) (by decide) (by decide) (by decide) (by decide) ?_
      intro v49 T49 h49 hq49 G49
      obtain ⟨Y', ⟨i, hi, rfl, V'⟩ | ⟨hi, rfl, V'⟩⟩ := hq49
      · show ownGo _ _ _ _ _ _ _ T49 55 #[.val (.long q1), .second, .val (.long q2), .second, .val (.long q3), .second, .val (.long q4), .second, .val (.int p5), .val (.ref b39), .val (.int mm), .unset, .unset, .unset, .unset, .unset, .unset, .unset, .unset] [(.int (Int32.ofNat i))]
        refine own_pop G49 at_55 rfl ?_
        show ownGo _ _ _ _ _ _ _ T49 56 #[.val (.long q1), .second, .val (.long q2), .second, .val (.long q3), .second, .val (.long q4), .second, .val (.int p5), .val (.ref b39), .val (.int mm), .unset, .unset, .unset, .unset, .unset, .unset, .unset, .unset] []
        exact j56 _ _ ks (own_more G49 (by decide) (by decide)) Y' V'
      · show ownGo _ _ _ _ _ _ _ T49 55 #[.val (.long q1), .second, .val (.long q2), .second, .val (.long q3), .second, .val (.long q4), .second, .val (.int p5), .val (.ref b39), .val (.int mm), .unset, .unset, .unset, .unset, .unset, .unset, .unset, .unset] [(.int (Int32.ofNat ks.length))]
        refine own_pop G49 at_55 rfl ?_
        show ownGo _ _ _ _ _ _ _ T49 56 #[.val (.long q1), .second, .val (.long q2), .second, .val (.long q3), .second, .val (.long q4), .second, .val (.int p5), .val (.ref b39), .val (.int mm), .unset, .unset, .unset, .unset, .unset, .unset, .unset, .unset] []
        exact j56 _ _ (ks ++ [q3]) (own_more G49 (by decide) (by decide)) Y' V'
  have j29 : ∀ (T : State) (h : Heap) (ks : List Int64), ownSt p l e room_1 s m #[(.long q1), (.long q2), (.long q3), (.long q4), (.int p5)] below meth c Z n0 "com/example/termite/termite/engine/LongIndexClearPinLaw" code maxLocals ret "law" T h 4 25 → n0 ≤ h.size → ownS Z h b39 ke nu sl ks → ks.length ≤ 1 → ownGo p e m below n0 (ownEnd s room_1) (fun v h => v = some (.int 1)) T 29 #[.val (.long q1), .second, .val (.long q2), .second, .val (.long q3), .second, .val (.long q4), .second, .val (.int p5), .val (.ref b39), .val (.int mm), .unset, .unset, .unset, .unset, .unset, .unset, .unset, .unset] [] := by
    intro T h ks G Y V hl
    show ownGo _ _ _ _ _ _ _ T 29 #[.val (.long q1), .second, .val (.long q2), .second, .val (.long q3), .second, .val (.long q4), .second, .val (.int p5), .val (.ref b39), .val (.int mm), .unset, .unset, .unset, .unset, .unset, .unset, .unset, .unset] []
    refine own_iload G at_29 rfl ?_
    show ownGo _ _ _ _ _ _ _ T 31 #[.val (.long q1), .second, .val (.long q2), .second, .val (.long q3), .second, .val (.long q4), .second, .val (.int p5), .val (.ref b39), .val (.int mm), .unset, .unset, .unset, .unset, .unset, .unset, .unset, .unset] [(.int mm)]
    refine own_iconst G at_31 ?_
    show ownGo _ _ _ _ _ _ _ T 32 #[.val (.long q1), .second, .val (.long q2), .second, .val (.long q3), .second, .val (.long q4), .second, .val (.int p5), .val (.ref b39), .val (.int mm), .unset, .unset, .unset, .unset, .unset, .unset, .unset, .unset] [(.int (2 : Int32)), (.int mm)]
    refine own_icmp_lt G at_32 (pc' := 42) (by decide) (by decide) (fun hc => ?_) (fun hc => ?_)
    · show ownGo _ _ _ _ _ _ _ T 42 #[.val (.long q1), .second, .val (.long q2), .second, .val (.long q3), .second, .val (.long q4), .second, .val (.int p5), .val (.ref b39), .val (.int mm), .unset, .unset, .unset, .unset, .unset, .unset, .unset, .unset] []
      exact j42 _ _ ks G Y V (by omega)
    · show ownGo _ _ _ _ _ _ _ T 35 #[.val (.long q1), .second, .val (.long q2), .second, .val (.long q3), .second, .val (.long q4), .second, .val (.int p5), .val (.ref b39), .val (.int mm), .unset, .unset, .unset, .unset, .unset, .unset, .unset, .unset] []
      refine own_aload G at_35 rfl rfl ?_
      show ownGo _ _ _ _ _ _ _ T 37 #[.val (.long q1), .second, .val (.long q2), .second, .val (.long q3), .second, .val (.long q4), .second, .val (.int p5), .val (.ref b39), .val (.int mm), .unset, .unset, .unset, .unset, .unset, .unset, .unset, .unset] [(.ref b39)]
      refine own_lloadN G at_37 rfl ?_
      show ownGo _ _ _ _ _ _ _ T 38 #[.val (.long q1), .second, .val (.long q2), .second, .val (.long q3), .second, .val (.long q4), .second, .val (.int p5), .val (.ref b39), .val (.int mm), .unset, .unset, .unset, .unset, .unset, .unset, .unset, .unset] [(.long q2), (.ref b39)]
      refine own_virtual G at_38 (y := (⟨"com/example/termite/termite/engine/LongIndex", "number", "(J)I"⟩ : MethodName)) (hw _ (List.mem_of_getElem? (i := 30) rfl)) (hw _ (List.mem_of_getElem? (i := 31) rfl)) (hw _ (List.mem_of_getElem? (i := 33) rfl)) (hw _ (List.mem_of_getElem? (i := 32) rfl)) (hw _ (List.mem_of_getElem? (i := 2) rfl)) (hw _ (List.mem_of_getElem? (i := 34) rfl)) (by decide) (a := b39) (argsL := [(.long q2)]) (rest := []) V.exa (rmNum l Z a0 hw b39 q2 ke nu sl ks h n0 Y V N (fun _ => by omega)) rfl rfl rfl (lenOf pd_4 rfl) (W := 0) (Nat.le_of_eq rfl) (by decide) (by decide) (by decide) (by decide) ?_
      intro v50 T50 h50 hq50 G50
      obtain ⟨Y', ⟨i, hi, rfl, V'⟩ | ⟨hi, rfl, V'⟩⟩ := hq50
      · show ownGo _ _ _ _ _ _ _ T50 41 #[.val (.long q1), .second, .val (.long q2), .second, .val (.long q3), .second, .val (.long q4), .second, .val (.int p5), .val (.ref b39), .val (.int mm), .unset, .unset, .unset, .unset, .unset, .unset, .unset, .unset] [(.int (Int32.ofNat i))]
        refine own_pop G50 at_41 rfl ?_
        show ownGo _ _ _ _ _ _ _ T50 42 #[.val (.long q1), .second, .val (.long q2), .second, .val (.long q3), .second, .val (.long q4), .second, .val (.int p5), .val (.ref b39), .val (.int mm), .unset, .unset, .unset, .unset, .unset, .unset, .unset, .unset] []
        exact j42 _ _ ks (own_more G50 (by decide) (by decide)) Y' V' (by omega)
      · show ownGo _ _ _ _ _ _ _ T50 41 #[.val (.long q1), .second, .val (.long q2), .second, .val (.long q3), .second, .val (.long q4), .second, .val (.int p5), .val (.ref b39), .val (.int mm), .unset, .unset, .unset, .unset, .unset, .unset, .unset, .unset] [(.int (Int32.ofNat ks.length))]
        refine own_pop G50 at_41 rfl ?_
        show ownGo _ _ _ _ _ _ _ T50 42 #[.val (.long q1), .second, .val (.long q2), .second, .val (.long q3), .second, .val (.long q4), .second, .val (.int p5), .val (.ref b39), .val (.int mm), .unset, .unset, .unset, .unset, .unset, .unset, .unset, .unset] []
        exact j42 _ _ (ks ++ [q2]) (own_more G50 (by decide) (by decide)) Y' V' (by simp; omega)
  show ownGo _ _ _ _ _ _ _ T40 19 #[.val (.long q1), .second, .val (.long q2), .second, .val (.long q3), .second, .val (.long q4), .second, .val (.int p5), .val (.ref b39), .val (.int mm), .unset, .unset, .unset, .unset, .unset, .unset, .unset, .unset] [(.int (1 : Int32)), (.int mm)]
  refine own_icmp_lt G40 at_19 (pc' := 29) (by decide) (by decide) (fun hc => ?_) (fun hc => ?_)
  · show ownGo _ _ _ _ _ _ _ T40 29 #[.val (.long q1), .second, .val (.long q2), .second, .val (.long q3), .second, .val (.long q4), .second, .val (.int p5), .val (.ref b39), .val (.int mm), .unset, .unset, .unset, .unset, .unset, .unset, .unset, .unset] []
    exact j29 _ _ [] (own_more G40 (by decide) (by decide)) Y V (by simp)
  · show ownGo _ _ _ _ _ _ _ T40 22 #[.val (.long q1), .second, .val (.long q2), .second, .val (.long q3), .second, .val (.long q4), .second, .val (.int p5), .val (.ref b39), .val (.int mm), .unset, .unset, .unset, .unset, .unset, .unset, .unset, .unset] []
    refine own_aload G40 at_22 rfl rfl ?_
    show ownGo _ _ _ _ _ _ _ T40 24 #[.val (.long q1), .second, .val (.long q2), .second, .val (.long q3), .second, .val (.long q4), .second, .val (.int p5), .val (.ref b39), .val (.int mm), .unset, .unset, .unset, .unset, .unset, .unset, .unset, .unset] [(.ref b39)]
    refine own_lloadN G40 at_24 rfl ?_
    show ownGo _ _ _ _ _ _ _ T40 25 #[.val (.long q1), .second, .val (.long q2), .second, .val (.long q3), .second, .val (.long q4), .second, .val (.int p5), .val (.ref b39), .val (.int mm), .unset, .unset, .unset, .unset, .unset, .unset, .unset, .unset] [(.long q1), (.ref b39)]
    refine own_virtual G40 at_25 (y := (⟨"com/example/termite/termite/engine/LongIndex", "number", "(J)I"⟩ : MethodName)) (hw _ (List.mem_of_getElem? (i := 30) rfl)) (hw _ (List.mem_of_getElem? (i := 31) rfl)) (hw _ (List.mem_of_getElem? (i := 33) rfl)) (hw _ (List.mem_of_getElem? (i := 32) rfl)) (hw _ (List.mem_of_getElem? (i := 2) rfl)) (hw _ (List.mem_of_getElem? (i := 34) rfl)) (by decide) (a := b39) (argsL := [(.long q1)]) (rest := []) V.exa (rmNum l Z a0 hw b39 q1 ke nu sl [] h40 n0 Y V N (fun _ => by simp)) rfl rfl rfl (lenOf pd_4 rfl) (W := 0) (Nat.le_of_eq rfl) (by decide) (by decide) (by decide) (by decide) ?_
    intro v51 T51 h51 hq51 G51
    obtain ⟨Y', ⟨i, hi, -⟩ | ⟨-, rfl, V'⟩⟩ := hq51
    · simp at hi
    show ownGo _ _ _ _ _ _ _ T51 28 #[.val (.long q1), .second, .val (.long q2), .second, .val (.long q3), .second, .val (.long q4), .second, .val (.int p5), .val (.ref b39), .val (.int mm), .unset, .unset, .unset, .unset, .unset, .unset, .unset, .unset] [(.int (0 : Int32))]
    refine own_pop G51 at_28 rfl ?_
    show ownGo _ _ _ _ _ _ _ T51 29 #[.val (.long q1), .second, .val (.long q2), .second, .val (.long q3), .second, .val (.long q4), .second, .val (.int p5), .val (.ref b39), .val (.int mm), .unset, .unset, .unset, .unset, .unset, .unset, .unset, .unset] []
    exact j29 _ _ ([] ++ [q1]) (own_more G51 (by decide) (by decide)) Y' V' (by simp)
set_option maxRecDepth 65536 in
set_option maxHeartbeats 40000000 in
theorem comes_1 {Post : Tables → Env → Array Value → State → Outcome → State → Prop} (hpost : ∀ tb e args s v u, (limb_1_1.after args s (.returned v) u = true ∧ limb_1_2.after args s (.returned v) u = true ∧ True) → FrameEnd s (.returned v) u (Jvm.fieldLocs frame_1_writes args s ++ Jvm.arrayLocs frame_1_arrays args s ++ Jvm.staticLocs frame_1_statics s) 16 128 → Post tb e args s (.returned v) u) :
    ArmFor flags0 classFile x code maxLocals ret World_1 tables_1 room_1 Calls_1 rest_1 Pre_1 Post := by
  intro l hfl _ _ p e ha hc hk s m args below hf hA hF happ hP
  obtain ⟨hcalls, hrest, hpre⟩ := hP
  obtain ⟨-, -, -, hnamed, -, -, -, hat⟩ := (Spec.applies_iff hf).mp happ
  obtain ⟨hg, hn⟩ := and_e (Cond.before_iff.mp (show (Jvm.Cond.and given_1 narrow_1).before args s = true from hpre))
  obtain ⟨g1, g2⟩ := and_e hg
  obtain ⟨g3, g4⟩ := and_e g2
  obtain ⟨g5, g6⟩ := and_e g4
  obtain ⟨g7, g8⟩ := and_e g6
  obtain ⟨g9, g10⟩ := and_e g8
  obtain ⟨w0, w1, w2, w3, w4, rfl⟩ : ∃ w0 w1 w2 w3 w4 : Value, args = #[w0, w1, w2, w3, w4] := by
    have hs : args.size = 5 := by simpa [Cond.value, given_1] using g1
    obtain ⟨L⟩ := args
    match L, hs with
    | [w0, w1, w2, w3, w4], _ => exact ⟨w0, w1, w2, w3, w4, rfl⟩
  have hw := fun d (hd : d ∈ tables_1) => atoms_spec (ws := Jvm.Cond.code x code maxLocals ret :: tables_1) hat d (List.mem_cons_of_mem _ hd)
  have hfit : Fit s := fun {y c} hc i hi => by
    obtain ⟨ha, rfl⟩ := Array.getElem?_eq_some_iff.mp hc
    have q := List.all_eq_true.mp ((Array.all_eq_true_iff_forall_mem.mp hF) _ (Array.getElem_mem ha)) i (List.mem_range.mpr hi)
    simpa [Array.getElem?_eq_getElem hi] using q
  obtain ⟨i0, ei0⟩ := isL_v g3
  obtain rfl : w0 = (.long i0) := Option.some.inj ei0
  obtain ⟨i1, ei1⟩ := isL_v g5
  obtain rfl : w1 = (.long i1) := Option.some.inj ei1
  obtain ⟨i2, ei2⟩ := isL_v g7
  obtain rfl : w2 = (.long i2) := Option.some.inj ei2
  obtain ⟨i3, ei3⟩ := isL_v g9
  obtain rfl : w3 = (.long i3) := Option.some.inj ei3
  obtain ⟨i4, ei4⟩ := is_v g10
  obtain rfl : w4 = (.int i4) := Option.some.inj ei4
  obtain ⟨n, o, h1, h2, h3, _, L, rfl, ⟨rfl, N⟩, hq⟩ := rm0 l s _ hw i0 i1 i2 i3 i4 s.heap s.heap.size (Nat.le_refl _) p e ha hc hk s m _ below hf ((Spec.applies_iff_loose hf).mp happ).1 ⟨rfl, State.Warmed39.refl s, rfl⟩ trivial
  refine ⟨n, _, h1, h2, h3, hpost _ _ _ _ _ _ ⟨Cond.after_iff.mpr rfl, Cond.after_iff.mpr (eq_i res_at (Term.int_eval (1)) rfl), trivial⟩ ⟨hq.1, hq.2.1, (hq.2.2.sift fun y hy => Or.inr (N y hy)).mono (by decide) (by decide)⟩⟩
theorem main_1_1 : Claimed_1_1 := comes_1 fun _ _ _ _ _ _ h hF => ⟨h.1, hF⟩
theorem main_1_2 : Claimed_1_2 := comes_1 fun _ _ _ _ _ _ h hF => ⟨h.2.1, hF⟩
end Jvm.Pilot.@@N@@
namespace Jvm.Pilot.@@N@@
open Jvm Jvm.ClassFile Sem Op Lib Jvm.Free Jvm.Stand Jvm.Pilot.@@N@@.Jvm.D
/-! MADE BY PROGRAM (witnessworld.py) out of the Statement's table words and the real class files: 17 classes; the members and pool entries that the words name. The judged class is class 1, her method 1. -/
namespace start1
open Jvm.ClassFile
def u (s : String) : CpInfo := .utf8 (stringToUtf16 s)
/-- a pool by its gaps: so many unusable entries, then the entry; so many at the end -/
def gap : Nat → List CpInfo → List CpInfo
  | 0, r => r
  | n + 1, r => .unusable :: gap n r
def poolList (es : List (Nat × CpInfo)) (last : Nat) : List CpInfo := es.foldr (fun e r => gap e.1 (e.2 :: r)) (gap last [])
def pool (es : List (Nat × CpInfo)) (last : Nat) : Array CpInfo := ⟨poolList es last⟩
def fileOf (pool : Array CpInfo) (this : Nat) (attrs : Array Attribute := #[]) (ms : Array MethodInfo := #[]) (fl : Nat := 33) (sup : Nat := 0) (ifs : Array Nat := #[]) (fds : Array FieldInfo := #[]) : ClassFile where
  minorVersion := 0
  majorVersion := 65
  constantPool := pool
  accessFlags := fl
  thisClass := this
  superClass := sup
  interfaces := ifs
  fields := fds
  methods := ms
  attributes := attrs
def plain (name : String) (sup : Option ClassId) : Class where
  name := name
  kind := .ordinary
  loader := none
  accessFlags := 33
  super := sup
  interfaces := #[]
  cf := none
  fields := #[]
  methods := #[]
  instanceTypes := #[]
  staticTypes := #[]
  resolved := #[]
  callSites := []
  init := .initialized
  statics := none
  mirror := none

def pool0 : Array CpInfo := pool [(5, u "<init>"), (0, u "()V"), (1, .class_ 10), (1, u "java/lang/Object")] 113

def k0c0 : Code := { maxStack := 0, maxLocals := 1, code := object_method_1_code, exceptionTable := #[], attributes := #[] }
def k0m0 : Method := { name := "<init>", desc := "()V", sig := { parameters := [], returnType := none }, accessFlags := 1, code := some k0c0 }
/-- java/lang/Object -/
def k0 : Class := { plain "java/lang/Object" none with
  accessFlags := 33
  interfaces := #[]
  cf := some (fileOf pool0 8 #[] #[{ accessFlags := 1, nameIndex := 5, descriptorIndex := 6, attributes := #[] }] 33 0 #[] #[])
  fields := #[]
  methods := #[k0m0]
  instanceTypes := #[]
  staticTypes := #[]
  resolved := Array.replicate 124 none
  statics := none }

def pool1 : Array CpInfo := pool [(2, .class_ 4), (1, u "java/lang/Object"), (0, u "<init>"), (0, u "()V"), (0, .class_ 8), (0, u "com/example/termite/termite/engine/LongIndex"), (0, .methodref 7 10), (0, .nameAndType 5 11), (0, u "(I)V"), (0, .methodref 7 13), (0, .nameAndType 14 15), (0, u "number"), (0, u "(J)I"), (0, .methodref 7 17), (0, .nameAndType 18 6), (0, u "clear"), (0, .methodref 7 20), (0, .nameAndType 21 22), (0, u "size"), (0, u "()I"), (0, .class_ 24), (0, u "com/example/termite/termite/engine/LongIndexClearPinLaw"), (2, u "law"), (0, u "(JJJJI)Z")] 3

def k1m0 : Method := { name := "<init>", desc := "()V", sig := { parameters := [], returnType := none }, accessFlags := 1, code := none }
def k1c1 : Code := { maxStack := 4, maxLocals := 19, code := code, exceptionTable := #[], attributes := #[] }
def k1m1 : Method := { name := "law", desc := "(JJJJI)Z", sig := { parameters := [.long, .long, .long, .long, .int], returnType := some .boolean }, accessFlags := 9, code := some k1c1 }
/-- com/example/termite/termite/engine/LongIndexClearPinLaw -/
def k1 : Class := { plain "com/example/termite/termite/engine/LongIndexClearPinLaw" (some 0) with
  accessFlags := 49
  interfaces := #[]
  cf := some (fileOf pool1 23 #[] #[{ accessFlags := 1, nameIndex := 5, descriptorIndex := 6, attributes := #[] }, { accessFlags := 9, nameIndex := 27, descriptorIndex := 28, attributes := #[] }] 49 2 #[] #[])
  fields := #[]
  methods := #[k1m0, k1m1]
  instanceTypes := #[]
  staticTypes := #[]
  resolved := Array.replicate 32 none
  statics := none }

def pool2 : Array CpInfo := pool [(1, .methodref 2 3), (0, .class_ 4), (0, .nameAndType 5 6), (0, u "java/lang/Object"), (0, u "<init>"), (0, u "()V"), (0, .methodref 8 9), (0, .class_ 10), (0, .nameAndType 11 12), (0, u "java/lang/Math"), (0, u "max"), (0, u "(II)I"), (0, .methodref 14 15), (0, .class_ 16), (0, .nameAndType 17 18), (0, u "java/lang/Integer"), (0, u "numberOfLeadingZeros"), (0, u "(I)I"), (0, .fieldref 20 21), (0, .class_ 22), (0, .nameAndType 23 24), (0, u "com/example/termite/termite/engine/LongIndex"), (0, u "keys"), (0, u "[J"), (0, .fieldref 20 26), (0, .nameAndType 27 28), (0, u "numbers"), (0, u "[I"), (0, .fieldref 20 30), (0, .nameAndType 31 32), (0, u "shift"), (0, u "I"), (0, .fieldref 20 34), (0, .nameAndType 35 28), (0, u "slots"), (0, .fieldref 20 37), (0, .nameAndType 38 32), (0, u "capacity"), (0, .long 11400714819323198485), (1, .fieldref 20 42), (0, .nameAndType 43 32), (0, u "size"), (9, u "(I)V"), (2, u "number"), (0, u "(J)I"), (1, u "()I"), (0, u "clear")] 17

def k2c0 : Code := { maxStack := 4, maxLocals := 3, code := prog_24_method_1_code, exceptionTable := #[], attributes := #[] }
def k2m0 : Method := { name := "<init>", desc := "(I)V", sig := { parameters := [.int], returnType := none }, accessFlags := 0, code := some k2c0 }
def k2c1 : Code := { maxStack := 4, maxLocals := 5, code := prog_24_method_2_code, exceptionTable := #[], attributes := #[] }
def k2m1 : Method := { name := "number", desc := "(J)I", sig := { parameters := [.long], returnType := some .int }, accessFlags := 0, code := some k2c1 }
def k2c2 : Code := { maxStack := 1, maxLocals := 1, code := prog_24_method_3_code, exceptionTable := #[], attributes := #[] }
def k2m2 : Method := { name := "size", desc := "()I", sig := { parameters := [], returnType := some .int }, accessFlags := 0, code := some k2c2 }
def k2c3 : Code := { maxStack := 3, maxLocals := 2, code := prog_24_method_4_code, exceptionTable := #[], attributes := #[] }
def k2m3 : Method := { name := "clear", desc := "()V", sig := { parameters := [], returnType := none }, accessFlags := 0, code := some k2c3 }
/-- com/example/termite/termite/engine/LongIndex -/
def k2 : Class := { plain "com/example/termite/termite/engine/LongIndex" (some 0) with
  accessFlags := 32
  interfaces := #[]
  cf := some (fileOf pool2 20 #[] #[{ accessFlags := 0, nameIndex := 5, descriptorIndex := 53, attributes := #[] }, { accessFlags := 0, nameIndex := 56, descriptorIndex := 57, attributes := #[] }, { accessFlags := 0, nameIndex := 43, descriptorIndex := 59, attributes := #[] }, { accessFlags := 0, nameIndex := 60, descriptorIndex := 6, attributes := #[] }] 32 2 #[] #[{ accessFlags := 18, nameIndex := 23, descriptorIndex := 24, attributes := #[] }, { accessFlags := 18, nameIndex := 27, descriptorIndex := 28, attributes := #[] }, { accessFlags := 18, nameIndex := 35, descriptorIndex := 28, attributes := #[] }, { accessFlags := 18, nameIndex := 31, descriptorIndex := 32, attributes := #[] }, { accessFlags := 18, nameIndex := 38, descriptorIndex := 32, attributes := #[] }, { accessFlags := 2, nameIndex := 43, descriptorIndex := 32, attributes := #[] }])
  fields := #[{ name := "keys", type := (.array .long), accessFlags := 18, slot := 0, constantValue := 0 }, { name := "numbers", type := (.array .int), accessFlags := 18, slot := 1, constantValue := 0 }, { name := "slots", type := (.array .int), accessFlags := 18, slot := 2, constantValue := 0 }, { name := "shift", type := .int, accessFlags := 18, slot := 3, constantValue := 0 }, { name := "capacity", type := .int, accessFlags := 18, slot := 4, constantValue := 0 }, { name := "size", type := .int, accessFlags := 2, slot := 5, constantValue := 0 }]
  methods := #[k2m0, k2m1, k2m2, k2m3]
  instanceTypes := #[(.array .long), (.array .int), (.array .int), .int, .int, .int]
  staticTypes := #[]
  resolved := Array.replicate 78 none
  statics := none }

def pool3 : Array CpInfo := pool [(1, .class_ 2), (0, u "java/lang/Math"), (1, .class_ 6), (1, u "java/lang/Object"), (0, u "<init>"), (0, u "()V"), (89, .class_ 100), (1, u "java/lang/Math$RandomNumberGeneratorHolder"), (71, u "negativeZeroFloatBits"), (0, u "J"), (2, u "negativeZeroDoubleBits"), (21, u "max"), (46, u "$assertionsDisabled"), (0, u "Z"), (88, u "(II)I"), (2, u "twoToTheDoubleScaleDown"), (0, u "D"), (4, u "twoToTheDoubleScaleUp"), (9, u "E"), (3, u "PI"), (2, u "TAU"), (2, u "DEGREES_TO_RADIANS"), (0, u "RADIANS_TO_DEGREES")] 94

def k3m0 : Method := { name := "<init>", desc := "()V", sig := { parameters := [], returnType := none }, accessFlags := 2, code := none }
def k3c1 : Code := { maxStack := 2, maxLocals := 2, code := jdk_29_method_65_code, exceptionTable := #[], attributes := #[] }
def k3m1 : Method := { name := "max", desc := "(II)I", sig := { parameters := [.int, .int], returnType := some .int }, accessFlags := 9, code := some k3c1 }
/-- java/lang/Math -/
def k3 : Class := { plain "java/lang/Math" (some 0) with
  accessFlags := 49
  interfaces := #[]
  cf := some (fileOf pool3 1 #[.nestMembers #[98]] #[{ accessFlags := 2, nameIndex := 7, descriptorIndex := 8, attributes := #[] }, { accessFlags := 9, nameIndex := 198, descriptorIndex := 335, attributes := #[] }] 49 4 #[] #[{ accessFlags := 25, nameIndex := 354, descriptorIndex := 339, attributes := #[] }, { accessFlags := 25, nameIndex := 358, descriptorIndex := 339, attributes := #[] }, { accessFlags := 25, nameIndex := 361, descriptorIndex := 339, attributes := #[] }, { accessFlags := 26, nameIndex := 364, descriptorIndex := 339, attributes := #[] }, { accessFlags := 26, nameIndex := 365, descriptorIndex := 339, attributes := #[] }, { accessFlags := 26, nameIndex := 172, descriptorIndex := 173, attributes := #[] }, { accessFlags := 26, nameIndex := 176, descriptorIndex := 173, attributes := #[] }, { accessFlags := 8, nameIndex := 344, descriptorIndex := 339, attributes := #[] }, { accessFlags := 8, nameIndex := 338, descriptorIndex := 339, attributes := #[] }, { accessFlags := 4120, nameIndex := 245, descriptorIndex := 246, attributes := #[] }])
  fields := #[{ name := "E", type := .double, accessFlags := 25, slot := 0, constantValue := 0 }, { name := "PI", type := .double, accessFlags := 25, slot := 1, constantValue := 0 }, { name := "TAU", type := .double, accessFlags := 25, slot := 2, constantValue := 0 }, { name := "DEGREES_TO_RADIANS", type := .double, accessFlags := 26, slot := 3, constantValue := 0 }, { name := "RADIANS_TO_DEGREES", type := .double, accessFlags := 26, slot := 4, constantValue := 0 }, { name := "negativeZeroFloatBits", type := .long, accessFlags := 26, slot := 5, constantValue := 0 }, { name := "negativeZeroDoubleBits", type := .long, accessFlags := 26, slot := 6, constantValue := 0 }, { name := "twoToTheDoubleScaleUp", type := .double, accessFlags := 8, slot := 7, constantValue := 0 }, { name := "twoToTheDoubleScaleDown", type := .double, accessFlags := 8, slot := 8, constantValue := 0 }, { name := "$assertionsDisabled", type := .boolean, accessFlags := 4120, slot := 9, constantValue := 0 }]
  methods := #[k3m0, k3m1]
  instanceTypes := #[]
  staticTypes := #[.double, .double, .double, .double, .double, .long, .long, .double, .double, .boolean]
  resolved := Array.replicate 460 none
  statics := none }

def pool4 : Array CpInfo := pool [(1, .class_ 2), (0, u "java/io/Serializable"), (0, .class_ 4), (0, u "java/lang/Object")] 2

/-- java/io/Serializable -/
def k4 : Class := { plain "java/io/Serializable" (some 0) with
  accessFlags := 1537
  interfaces := #[]
  cf := some (fileOf pool4 1 #[] #[] 1537 3 #[] #[])
  fields := #[]
  methods := #[]
  instanceTypes := #[]
  staticTypes := #[]
  resolved := Array.replicate 7 none
  statics := none }

def pool5 : Array CpInfo := pool [(2, .class_ 4), (1, u "java/lang/Object"), (0, u "<init>"), (0, u "()V"), (1, .class_ 10), (1, u "java/lang/Number"), (2, .class_ 14), (0, u "java/io/Serializable"), (0, u "serialVersionUID"), (0, u "J")] 20

def k5m0 : Method := { name := "<init>", desc := "()V", sig := { parameters := [], returnType := none }, accessFlags := 1, code := none }
/-- java/lang/Number -/
def k5 : Class := { plain "java/lang/Number" (some 0) with
  accessFlags := 1057
  interfaces := #[4]
  cf := some (fileOf pool5 8 #[] #[{ accessFlags := 1, nameIndex := 5, descriptorIndex := 6, attributes := #[] }] 1057 2 #[13] #[{ accessFlags := 26, nameIndex := 15, descriptorIndex := 16, attributes := #[] }])
  fields := #[{ name := "serialVersionUID", type := .long, accessFlags := 26, slot := 0, constantValue := 0 }]
  methods := #[k5m0]
  instanceTypes := #[]
  staticTypes := #[.long]
  resolved := Array.replicate 37 none
  statics := none }

def pool6 : Array CpInfo := pool [(1, .class_ 2), (0, u "java/lang/Comparable"), (0, .class_ 4), (0, u "java/lang/Object")] 7

/-- java/lang/Comparable -/
def k6 : Class := { plain "java/lang/Comparable" (some 0) with
  accessFlags := 1537
  interfaces := #[]
  cf := some (fileOf pool6 1 #[] #[] 1537 3 #[] #[])
  fields := #[]
  methods := #[]
  instanceTypes := #[]
  staticTypes := #[]
  resolved := Array.replicate 12 none
  statics := none }

def pool7 : Array CpInfo := pool [(1, .class_ 2), (0, u "java/lang/constant/Constable"), (0, .class_ 4), (0, u "java/lang/Object")] 6

/-- java/lang/constant/Constable -/
def k7 : Class := { plain "java/lang/constant/Constable" (some 0) with
  accessFlags := 1537
  interfaces := #[]
  cf := some (fileOf pool7 1 #[] #[] 1537 3 #[] #[])
  fields := #[]
  methods := #[]
  instanceTypes := #[]
  staticTypes := #[]
  resolved := Array.replicate 11 none
  statics := none }

def pool8 : Array CpInfo := pool [(1, .class_ 2), (0, u "java/lang/constant/ConstantDesc"), (0, .class_ 4), (0, u "java/lang/Object")] 32

/-- java/lang/constant/ConstantDesc -/
def k8 : Class := { plain "java/lang/constant/ConstantDesc" (some 0) with
  accessFlags := 1537
  interfaces := #[]
  cf := some (fileOf pool8 1 #[] #[] 1537 3 #[] #[])
  fields := #[]
  methods := #[]
  instanceTypes := #[]
  staticTypes := #[]
  resolved := Array.replicate 37 none
  statics := none }

def pool9 : Array CpInfo := pool [(1, .class_ 2), (0, u "java/lang/Integer"), (16, u "digits"), (0, u "[C"), (32, u "numberOfLeadingZeros"), (0, u "(I)I"), (30, u "DigitOnes"), (0, u "[B"), (2, u "DigitTens"), (99, .class_ 190), (0, u "java/lang/Integer$IntegerCache"), (3, u "I"), (8, .class_ 204), (0, u "java/lang/Number"), (2, u "value"), (56, .integer 65536), (37, u "TYPE"), (0, u "Ljava/lang/Class;"), (0, .class_ 305), (0, u "java/lang/Comparable"), (0, .class_ 307), (0, u "java/lang/constant/Constable"), (0, .class_ 309), (0, u "java/lang/constant/ConstantDesc"), (0, u "MIN_VALUE"), (1, u "MAX_VALUE"), (3, u "SIZE"), (1, u "BYTES"), (1, u "serialVersionUID"), (0, u "J")] 131

def k9c0 : Code := { maxStack := 3, maxLocals := 2, code := jdk_33_method_47_code, exceptionTable := #[], attributes := #[] }
def k9m0 : Method := { name := "numberOfLeadingZeros", desc := "(I)I", sig := { parameters := [.int], returnType := some .int }, accessFlags := 9, code := some k9c0 }
/-- java/lang/Integer -/
def k9 : Class := { plain "java/lang/Integer" (some 5) with
  accessFlags := 49
  interfaces := #[6, 7, 8]
  cf := some (fileOf pool9 1 #[.nestMembers #[189]] #[{ accessFlags := 9, nameIndex := 53, descriptorIndex := 54, attributes := #[] }] 49 203 #[304, 306, 308] #[{ accessFlags := 25, nameIndex := 310, descriptorIndex := 194, attributes := #[] }, { accessFlags := 25, nameIndex := 312, descriptorIndex := 194, attributes := #[] }, { accessFlags := 25, nameIndex := 302, descriptorIndex := 303, attributes := #[] }, { accessFlags := 24, nameIndex := 19, descriptorIndex := 20, attributes := #[] }, { accessFlags := 24, nameIndex := 89, descriptorIndex := 86, attributes := #[] }, { accessFlags := 24, nameIndex := 85, descriptorIndex := 86, attributes := #[] }, { accessFlags := 18, nameIndex := 207, descriptorIndex := 194, attributes := #[] }, { accessFlags := 25, nameIndex := 316, descriptorIndex := 194, attributes := #[] }, { accessFlags := 25, nameIndex := 318, descriptorIndex := 194, attributes := #[] }, { accessFlags := 26, nameIndex := 320, descriptorIndex := 321, attributes := #[] }])
  fields := #[{ name := "MIN_VALUE", type := .int, accessFlags := 25, slot := 0, constantValue := 0 }, { name := "MAX_VALUE", type := .int, accessFlags := 25, slot := 1, constantValue := 0 }, { name := "TYPE", type := (.object "java/lang/Class"), accessFlags := 25, slot := 2, constantValue := 0 }, { name := "digits", type := (.array .char), accessFlags := 24, slot := 3, constantValue := 0 }, { name := "DigitTens", type := (.array .byte), accessFlags := 24, slot := 4, constantValue := 0 }, { name := "DigitOnes", type := (.array .byte), accessFlags := 24, slot := 5, constantValue := 0 }, { name := "value", type := .int, accessFlags := 18, slot := 0, constantValue := 0 }, { name := "SIZE", type := .int, accessFlags := 25, slot := 6, constantValue := 0 }, { name := "BYTES", type := .int, accessFlags := 25, slot := 7, constantValue := 0 }, { name := "serialVersionUID", type := .long, accessFlags := 26, slot := 8, constantValue := 0 }]
  methods := #[k9m0]
  instanceTypes := #[.int]
  staticTypes := #[.int, .int, (.object "java/lang/Class"), (.array .char), (.array .byte), (.array .byte), .int, .int, .long]
  resolved := Array.replicate 453 none
  statics := none }

def pool10 : Array CpInfo := pool [(1, u "java/lang/Cloneable"), (0, .class_ 1), (0, u "java/lang/Object"), (0, .class_ 3)] 3

/-- java/lang/Cloneable -/
def k10 : Class := { plain "java/lang/Cloneable" (some 0) with
  accessFlags := 1537
  interfaces := #[]
  cf := some (fileOf pool10 2 #[] #[] 1537 4 #[] #[])
  fields := #[]
  methods := #[]
  instanceTypes := #[]
  staticTypes := #[]
  resolved := Array.replicate 8 none
  statics := none }

/-- the primitive byte -/
def k11 : Class := { plain "byte" none with kind := .primitive 'B', accessFlags := 0x411 }
/-- [B -/
def k12 : Class := { plain "[B" (some 0) with kind := .array 11 .byte, interfaces := #[10, 4], accessFlags := 1041 }

/-- the primitive int -/
def k13 : Class := { plain "int" none with kind := .primitive 'I', accessFlags := 0x411 }
/-- [I -/
def k14 : Class := { plain "[I" (some 0) with kind := .array 13 .int, interfaces := #[10, 4], accessFlags := 1041 }

/-- the primitive long -/
def k15 : Class := { plain "long" none with kind := .primitive 'J', accessFlags := 0x411 }
/-- [J -/
def k16 : Class := { plain "[J" (some 0) with kind := .array 15 .long, interfaces := #[10, 4], accessFlags := 1041 }

def heap : Heap := #[]
def classes : Array Class := #[k0, k1, k2, k3, k4, k5, k6, k7, k8, k9, k10, k11, k12, k13, k14, k15, k16]
def interned : List (Array UInt16 × Addr) := []
def slotsUsed : Nat := 0
def theMethod : MethodId := ⟨1, 1⟩
def args0 : Array Value := #[.long 1, .long 2, .long 3, .long 4, .int 5]
def aboutOver (below : List Frame) : State where
  vm := { classes := classes, interned := interned.toArray }
  heap := heap
  slotsUsed := slotsUsed
  threads := #[{ frames := .invoking theMethod args0 :: below }]
def below0 : List Frame := [.native { method := ⟨0, 0⟩, args := #[] }]
def about1 : State := aboutOver below0
def p0 : Program := .bare "" "" ""
def e0 : Env := launch0.env 0 0 0
theorem w_frames : about1.frames = Frame.invoking theMethod args0 :: below0 := rfl
set_option maxRecDepth 65536 in
theorem w_args : argsFit about1.vm theMethod args0 = true := by decide +kernel
set_option maxRecDepth 65536 in
theorem w_heap : heapFits about1 = true := by decide +kernel
set_option maxRecDepth 65536 in
theorem w_runnable : about1.curStatus? = some .runnable := by decide +kernel
set_option maxRecDepth 65536 in
theorem w_alone : about1.alone = true := by decide +kernel
set_option maxRecDepth 65536 in
theorem w_named : about1.methodNamed? x = some theMethod := by decide +kernel
set_option maxRecDepth 65536 in
theorem w_hears : about1.hears theMethod below0 = true := by decide +kernel
set_option maxRecDepth 65536 in
theorem w_ripe : about1.ripe theMethod args0 below0 = true := by decide +kernel
theorem w_running : about1.status = .running := rfl
set_option maxRecDepth 65536 in
theorem w_room : about1.hasRoom e0.platform room_1 = true :=
  launch0.hasRoom_least _ room_1 (by decide +kernel) (by decide +kernel) (by decide +kernel) (by decide +kernel) (by decide +kernel) (by decide +kernel)
theorem allAtoms_all (ts : List Jvm.Cond) (a : Array Jvm.Value) (st : Jvm.State) : (allAtoms ts).before a st = ts.all (fun c => c.before a st) := by
  induction ts with
  | nil => rfl
  | cons c t ih =>
    show (Jvm.Cond.and c (allAtoms t)).before a st = _
    rw [Jvm.Cond.before_and, ih, List.all_cons]
def words1 : List Jvm.Cond := Jvm.Cond.code x code maxLocals ret :: tables_1
/-- a 'code' word, met by the world's own term for the bytes: nothing is compared byte by byte -/
theorem code_word {y : MethodName} {bytes : ByteArray} {mx : Nat} {rt : Option FieldType} {a : Array Value} {s : State} {m : MethodId} {meth : Method} {c : Code} (h1 : s.methodNamed? y = some m) (h2 : s.vm.method? m = some meth) (h3 : meth.code = some c) (h4 : c.code = bytes)
    (h5 : (c.maxLocals == mx && c.exceptionTable.isEmpty && decide (c.maxStack ≤ mostOperands) && decide (meth.sig.returnType = rt) && !meth.locks && decide (parseMethodDescriptor y.desc = some meth.sig)) = true) : (Jvm.Cond.code y bytes mx rt).before a s = true := by
  simp only [Bool.and_eq_true, beq_iff_eq, Bool.not_eq_true', decide_eq_true_eq] at h5
  obtain ⟨⟨⟨⟨⟨g1, g2⟩, g3⟩, g4⟩, g5⟩, g6⟩ := h5
  simp [Cond.before, Cond.holds, Cond.value, h1, h2, h3, h4, g1, g2, g3, g4, g5, g6]
def isCode : Jvm.Cond → Bool
  | .code _ _ _ _ => true
  | _ => false
theorem all_split {L : List Jvm.Cond} {P : Jvm.Cond → Bool} (h1 : L.all (fun c => isCode c || P c) = true) (h2 : ∀ c ∈ L.filter isCode, P c = true) : L.all P = true := by
  refine List.all_eq_true.mpr fun c hc => ?_
  have h := List.all_eq_true.mp h1 c hc
  rcases Bool.eq_false_or_eq_true (isCode c) with hi | hi
  · exact h2 c (List.mem_filter.mpr ⟨hc, hi⟩)
  · simpa [hi] using h
set_option maxRecDepth 65536 in
theorem w_c0 : (Jvm.Cond.code x code maxLocals ret).before args0 about1 = true := code_word (m := ⟨1, 1⟩) (meth := k1m1) (c := k1c1) (by decide +kernel) rfl rfl rfl (by decide +kernel)
set_option maxRecDepth 65536 in
theorem w_c1 : (Jvm.Cond.code ({ cls := "com/example/termite/termite/engine/LongIndex", name := "<init>", desc := "(I)V" } : Jvm.MethodName) prog_24_method_1_code (3 : Nat) (Option.none : Option Jvm.ClassFile.FieldType)).before args0 about1 = true := code_word (m := ⟨2, 0⟩) (meth := k2m0) (c := k2c0) (by decide +kernel) rfl rfl rfl (by decide +kernel)
set_option maxRecDepth 65536 in
theorem w_c2 : (Jvm.Cond.code ({ cls := "java/lang/Object", name := "<init>", desc := "()V" } : Jvm.MethodName) object_method_1_code (1 : Nat) (Option.none : Option Jvm.ClassFile.FieldType)).before args0 about1 = true := code_word (m := ⟨0, 0⟩) (meth := k0m0) (c := k0c0) (by decide +kernel) rfl rfl rfl (by decide +kernel)
set_option maxRecDepth 65536 in
theorem w_c3 : (Jvm.Cond.code ({ cls := "java/lang/Math", name := "max", desc := "(II)I" } : Jvm.MethodName) jdk_29_method_65_code (2 : Nat) (Option.some Jvm.ClassFile.FieldType.int)).before args0 about1 = true := code_word (m := ⟨3, 1⟩) (meth := k3m1) (c := k3c1) (by decide +kernel) rfl rfl rfl (by decide +kernel)
set_option maxRecDepth 65536 in
theorem w_c4 : (Jvm.Cond.code ({ cls := "java/lang/Integer", name := "numberOfLeadingZeros", desc := "(I)I" } : Jvm.MethodName) jdk_33_method_47_code (2 : Nat) (Option.some Jvm.ClassFile.FieldType.int)).before args0 about1 = true := code_word (m := ⟨9, 0⟩) (meth := k9m0) (c := k9c0) (by decide +kernel) rfl rfl rfl (by decide +kernel)
set_option maxRecDepth 65536 in
theorem w_c5 : (Jvm.Cond.code ({ cls := "com/example/termite/termite/engine/LongIndex", name := "number", desc := "(J)I" } : Jvm.MethodName) prog_24_method_2_code (5 : Nat) (Option.some Jvm.ClassFile.FieldType.int)).before args0 about1 = true := code_word (m := ⟨2, 1⟩) (meth := k2m1) (c := k2c1) (by decide +kernel) rfl rfl rfl (by decide +kernel)
set_option maxRecDepth 65536 in
theorem w_c6 : (Jvm.Cond.code ({ cls := "com/example/termite/termite/engine/LongIndex", name := "clear", desc := "()V" } : Jvm.MethodName) prog_24_method_4_code (2 : Nat) (Option.none : Option Jvm.ClassFile.FieldType)).before args0 about1 = true := code_word (m := ⟨2, 3⟩) (meth := k2m3) (c := k2c3) (by decide +kernel) rfl rfl rfl (by decide +kernel)
set_option maxRecDepth 65536 in
theorem w_c7 : (Jvm.Cond.code ({ cls := "com/example/termite/termite/engine/LongIndex", name := "size", desc := "()I" } : Jvm.MethodName) prog_24_method_3_code (1 : Nat) (Option.some Jvm.ClassFile.FieldType.int)).before args0 about1 = true := code_word (m := ⟨2, 2⟩) (meth := k2m2) (c := k2c2) (by decide +kernel) rfl rfl rfl (by decide +kernel)
def codes1 : List Jvm.Cond := [Jvm.Cond.code x code maxLocals ret, Jvm.Cond.code ({ cls := "com/example/termite/termite/engine/LongIndex", name := "<init>", desc := "(I)V" } : Jvm.MethodName) prog_24_method_1_code (3 : Nat) (Option.none : Option Jvm.ClassFile.FieldType), Jvm.Cond.code ({ cls := "java/lang/Object", name := "<init>", desc := "()V" } : Jvm.MethodName) object_method_1_code (1 : Nat) (Option.none : Option Jvm.ClassFile.FieldType), Jvm.Cond.code ({ cls := "java/lang/Math", name := "max", desc := "(II)I" } : Jvm.MethodName) jdk_29_method_65_code (2 : Nat) (Option.some Jvm.ClassFile.FieldType.int), Jvm.Cond.code ({ cls := "java/lang/Integer", name := "numberOfLeadingZeros", desc := "(I)I" } : Jvm.MethodName) jdk_33_method_47_code (2 : Nat) (Option.some Jvm.ClassFile.FieldType.int), Jvm.Cond.code ({ cls := "com/example/termite/termite/engine/LongIndex", name := "number", desc := "(J)I" } : Jvm.MethodName) prog_24_method_2_code (5 : Nat) (Option.some Jvm.ClassFile.FieldType.int), Jvm.Cond.code ({ cls := "com/example/termite/termite/engine/LongIndex", name := "clear", desc := "()V" } : Jvm.MethodName) prog_24_method_4_code (2 : Nat) (Option.none : Option Jvm.ClassFile.FieldType), Jvm.Cond.code ({ cls := "com/example/termite/termite/engine/LongIndex", name := "size", desc := "()I" } : Jvm.MethodName) prog_24_method_3_code (1 : Nat) (Option.some Jvm.ClassFile.FieldType.int)]
set_option maxRecDepth 65536 in
theorem codes_eq : words1.filter isCode = codes1 := rfl
theorem w_codes : ∀ c ∈ words1.filter isCode, c.before args0 about1 = true := by
  rw [codes_eq]
  intro c hc
  simp only [codes1, List.mem_cons, List.not_mem_nil, or_false] at hc
  rcases hc with rfl | rfl | rfl | rfl | rfl | rfl | rfl | rfl
  · exact w_c0
  · exact w_c1
  · exact w_c2
  · exact w_c3
  · exact w_c4
  · exact w_c5
  · exact w_c6
  · exact w_c7
set_option maxRecDepth 65536 in
theorem w_t1 : (words1.take 24).all (fun c => isCode c || c.before args0 about1) = true := by decide +kernel
set_option maxRecDepth 65536 in
theorem w_t2 : ((words1.drop 24).take 24).all (fun c => isCode c || c.before args0 about1) = true := by decide +kernel
set_option maxRecDepth 65536 in
theorem w_t3 : ((words1.drop 24).drop 24).all (fun c => isCode c || c.before args0 about1) = true := by decide +kernel
theorem w_tables : (allAtoms (Jvm.Cond.code x code maxLocals ret :: tables_1)).before args0 about1 = true := by
  rw [allAtoms_all]
  show words1.all (fun c => c.before args0 about1) = true
  refine all_split ?_ w_codes
  rw [← List.take_append_drop 24 words1, List.all_append, w_t1, ← List.take_append_drop 24 (words1.drop 24), List.all_append, w_t2, w_t3]
  rfl
set_option maxRecDepth 65536 in
theorem w_case : (Jvm.Cond.and given_1 narrow_1).before args0 about1 = true := by decide +kernel
theorem w_applies : (headSpec (Jvm.Cond.code x code maxLocals ret :: tables_1) room_1).applies x e0.platform about1 = true :=
  (Spec.applies_iff w_frames).mpr ⟨w_running, w_runnable, w_alone, w_named, w_hears, w_ripe, w_room, w_tables⟩
theorem atStart : AtStart classFile x code maxLocals ret World_1 tables_1 room_1 Calls_1 rest_1 Pre_1 launch0 p0 e0 about1 theMethod args0 below0 :=
  ⟨lists_1, trivial, launch0.admits_env _ _ _, launch0.least_env, fairChoices_fair.cas, fairChoices_fair.clock, w_frames, w_args, w_heap, w_applies, trivial, trivial, w_case⟩
end start1
theorem witness_1 : WitnessClaimed_1 := ⟨start1.p0, start1.e0, start1.about1, start1.theMethod, start1.args0, start1.below0, start1.atStart⟩
end Jvm.Pilot.@@N@@
