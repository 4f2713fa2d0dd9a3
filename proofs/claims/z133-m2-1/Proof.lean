import JvmDerived
import JvmDerived.Pilot.@@N@@Statement
import JvmDerived.Pilot.@@N@@Code
set_option linter.unusedVariables false
set_option linter.unusedSimpArgs false
@@BLOCK:NumsL.lean.txt@@
namespace Jvm.Pilot.@@N@@
open Jvm Jvm.ClassFile Sem Op Lib Jvm.Free Jvm.Stand Jvm.LawKit Jvm.RoadKit Bundle Jvm.Pilot.@@N@@.Jvm.D
section Own
variable {p : Program} {l : Launch} {e : Env} {R : Room} {s : State} {m : MethodId} {args : Array Value} {below : List Frame} {meth : Method} {c : Code} {T : State} {cells slots n0 : Nat} {Z : State} {a0 : Array Value} {h h' h0 : Heap} {own nm : String} {bytes : ByteArray} {mx : Nat} {rt : Option FieldType} {Q : Option Value → Heap → Prop} {En : Outcome → State → List Loc → Prop} {pc : Nat} {Ls : Array Slot} {S : List Value} {a b : Addr}
/-- the run from here ends as Q says -/
def ownGo (p : Program) (e : Env) (m : MethodId) (below : List Frame) (n0 : Nat) (En : Outcome → State → List Loc → Prop) (Q : Option Value → Heap → Prop) (T : State) (pc : Nat) (Ls : Array Slot) (S : List Value) : Prop :=
  ∃ s₂ o, Steps p.tables e below (T.setTop (mkF m pc Ls S)) s₂ ∧ s₂.status = .running ∧ Ended s₂ below o ∧ ∃ v L, o = .returned v ∧ (Q v s₂.heap ∧ Fr n0 L) ∧ En o s₂ L
abbrev ownEnd (s : State) (R : Room) (o : Outcome) (t : State) (L : List Loc) : Prop := FrameEnd s o t L R.cells R.slots
/-- where the walk stands -/
def ownSt (p : Program) (l : Launch) (e : Env) (R : Room) (s : State) (m : MethodId) (args : Array Value) (below : List Frame) (meth : Method) (c : Code) (Z : State) (n0 : Nat) (own : String) (bytes : ByteArray) (mx : Nat) (rt : Option FieldType) (nm : String) (T : State) (h : Heap) (cells slots : Nat) : Prop :=
  (p.tables.exec = Jvm.exec ∧ Z.Warmed39 s.vm ∧ c.code = bytes ∧ c.maxLocals = mx ∧ s.vm.findClass own = some m.cls ∧ meth.name = nm ∧ meth.sig.returnType = rt ∧ meth.locks = false) ∧ ∃ locs, Stand p l e R s m args below meth c T locs cells slots ∧ T.heap = h ∧ Fr n0 locs
def ownMet (l : Launch) (ws : List Jvm.Cond) (y : MethodName) (bytes : ByteArray) (mx : Nat) (rt : Option FieldType) (rm : Room) (Z : State) (n0 : Nat) (as' : Array Value) (h0 : Heap) (Q : Option Value → Heap → Prop) : Prop :=
  MetFree l y (head1 (Jvm.Cond.code y bytes mx rt :: ws) rm) (fun a U => a = as' ∧ Z.Warmed39 U.vm ∧ U.heap = h0) (fun _ _ _ _ _ => True) (fun _ U o U' => ∃ v L, o = .returned v ∧ (Q v U'.heap ∧ Fr n0 L) ∧ FrameEnd U o U' L rm.cells rm.slots)
theorem ownGo.step {T' : State} {pc' : Nat} {Ls' : Array Slot} {S' : List Value} (st : ∀ t, Steps p.tables e below (T'.setTop (mkF m pc' Ls' S')) t → Steps p.tables e below (T.setTop (mkF m pc Ls S)) t) (go : ownGo p e m below n0 En Q T' pc' Ls' S') : ownGo p e m below n0 En Q T pc Ls S := by
  obtain ⟨s₂, o, h1, h2⟩ := go
  exact ⟨s₂, o, st _ h1, h2⟩
theorem own_body {ws : List Jvm.Cond} {y : MethodName} {rm : Room} {as' : Array Value} {L0 : Array Slot} (pn : plainFor y = true) (ef : ∀ m, entryFrame m as' mx = mkF m 0 L0 []) (hc : y.cls = own) (hn : y.name = nm)
    (body : ∀ p e s m below meth c s₁, ownSt p l e rm s m as' below meth c Z n0 own bytes mx rt nm s₁ h0 0 0 → ownGo p e m below n0 (ownEnd s rm) Q s₁ 0 L0 []) : ownMet l ws y bytes mx rt rm Z n0 as' h0 Q := by
  subst hc hn
  refine MetFree.of_bodySF pn hisR ?_
  intro p e s m args below meth c s₁ Bd hml0 hP hK
  obtain ⟨rfl, hZ, hh⟩ := hP
  have e0 : s₁.heap = h0 := by rw [← hh, Bd.state]; rfl
  obtain ⟨s₂, o, h1, h2, h3, v, L, h4, h5, h6⟩ := body p e s m below meth c s₁ ⟨⟨Bd.exec, hZ, Bd.bytes, hml0, findClass_of_methodNamed Bd.named, (name_of_methodNamed Bd.named Bd.method).1, Bd.returns, Bd.notSynchronized⟩, [], Stand.of_body Bd, e0, Fr.nil n0⟩
  exact ⟨s₂, o, castTop (ef m) h1, h2, h3, v, L, h4, h5, h6⟩
theorem ownMet.mono {ws : List Jvm.Cond} {y : MethodName} {rm : Room} {as' : Array Value} {Q' : Option Value → Heap → Prop} (M : ownMet l ws y bytes mx rt rm Z n0 as' h0 Q) (q : ∀ v h, Q v h → Q' v h) : ownMet l ws y bytes mx rt rm Z n0 as' h0 Q' := by
  intro p e ha hc hk s m args below hf happ hP hK
  obtain ⟨n, o, h1, h2, h3, v, L, h4, ⟨h5, h5'⟩, h6⟩ := M p e ha hc hk s m args below hf happ hP hK
  exact ⟨n, o, h1, h2, h3, v, L, h4, ⟨q _ _ h5, h5'⟩, h6⟩
theorem ownGo.mono {Q' : Option Value → Heap → Prop} (go : ownGo p e m below n0 En Q T pc Ls S) (q : ∀ v h, Q v h → Q' v h) : ownGo p e m below n0 En Q' T pc Ls S := by
  obtain ⟨s₂, o, h1, h2, h3, v, L, h4, ⟨h5, h5'⟩, h6⟩ := go
  exact ⟨s₂, o, h1, h2, h3, v, L, h4, ⟨q _ _ h5, h5'⟩, h6⟩
theorem own_iload (G : ownSt p l e R s m args below meth c Z n0 own bytes mx rt nm T h cells slots) {k : Nat} {v : Int32} (hd : decode bytes pc = .ok (.iload k, 2)) (hl : Ls[k]? = some (.val (.int v))) (go : ownGo p e m below n0 En Q T (pc + 2) Ls (.int v :: S)) : ownGo p e m below n0 En Q T pc Ls S := by
  obtain ⟨⟨hx, hZ, hby, hml, hown, hnm, hret, hlk⟩, locs, X, eT, hN⟩ := G
  exact ownGo.step (fun t k => XS.iload X.here hx rfl (hb hby hd) hl k) go
theorem own_iloadN (G : ownSt p l e R s m args below meth c Z n0 own bytes mx rt nm T h cells slots) {k : Fin 4} {v : Int32} (hd : decode bytes pc = .ok (.iload_n k, 1)) (hl : Ls[k.val]? = some (.val (.int v))) (go : ownGo p e m below n0 En Q T (pc + 1) Ls (.int v :: S)) : ownGo p e m below n0 En Q T pc Ls S := by
  obtain ⟨⟨hx, hZ, hby, hml, hown, hnm, hret, hlk⟩, locs, X, eT, hN⟩ := G
  exact ownGo.step (fun t k => XS.iloadN X.here hx rfl (hb hby hd) hl k) go
theorem own_istore (G : ownSt p l e R s m args below meth c Z n0 own bytes mx rt nm T h cells slots) {k : Nat} {v : Int32} {L' : Array Slot} (hd : decode bytes pc = .ok (.istore k, 2)) (hl : storeLocals Ls k (.int v) = some L') (go : ownGo p e m below n0 En Q T (pc + 2) L' S) : ownGo p e m below n0 En Q T pc Ls (.int v :: S) := by
  obtain ⟨⟨hx, hZ, hby, hml, hown, hnm, hret, hlk⟩, locs, X, eT, hN⟩ := G
  exact ownGo.step (fun t k => XS.istore X.here hx rfl (hb hby hd) rfl (l' := L') hl k) go
theorem own_istoreN (G : ownSt p l e R s m args below meth c Z n0 own bytes mx rt nm T h cells slots) {k : Fin 4} {v : Int32} {L' : Array Slot} (hd : decode bytes pc = .ok (.istore_n k, 1)) (hl : storeLocals Ls k.val (.int v) = some L') (go : ownGo p e m below n0 En Q T (pc + 1) L' S) : ownGo p e m below n0 En Q T pc Ls (.int v :: S) := by
  obtain ⟨⟨hx, hZ, hby, hml, hown, hnm, hret, hlk⟩, locs, X, eT, hN⟩ := G
  exact ownGo.step (fun t k => XS.istoreN X.here hx rfl (hb hby hd) rfl (l' := L') hl k) go
theorem own_lload (G : ownSt p l e R s m args below meth c Z n0 own bytes mx rt nm T h cells slots) {k : Nat} {v : Int64} (hd : decode bytes pc = .ok (.lload k, 2)) (hl : Ls[k]? = some (.val (.long v))) (go : ownGo p e m below n0 En Q T (pc + 2) Ls (.long v :: S)) : ownGo p e m below n0 En Q T pc Ls S := by
  obtain ⟨⟨hx, hZ, hby, hml, hown, hnm, hret, hlk⟩, locs, X, eT, hN⟩ := G
  exact ownGo.step (fun t k => XS.lload X.here hx rfl (hb hby hd) hl k) go
theorem own_lloadN (G : ownSt p l e R s m args below meth c Z n0 own bytes mx rt nm T h cells slots) {k : Fin 4} {v : Int64} (hd : decode bytes pc = .ok (.lload_n k, 1)) (hl : Ls[k.val]? = some (.val (.long v))) (go : ownGo p e m below n0 En Q T (pc + 1) Ls (.long v :: S)) : ownGo p e m below n0 En Q T pc Ls S := by
  obtain ⟨⟨hx, hZ, hby, hml, hown, hnm, hret, hlk⟩, locs, X, eT, hN⟩ := G
  exact ownGo.step (fun t k => XS.lloadN X.here hx rfl (hb hby hd) hl k) go
theorem own_lstore (G : ownSt p l e R s m args below meth c Z n0 own bytes mx rt nm T h cells slots) {k : Nat} {v : Int64} {L' : Array Slot} (hd : decode bytes pc = .ok (.lstore k, 2)) (hl : storeLocals Ls k (.long v) = some L') (go : ownGo p e m below n0 En Q T (pc + 2) L' S) : ownGo p e m below n0 En Q T pc Ls (.long v :: S) := by
  obtain ⟨⟨hx, hZ, hby, hml, hown, hnm, hret, hlk⟩, locs, X, eT, hN⟩ := G
  exact ownGo.step (fun t k => XS.lstore X.here hx rfl (hb hby hd) rfl (l' := L') hl k) go
theorem own_lstoreN (G : ownSt p l e R s m args below meth c Z n0 own bytes mx rt nm T h cells slots) {k : Fin 4} {v : Int64} {L' : Array Slot} (hd : decode bytes pc = .ok (.lstore_n k, 1)) (hl : storeLocals Ls k.val (.long v) = some L') (go : ownGo p e m below n0 En Q T (pc + 1) L' S) : ownGo p e m below n0 En Q T pc Ls (.long v :: S) := by
  obtain ⟨⟨hx, hZ, hby, hml, hown, hnm, hret, hlk⟩, locs, X, eT, hN⟩ := G
  exact ownGo.step (fun t k => XS.lstoreN X.here hx rfl (hb hby hd) rfl (l' := L') hl k) go
theorem own_aload (G : ownSt p l e R s m args below meth c Z n0 own bytes mx rt nm T h cells slots) {k : Nat} {v : Value} (hd : decode bytes pc = .ok (.aload k, 2)) (hl : Ls[k]? = some (.val v)) (hv : v.isRef = true) (go : ownGo p e m below n0 En Q T (pc + 2) Ls (v :: S)) : ownGo p e m below n0 En Q T pc Ls S := by
  obtain ⟨⟨hx, hZ, hby, hml, hown, hnm, hret, hlk⟩, locs, X, eT, hN⟩ := G
  exact ownGo.step (fun t k => XS.aload X.here hx rfl (hb hby hd) hl hv k) go
theorem own_aloadN (G : ownSt p l e R s m args below meth c Z n0 own bytes mx rt nm T h cells slots) {k : Fin 4} {v : Value} (hd : decode bytes pc = .ok (.aload_n k, 1)) (hl : Ls[k.val]? = some (.val v)) (hv : v.isRef = true) (go : ownGo p e m below n0 En Q T (pc + 1) Ls (v :: S)) : ownGo p e m below n0 En Q T pc Ls S := by
  obtain ⟨⟨hx, hZ, hby, hml, hown, hnm, hret, hlk⟩, locs, X, eT, hN⟩ := G
  exact ownGo.step (fun t k => XS.aloadN X.here hx rfl (hb hby hd) hl hv k) go
theorem own_astore (G : ownSt p l e R s m args below meth c Z n0 own bytes mx rt nm T h cells slots) {k : Nat} {v : Value} {L' : Array Slot} (hd : decode bytes pc = .ok (.astore k, 2)) (hv : v.isRef = true) (hl : storeLocals Ls k v = some L') (go : ownGo p e m below n0 En Q T (pc + 2) L' S) : ownGo p e m below n0 En Q T pc Ls (v :: S) := by
  obtain ⟨⟨hx, hZ, hby, hml, hown, hnm, hret, hlk⟩, locs, X, eT, hN⟩ := G
  exact ownGo.step (fun t k => XS.astore X.here hx rfl (hb hby hd) rfl hv (l' := L') hl k) go
theorem own_astoreN (G : ownSt p l e R s m args below meth c Z n0 own bytes mx rt nm T h cells slots) {k : Fin 4} {v : Value} {L' : Array Slot} (hd : decode bytes pc = .ok (.astore_n k, 1)) (hv : v.isRef = true) (hl : storeLocals Ls k.val v = some L') (go : ownGo p e m below n0 En Q T (pc + 1) L' S) : ownGo p e m below n0 En Q T pc Ls (v :: S) := by
  obtain ⟨⟨hx, hZ, hby, hml, hown, hnm, hret, hlk⟩, locs, X, eT, hN⟩ := G
  exact ownGo.step (fun t k => XS.astoreN X.here hx rfl (hb hby hd) rfl hv (l' := L') hl k) go
theorem own_iconst (G : ownSt p l e R s m args below meth c Z n0 own bytes mx rt nm T h cells slots) {i : Int} (hd : decode bytes pc = .ok (.iconst i, 1))  (go : ownGo p e m below n0 En Q T (pc + 1) Ls (.int (Int32.ofInt i) :: S)) : ownGo p e m below n0 En Q T pc Ls S := by
  obtain ⟨⟨hx, hZ, hby, hml, hown, hnm, hret, hlk⟩, locs, X, eT, hN⟩ := G
  exact ownGo.step (fun t k => XS.iconst X.here hx rfl (hb hby hd)  k) go
theorem own_bipush (G : ownSt p l e R s m args below meth c Z n0 own bytes mx rt nm T h cells slots) {i : Int} (hd : decode bytes pc = .ok (.bipush i, 2))  (go : ownGo p e m below n0 En Q T (pc + 2) Ls (.int (Int8.ofInt i).toInt32 :: S)) : ownGo p e m below n0 En Q T pc Ls S := by
  obtain ⟨⟨hx, hZ, hby, hml, hown, hnm, hret, hlk⟩, locs, X, eT, hN⟩ := G
  exact ownGo.step (fun t k => XS.bipush X.here hx rfl (hb hby hd)  k) go
theorem own_sipush (G : ownSt p l e R s m args below meth c Z n0 own bytes mx rt nm T h cells slots) {i : Int} (hd : decode bytes pc = .ok (.sipush i, 3))  (go : ownGo p e m below n0 En Q T (pc + 3) Ls (.int (Int16.ofInt i).toInt32 :: S)) : ownGo p e m below n0 En Q T pc Ls S := by
  obtain ⟨⟨hx, hZ, hby, hml, hown, hnm, hret, hlk⟩, locs, X, eT, hN⟩ := G
  exact ownGo.step (fun t k => XS.sipush X.here hx rfl (hb hby hd)  k) go
theorem own_lconst (G : ownSt p l e R s m args below meth c Z n0 own bytes mx rt nm T h cells slots) {k : Fin 2} (hd : decode bytes pc = .ok (.lconst k, 1))  (go : ownGo p e m below n0 En Q T (pc + 1) Ls (.long (Int64.ofNat k.val) :: S)) : ownGo p e m below n0 En Q T pc Ls S := by
  obtain ⟨⟨hx, hZ, hby, hml, hown, hnm, hret, hlk⟩, locs, X, eT, hN⟩ := G
  exact ownGo.step (fun t k => XS.lconst X.here hx rfl (hb hby hd)  k) go
theorem own_aconst_null (G : ownSt p l e R s m args below meth c Z n0 own bytes mx rt nm T h cells slots)  (hd : decode bytes pc = .ok (.aconst_null, 1))  (go : ownGo p e m below n0 En Q T (pc + 1) Ls (.null :: S)) : ownGo p e m below n0 En Q T pc Ls S := by
  obtain ⟨⟨hx, hZ, hby, hml, hown, hnm, hret, hlk⟩, locs, X, eT, hN⟩ := G
  exact ownGo.step (fun t k => XS.aconstNull X.here hx rfl (hb hby hd)  k) go
theorem own_iadd (G : ownSt p l e R s m args below meth c Z n0 own bytes mx rt nm T h cells slots) {x y : Int32} (hd : decode bytes pc = .ok (.iadd, 1))  (go : ownGo p e m below n0 En Q T (pc + 1) Ls (.int (x + y) :: S)) : ownGo p e m below n0 En Q T pc Ls (.int y :: .int x :: S) := by
  obtain ⟨⟨hx, hZ, hby, hml, hown, hnm, hret, hlk⟩, locs, X, eT, hN⟩ := G
  exact ownGo.step (fun t k => XS.iadd X.here hx rfl (hb hby hd) rfl k) go
theorem own_isub (G : ownSt p l e R s m args below meth c Z n0 own bytes mx rt nm T h cells slots) {x y : Int32} (hd : decode bytes pc = .ok (.isub, 1))  (go : ownGo p e m below n0 En Q T (pc + 1) Ls (.int (x - y) :: S)) : ownGo p e m below n0 En Q T pc Ls (.int y :: .int x :: S) := by
  obtain ⟨⟨hx, hZ, hby, hml, hown, hnm, hret, hlk⟩, locs, X, eT, hN⟩ := G
  exact ownGo.step (fun t k => XS.isub X.here hx rfl (hb hby hd) rfl k) go
theorem own_imul (G : ownSt p l e R s m args below meth c Z n0 own bytes mx rt nm T h cells slots) {x y : Int32} (hd : decode bytes pc = .ok (.imul, 1))  (go : ownGo p e m below n0 En Q T (pc + 1) Ls (.int (x * y) :: S)) : ownGo p e m below n0 En Q T pc Ls (.int y :: .int x :: S) := by
  obtain ⟨⟨hx, hZ, hby, hml, hown, hnm, hret, hlk⟩, locs, X, eT, hN⟩ := G
  exact ownGo.step (fun t k => XS.imul X.here hx rfl (hb hby hd) rfl k) go
theorem own_iand (G : ownSt p l e R s m args below meth c Z n0 own bytes mx rt nm T h cells slots) {x y : Int32} (hd : decode bytes pc = .ok (.iand, 1))  (go : ownGo p e m below n0 En Q T (pc + 1) Ls (.int (x &&& y) :: S)) : ownGo p e m below n0 En Q T pc Ls (.int y :: .int x :: S) := by
  obtain ⟨⟨hx, hZ, hby, hml, hown, hnm, hret, hlk⟩, locs, X, eT, hN⟩ := G
  exact ownGo.step (fun t k => XS.iand X.here hx rfl (hb hby hd) rfl k) go
theorem own_ior (G : ownSt p l e R s m args below meth c Z n0 own bytes mx rt nm T h cells slots) {x y : Int32} (hd : decode bytes pc = .ok (.ior, 1))  (go : ownGo p e m below n0 En Q T (pc + 1) Ls (.int (x ||| y) :: S)) : ownGo p e m below n0 En Q T pc Ls (.int y :: .int x :: S) := by
  obtain ⟨⟨hx, hZ, hby, hml, hown, hnm, hret, hlk⟩, locs, X, eT, hN⟩ := G
  exact ownGo.step (fun t k => XS.ior X.here hx rfl (hb hby hd) rfl k) go
theorem own_ixor (G : ownSt p l e R s m args below meth c Z n0 own bytes mx rt nm T h cells slots) {x y : Int32} (hd : decode bytes pc = .ok (.ixor, 1))  (go : ownGo p e m below n0 En Q T (pc + 1) Ls (.int (x ^^^ y) :: S)) : ownGo p e m below n0 En Q T pc Ls (.int y :: .int x :: S) := by
  obtain ⟨⟨hx, hZ, hby, hml, hown, hnm, hret, hlk⟩, locs, X, eT, hN⟩ := G
  exact ownGo.step (fun t k => XS.ixor X.here hx rfl (hb hby hd) rfl k) go
theorem own_ishl (G : ownSt p l e R s m args below meth c Z n0 own bytes mx rt nm T h cells slots) {x y : Int32} (hd : decode bytes pc = .ok (.ishl, 1))  (go : ownGo p e m below n0 En Q T (pc + 1) Ls (.int (x <<< (y &&& 31)) :: S)) : ownGo p e m below n0 En Q T pc Ls (.int y :: .int x :: S) := by
  obtain ⟨⟨hx, hZ, hby, hml, hown, hnm, hret, hlk⟩, locs, X, eT, hN⟩ := G
  exact ownGo.step (fun t k => XS.ishl X.here hx rfl (hb hby hd) rfl k) go
theorem own_ishr (G : ownSt p l e R s m args below meth c Z n0 own bytes mx rt nm T h cells slots) {x y : Int32} (hd : decode bytes pc = .ok (.ishr, 1))  (go : ownGo p e m below n0 En Q T (pc + 1) Ls (.int (x >>> (y &&& 31)) :: S)) : ownGo p e m below n0 En Q T pc Ls (.int y :: .int x :: S) := by
  obtain ⟨⟨hx, hZ, hby, hml, hown, hnm, hret, hlk⟩, locs, X, eT, hN⟩ := G
  exact ownGo.step (fun t k => XS.ishr X.here hx rfl (hb hby hd) rfl k) go
theorem own_iushr (G : ownSt p l e R s m args below meth c Z n0 own bytes mx rt nm T h cells slots) {x y : Int32} (hd : decode bytes pc = .ok (.iushr, 1))  (go : ownGo p e m below n0 En Q T (pc + 1) Ls (.int ((x.toUInt32 >>> (y &&& 31).toUInt32).toInt32) :: S)) : ownGo p e m below n0 En Q T pc Ls (.int y :: .int x :: S) := by
  obtain ⟨⟨hx, hZ, hby, hml, hown, hnm, hret, hlk⟩, locs, X, eT, hN⟩ := G
  exact ownGo.step (fun t k => XS.iushr X.here hx rfl (hb hby hd) rfl k) go
theorem own_ladd (G : ownSt p l e R s m args below meth c Z n0 own bytes mx rt nm T h cells slots) {x y : Int64} (hd : decode bytes pc = .ok (.ladd, 1))  (go : ownGo p e m below n0 En Q T (pc + 1) Ls (.long (x + y) :: S)) : ownGo p e m below n0 En Q T pc Ls (.long y :: .long x :: S) := by
  obtain ⟨⟨hx, hZ, hby, hml, hown, hnm, hret, hlk⟩, locs, X, eT, hN⟩ := G
  exact ownGo.step (fun t k => XS.ladd X.here hx rfl (hb hby hd) rfl k) go
theorem own_lsub (G : ownSt p l e R s m args below meth c Z n0 own bytes mx rt nm T h cells slots) {x y : Int64} (hd : decode bytes pc = .ok (.lsub, 1))  (go : ownGo p e m below n0 En Q T (pc + 1) Ls (.long (x - y) :: S)) : ownGo p e m below n0 En Q T pc Ls (.long y :: .long x :: S) := by
  obtain ⟨⟨hx, hZ, hby, hml, hown, hnm, hret, hlk⟩, locs, X, eT, hN⟩ := G
  exact ownGo.step (fun t k => XS.lsub X.here hx rfl (hb hby hd) rfl k) go
theorem own_lmul (G : ownSt p l e R s m args below meth c Z n0 own bytes mx rt nm T h cells slots) {x y : Int64} (hd : decode bytes pc = .ok (.lmul, 1))  (go : ownGo p e m below n0 En Q T (pc + 1) Ls (.long (x * y) :: S)) : ownGo p e m below n0 En Q T pc Ls (.long y :: .long x :: S) := by
  obtain ⟨⟨hx, hZ, hby, hml, hown, hnm, hret, hlk⟩, locs, X, eT, hN⟩ := G
  exact ownGo.step (fun t k => XS.lmul X.here hx rfl (hb hby hd) rfl k) go
theorem own_land (G : ownSt p l e R s m args below meth c Z n0 own bytes mx rt nm T h cells slots) {x y : Int64} (hd : decode bytes pc = .ok (.land, 1))  (go : ownGo p e m below n0 En Q T (pc + 1) Ls (.long (x &&& y) :: S)) : ownGo p e m below n0 En Q T pc Ls (.long y :: .long x :: S) := by
  obtain ⟨⟨hx, hZ, hby, hml, hown, hnm, hret, hlk⟩, locs, X, eT, hN⟩ := G
  exact ownGo.step (fun t k => XS.land X.here hx rfl (hb hby hd) rfl k) go
theorem own_lor (G : ownSt p l e R s m args below meth c Z n0 own bytes mx rt nm T h cells slots) {x y : Int64} (hd : decode bytes pc = .ok (.lor, 1))  (go : ownGo p e m below n0 En Q T (pc + 1) Ls (.long (x ||| y) :: S)) : ownGo p e m below n0 En Q T pc Ls (.long y :: .long x :: S) := by
  obtain ⟨⟨hx, hZ, hby, hml, hown, hnm, hret, hlk⟩, locs, X, eT, hN⟩ := G
  exact ownGo.step (fun t k => XS.lor X.here hx rfl (hb hby hd) rfl k) go
theorem own_lxor (G : ownSt p l e R s m args below meth c Z n0 own bytes mx rt nm T h cells slots) {x y : Int64} (hd : decode bytes pc = .ok (.lxor, 1))  (go : ownGo p e m below n0 En Q T (pc + 1) Ls (.long (x ^^^ y) :: S)) : ownGo p e m below n0 En Q T pc Ls (.long y :: .long x :: S) := by
  obtain ⟨⟨hx, hZ, hby, hml, hown, hnm, hret, hlk⟩, locs, X, eT, hN⟩ := G
  exact ownGo.step (fun t k => XS.lxor X.here hx rfl (hb hby hd) rfl k) go
theorem own_lshl (G : ownSt p l e R s m args below meth c Z n0 own bytes mx rt nm T h cells slots) {x : Int64} {y : Int32} (hd : decode bytes pc = .ok (.lshl, 1))  (go : ownGo p e m below n0 En Q T (pc + 1) Ls (.long (x <<< (y &&& 0x3f).toInt64) :: S)) : ownGo p e m below n0 En Q T pc Ls (.int y :: .long x :: S) := by
  obtain ⟨⟨hx, hZ, hby, hml, hown, hnm, hret, hlk⟩, locs, X, eT, hN⟩ := G
  exact ownGo.step (fun t k => XS.lshl X.here hx rfl (hb hby hd) rfl k) go
theorem own_lshr (G : ownSt p l e R s m args below meth c Z n0 own bytes mx rt nm T h cells slots) {x : Int64} {y : Int32} (hd : decode bytes pc = .ok (.lshr, 1))  (go : ownGo p e m below n0 En Q T (pc + 1) Ls (.long (x >>> (y &&& 0x3f).toInt64) :: S)) : ownGo p e m below n0 En Q T pc Ls (.int y :: .long x :: S) := by
  obtain ⟨⟨hx, hZ, hby, hml, hown, hnm, hret, hlk⟩, locs, X, eT, hN⟩ := G
  exact ownGo.step (fun t k => XS.lshr X.here hx rfl (hb hby hd) rfl k) go
theorem own_lushr (G : ownSt p l e R s m args below meth c Z n0 own bytes mx rt nm T h cells slots) {x : Int64} {y : Int32} (hd : decode bytes pc = .ok (.lushr, 1))  (go : ownGo p e m below n0 En Q T (pc + 1) Ls (.long ((x.toUInt64 >>> (y &&& 0x3f).toInt64.toUInt64).toInt64) :: S)) : ownGo p e m below n0 En Q T pc Ls (.int y :: .long x :: S) := by
  obtain ⟨⟨hx, hZ, hby, hml, hown, hnm, hret, hlk⟩, locs, X, eT, hN⟩ := G
  exact ownGo.step (fun t k => XS.lushr X.here hx rfl (hb hby hd) rfl k) go
theorem own_ineg (G : ownSt p l e R s m args below meth c Z n0 own bytes mx rt nm T h cells slots) {x : Int32} (hd : decode bytes pc = .ok (.ineg, 1))  (go : ownGo p e m below n0 En Q T (pc + 1) Ls (.int (-x) :: S)) : ownGo p e m below n0 En Q T pc Ls (.int x :: S) := by
  obtain ⟨⟨hx, hZ, hby, hml, hown, hnm, hret, hlk⟩, locs, X, eT, hN⟩ := G
  exact ownGo.step (fun t k => XS.ineg X.here hx rfl (hb hby hd) rfl k) go
theorem own_lneg (G : ownSt p l e R s m args below meth c Z n0 own bytes mx rt nm T h cells slots) {x : Int64} (hd : decode bytes pc = .ok (.lneg, 1))  (go : ownGo p e m below n0 En Q T (pc + 1) Ls (.long (-x) :: S)) : ownGo p e m below n0 En Q T pc Ls (.long x :: S) := by
  obtain ⟨⟨hx, hZ, hby, hml, hown, hnm, hret, hlk⟩, locs, X, eT, hN⟩ := G
  exact ownGo.step (fun t k => XS.lneg X.here hx rfl (hb hby hd) rfl k) go
theorem own_i2l (G : ownSt p l e R s m args below meth c Z n0 own bytes mx rt nm T h cells slots) {x : Int32} (hd : decode bytes pc = .ok (.i2l, 1))  (go : ownGo p e m below n0 En Q T (pc + 1) Ls (.long (x.toInt64) :: S)) : ownGo p e m below n0 En Q T pc Ls (.int x :: S) := by
  obtain ⟨⟨hx, hZ, hby, hml, hown, hnm, hret, hlk⟩, locs, X, eT, hN⟩ := G
  exact ownGo.step (fun t k => XS.i2l X.here hx rfl (hb hby hd) rfl k) go
theorem own_l2i (G : ownSt p l e R s m args below meth c Z n0 own bytes mx rt nm T h cells slots) {x : Int64} (hd : decode bytes pc = .ok (.l2i, 1))  (go : ownGo p e m below n0 En Q T (pc + 1) Ls (.int (x.toInt32) :: S)) : ownGo p e m below n0 En Q T pc Ls (.long x :: S) := by
  obtain ⟨⟨hx, hZ, hby, hml, hown, hnm, hret, hlk⟩, locs, X, eT, hN⟩ := G
  exact ownGo.step (fun t k => XS.l2i X.here hx rfl (hb hby hd) rfl k) go
theorem own_i2b (G : ownSt p l e R s m args below meth c Z n0 own bytes mx rt nm T h cells slots) {x : Int32} (hd : decode bytes pc = .ok (.i2b, 1))  (go : ownGo p e m below n0 En Q T (pc + 1) Ls (.int (x.toInt8.toInt32) :: S)) : ownGo p e m below n0 En Q T pc Ls (.int x :: S) := by
  obtain ⟨⟨hx, hZ, hby, hml, hown, hnm, hret, hlk⟩, locs, X, eT, hN⟩ := G
  exact ownGo.step (fun t k => XS.i2b X.here hx rfl (hb hby hd) rfl k) go
theorem own_i2s (G : ownSt p l e R s m args below meth c Z n0 own bytes mx rt nm T h cells slots) {x : Int32} (hd : decode bytes pc = .ok (.i2s, 1))  (go : ownGo p e m below n0 En Q T (pc + 1) Ls (.int (x.toInt16.toInt32) :: S)) : ownGo p e m below n0 En Q T pc Ls (.int x :: S) := by
  obtain ⟨⟨hx, hZ, hby, hml, hown, hnm, hret, hlk⟩, locs, X, eT, hN⟩ := G
  exact ownGo.step (fun t k => XS.i2s X.here hx rfl (hb hby hd) rfl k) go
theorem own_i2c (G : ownSt p l e R s m args below meth c Z n0 own bytes mx rt nm T h cells slots) {x : Int32} (hd : decode bytes pc = .ok (.i2c, 1))  (go : ownGo p e m below n0 En Q T (pc + 1) Ls (.int (x.toUInt32.toUInt16.toUInt32.toInt32) :: S)) : ownGo p e m below n0 En Q T pc Ls (.int x :: S) := by
  obtain ⟨⟨hx, hZ, hby, hml, hown, hnm, hret, hlk⟩, locs, X, eT, hN⟩ := G
  exact ownGo.step (fun t k => XS.i2c X.here hx rfl (hb hby hd) rfl k) go
theorem own_lcmp (G : ownSt p l e R s m args below meth c Z n0 own bytes mx rt nm T h cells slots) {x y : Int64} (hd : decode bytes pc = .ok (.lcmp, 1))  (go : ownGo p e m below n0 En Q T (pc + 1) Ls (.int (lcmpW x y) :: S)) : ownGo p e m below n0 En Q T pc Ls (.long y :: .long x :: S) := by
  obtain ⟨⟨hx, hZ, hby, hml, hown, hnm, hret, hlk⟩, locs, X, eT, hN⟩ := G
  exact ownGo.step (fun t k => XS.lcmp X.here hx rfl (hb hby hd) rfl k) go
theorem own_pop (G : ownSt p l e R s m args below meth c Z n0 own bytes mx rt nm T h cells slots) {v : Value} (hd : decode bytes pc = .ok (.pop, 1)) (hc : v.category = 1) (go : ownGo p e m below n0 En Q T (pc + 1) Ls S) : ownGo p e m below n0 En Q T pc Ls (v :: S) := by
  obtain ⟨⟨hx, hZ, hby, hml, hown, hnm, hret, hlk⟩, locs, X, eT, hN⟩ := G
  exact ownGo.step (fun t k => XS.pop X.here hx rfl (hb hby hd) rfl hc k) go
theorem own_dup (G : ownSt p l e R s m args below meth c Z n0 own bytes mx rt nm T h cells slots) {v : Value} (hd : decode bytes pc = .ok (.dup, 1)) (hc : v.category = 1) (go : ownGo p e m below n0 En Q T (pc + 1) Ls (v :: v :: S)) : ownGo p e m below n0 En Q T pc Ls (v :: S) := by
  obtain ⟨⟨hx, hZ, hby, hml, hown, hnm, hret, hlk⟩, locs, X, eT, hN⟩ := G
  exact ownGo.step (fun t k => XS.dup X.here hx rfl (hb hby hd) rfl hc k) go
theorem own_dup_x1 (G : ownSt p l e R s m args below meth c Z n0 own bytes mx rt nm T h cells slots) {v w : Value} (hd : decode bytes pc = .ok (.dup_x1, 1)) (hc : v.category = 1) (hc' : w.category = 1) (go : ownGo p e m below n0 En Q T (pc + 1) Ls (v :: w :: v :: S)) : ownGo p e m below n0 En Q T pc Ls (v :: w :: S) := by
  obtain ⟨⟨hx, hZ, hby, hml, hown, hnm, hret, hlk⟩, locs, X, eT, hN⟩ := G
  exact ownGo.step (fun t k => XS.dupX1 X.here hx rfl (hb hby hd) rfl hc hc' k) go
theorem own_irem (G : ownSt p l e R s m args below meth c Z n0 own bytes mx rt nm T h cells slots) {x y : Int32} (hd : decode bytes pc = .ok (.irem, 1)) (hy : y ≠ 0) (go : ownGo p e m below n0 En Q T (pc + 1) Ls (.int (x % y) :: S)) : ownGo p e m below n0 En Q T pc Ls (.int y :: .int x :: S) := by
  obtain ⟨⟨hx, hZ, hby, hml, hown, hnm, hret, hlk⟩, locs, X, eT, hN⟩ := G
  exact ownGo.step (fun t k => iremM X hx rfl (hb hby hd) rfl hy k) go
theorem own_iinc (G : ownSt p l e R s m args below meth c Z n0 own bytes mx rt nm T h cells slots) {k : Nat} {d : Int} {v : Int32} {L' : Array Slot} (hd : decode bytes pc = .ok (.iinc k d, 3)) (hv : Ls[k]? = some (.val (.int v))) (hl : storeLocals Ls k (.int (v + Int32.ofInt d)) = some L') (go : ownGo p e m below n0 En Q T (pc + 3) L' S) : ownGo p e m below n0 En Q T pc Ls S := by
  obtain ⟨⟨hx, hZ, hby, hml, hown, hnm, hret, hlk⟩, locs, X, eT, hN⟩ := G
  exact ownGo.step (fun t k => XS.iinc X.here hx rfl (hb hby hd) hv (l' := L') hl k) go
theorem own_goto (G : ownSt p l e R s m args below meth c Z n0 own bytes mx rt nm T h cells slots) {o : Int} {pc' : Nat} (hd : decode bytes pc = .ok (.goto o, 3)) (ho : 0 ≤ (pc : Int) + o) (hp : ((pc : Int) + o).toNat = pc') (go : ownGo p e m below n0 En Q T pc' Ls S) : ownGo p e m below n0 En Q T pc Ls S := by
  obtain ⟨⟨hx, hZ, hby, hml, hown, hnm, hret, hlk⟩, locs, X, eT, hN⟩ := G
  exact ownGo.step (fun t k => XS.goto X.here hx rfl (pc0 := pc) rfl (hb hby hd) ho hp k) go
theorem own_icmp_lt (G : ownSt p l e R s m args below meth c Z n0 own bytes mx rt nm T h cells slots) {x y : Int32} {o : Int} {pc' : Nat} (hd : decode bytes pc = .ok (.if_icmp .lt o, 3)) (ho : 0 ≤ (pc : Int) + o) (hp : ((pc : Int) + o).toNat = pc') (yes : x < y → ownGo p e m below n0 En Q T pc' Ls S) (no : ¬ x < y → ownGo p e m below n0 En Q T (pc + 3) Ls S) : ownGo p e m below n0 En Q T pc Ls (.int y :: .int x :: S) := by
  obtain ⟨⟨hx, hZ, hby, hml, hown, hnm, hret, hlk⟩, locs, X, eT, hN⟩ := G
  by_cases q : x < y
  · exact ownGo.step (fun t k => XS.icmpYes X.here hx rfl (pc0 := pc) rfl (hb hby hd) rfl (tlt q).1 ho hp k) (yes q)
  · exact ownGo.step (fun t k => XS.icmpNo X.here hx rfl (hb hby hd) rfl (flt q).1 k) (no q)
theorem own_if_lt (G : ownSt p l e R s m args below meth c Z n0 own bytes mx rt nm T h cells slots) {x : Int32} {o : Int} {pc' : Nat} (hd : decode bytes pc = .ok (.ifCond .lt o, 3)) (ho : 0 ≤ (pc : Int) + o) (hp : ((pc : Int) + o).toNat = pc') (yes : x < (0 : Int32) → ownGo p e m below n0 En Q T pc' Ls S) (no : ¬ x < (0 : Int32) → ownGo p e m below n0 En Q T (pc + 3) Ls S) : ownGo p e m below n0 En Q T pc Ls (.int x :: S) := by
  obtain ⟨⟨hx, hZ, hby, hml, hown, hnm, hret, hlk⟩, locs, X, eT, hN⟩ := G
  by_cases q : x < (0 : Int32)
  · exact ownGo.step (fun t k => XS.ifYes X.here hx rfl (pc0 := pc) rfl (hb hby hd) rfl ((if0 _ _).trans (tlt q).1) ho hp k) (yes q)
  · exact ownGo.step (fun t k => XS.ifNo X.here hx rfl (hb hby hd) rfl ((if0 _ _).trans (flt q).1) k) (no q)
theorem own_icmp_ge (G : ownSt p l e R s m args below meth c Z n0 own bytes mx rt nm T h cells slots) {x y : Int32} {o : Int} {pc' : Nat} (hd : decode bytes pc = .ok (.if_icmp .ge o, 3)) (ho : 0 ≤ (pc : Int) + o) (hp : ((pc : Int) + o).toNat = pc') (yes : ¬ x < y → ownGo p e m below n0 En Q T pc' Ls S) (no : x < y → ownGo p e m below n0 En Q T (pc + 3) Ls S) : ownGo p e m below n0 En Q T pc Ls (.int y :: .int x :: S) := by
  obtain ⟨⟨hx, hZ, hby, hml, hown, hnm, hret, hlk⟩, locs, X, eT, hN⟩ := G
  by_cases q : x < y
  · exact ownGo.step (fun t k => XS.icmpNo X.here hx rfl (hb hby hd) rfl (tlt q).2.1 k) (no q)
  · exact ownGo.step (fun t k => XS.icmpYes X.here hx rfl (pc0 := pc) rfl (hb hby hd) rfl (flt q).2.1 ho hp k) (yes q)
theorem own_if_ge (G : ownSt p l e R s m args below meth c Z n0 own bytes mx rt nm T h cells slots) {x : Int32} {o : Int} {pc' : Nat} (hd : decode bytes pc = .ok (.ifCond .ge o, 3)) (ho : 0 ≤ (pc : Int) + o) (hp : ((pc : Int) + o).toNat = pc') (yes : ¬ x < (0 : Int32) → ownGo p e m below n0 En Q T pc' Ls S) (no : x < (0 : Int32) → ownGo p e m below n0 En Q T (pc + 3) Ls S) : ownGo p e m below n0 En Q T pc Ls (.int x :: S) := by
  obtain ⟨⟨hx, hZ, hby, hml, hown, hnm, hret, hlk⟩, locs, X, eT, hN⟩ := G
  by_cases q : x < (0 : Int32)
  · exact ownGo.step (fun t k => XS.ifNo X.here hx rfl (hb hby hd) rfl ((if0 _ _).trans (tlt q).2.1) k) (no q)
  · exact ownGo.step (fun t k => XS.ifYes X.here hx rfl (pc0 := pc) rfl (hb hby hd) rfl ((if0 _ _).trans (flt q).2.1) ho hp k) (yes q)
theorem own_icmp_gt (G : ownSt p l e R s m args below meth c Z n0 own bytes mx rt nm T h cells slots) {x y : Int32} {o : Int} {pc' : Nat} (hd : decode bytes pc = .ok (.if_icmp .gt o, 3)) (ho : 0 ≤ (pc : Int) + o) (hp : ((pc : Int) + o).toNat = pc') (yes : y < x → ownGo p e m below n0 En Q T pc' Ls S) (no : ¬ y < x → ownGo p e m below n0 En Q T (pc + 3) Ls S) : ownGo p e m below n0 En Q T pc Ls (.int y :: .int x :: S) := by
  obtain ⟨⟨hx, hZ, hby, hml, hown, hnm, hret, hlk⟩, locs, X, eT, hN⟩ := G
  by_cases q : y < x
  · exact ownGo.step (fun t k => XS.icmpYes X.here hx rfl (pc0 := pc) rfl (hb hby hd) rfl (tlt q).2.2.1 ho hp k) (yes q)
  · exact ownGo.step (fun t k => XS.icmpNo X.here hx rfl (hb hby hd) rfl (flt q).2.2.1 k) (no q)
theorem own_if_gt (G : ownSt p l e R s m args below meth c Z n0 own bytes mx rt nm T h cells slots) {x : Int32} {o : Int} {pc' : Nat} (hd : decode bytes pc = .ok (.ifCond .gt o, 3)) (ho : 0 ≤ (pc : Int) + o) (hp : ((pc : Int) + o).toNat = pc') (yes : (0 : Int32) < x → ownGo p e m below n0 En Q T pc' Ls S) (no : ¬ (0 : Int32) < x → ownGo p e m below n0 En Q T (pc + 3) Ls S) : ownGo p e m below n0 En Q T pc Ls (.int x :: S) := by
  obtain ⟨⟨hx, hZ, hby, hml, hown, hnm, hret, hlk⟩, locs, X, eT, hN⟩ := G
  by_cases q : (0 : Int32) < x
  · exact ownGo.step (fun t k => XS.ifYes X.here hx rfl (pc0 := pc) rfl (hb hby hd) rfl ((if0 _ _).trans (tlt q).2.2.1) ho hp k) (yes q)
  · exact ownGo.step (fun t k => XS.ifNo X.here hx rfl (hb hby hd) rfl ((if0 _ _).trans (flt q).2.2.1) k) (no q)
theorem own_icmp_le (G : ownSt p l e R s m args below meth c Z n0 own bytes mx rt nm T h cells slots) {x y : Int32} {o : Int} {pc' : Nat} (hd : decode bytes pc = .ok (.if_icmp .le o, 3)) (ho : 0 ≤ (pc : Int) + o) (hp : ((pc : Int) + o).toNat = pc') (yes : ¬ y < x → ownGo p e m below n0 En Q T pc' Ls S) (no : y < x → ownGo p e m below n0 En Q T (pc + 3) Ls S) : ownGo p e m below n0 En Q T pc Ls (.int y :: .int x :: S) := by
  obtain ⟨⟨hx, hZ, hby, hml, hown, hnm, hret, hlk⟩, locs, X, eT, hN⟩ := G
  by_cases q : y < x
  · exact ownGo.step (fun t k => XS.icmpNo X.here hx rfl (hb hby hd) rfl (tlt q).2.2.2 k) (no q)
  · exact ownGo.step (fun t k => XS.icmpYes X.here hx rfl (pc0 := pc) rfl (hb hby hd) rfl (flt q).2.2.2 ho hp k) (yes q)
theorem own_if_le (G : ownSt p l e R s m args below meth c Z n0 own bytes mx rt nm T h cells slots) {x : Int32} {o : Int} {pc' : Nat} (hd : decode bytes pc = .ok (.ifCond .le o, 3)) (ho : 0 ≤ (pc : Int) + o) (hp : ((pc : Int) + o).toNat = pc') (yes : ¬ (0 : Int32) < x → ownGo p e m below n0 En Q T pc' Ls S) (no : (0 : Int32) < x → ownGo p e m below n0 En Q T (pc + 3) Ls S) : ownGo p e m below n0 En Q T pc Ls (.int x :: S) := by
  obtain ⟨⟨hx, hZ, hby, hml, hown, hnm, hret, hlk⟩, locs, X, eT, hN⟩ := G
  by_cases q : (0 : Int32) < x
  · exact ownGo.step (fun t k => XS.ifNo X.here hx rfl (hb hby hd) rfl ((if0 _ _).trans (tlt q).2.2.2) k) (no q)
  · exact ownGo.step (fun t k => XS.ifYes X.here hx rfl (pc0 := pc) rfl (hb hby hd) rfl ((if0 _ _).trans (flt q).2.2.2) ho hp k) (yes q)
theorem own_icmp_eq (G : ownSt p l e R s m args below meth c Z n0 own bytes mx rt nm T h cells slots) {x y : Int32} {o : Int} {pc' : Nat} (hd : decode bytes pc = .ok (.if_icmp .eq o, 3)) (ho : 0 ≤ (pc : Int) + o) (hp : ((pc : Int) + o).toNat = pc') (yes : x = y → ownGo p e m below n0 En Q T pc' Ls S) (no : ¬ x = y → ownGo p e m below n0 En Q T (pc + 3) Ls S) : ownGo p e m below n0 En Q T pc Ls (.int y :: .int x :: S) := by
  obtain ⟨⟨hx, hZ, hby, hml, hown, hnm, hret, hlk⟩, locs, X, eT, hN⟩ := G
  by_cases q : x = y
  · exact ownGo.step (fun t k => XS.icmpYes X.here hx rfl (pc0 := pc) rfl (hb hby hd) rfl (teq q).1 ho hp k) (yes q)
  · exact ownGo.step (fun t k => XS.icmpNo X.here hx rfl (hb hby hd) rfl (feq q).1 k) (no q)
theorem own_if_eq (G : ownSt p l e R s m args below meth c Z n0 own bytes mx rt nm T h cells slots) {x : Int32} {o : Int} {pc' : Nat} (hd : decode bytes pc = .ok (.ifCond .eq o, 3)) (ho : 0 ≤ (pc : Int) + o) (hp : ((pc : Int) + o).toNat = pc') (yes : x = (0 : Int32) → ownGo p e m below n0 En Q T pc' Ls S) (no : ¬ x = (0 : Int32) → ownGo p e m below n0 En Q T (pc + 3) Ls S) : ownGo p e m below n0 En Q T pc Ls (.int x :: S) := by
  obtain ⟨⟨hx, hZ, hby, hml, hown, hnm, hret, hlk⟩, locs, X, eT, hN⟩ := G
  by_cases q : x = (0 : Int32)
  · exact ownGo.step (fun t k => XS.ifYes X.here hx rfl (pc0 := pc) rfl (hb hby hd) rfl ((if0 _ _).trans (teq q).1) ho hp k) (yes q)
  · exact ownGo.step (fun t k => XS.ifNo X.here hx rfl (hb hby hd) rfl ((if0 _ _).trans (feq q).1) k) (no q)
theorem own_icmp_ne (G : ownSt p l e R s m args below meth c Z n0 own bytes mx rt nm T h cells slots) {x y : Int32} {o : Int} {pc' : Nat} (hd : decode bytes pc = .ok (.if_icmp .ne o, 3)) (ho : 0 ≤ (pc : Int) + o) (hp : ((pc : Int) + o).toNat = pc') (yes : ¬ x = y → ownGo p e m below n0 En Q T pc' Ls S) (no : x = y → ownGo p e m below n0 En Q T (pc + 3) Ls S) : ownGo p e m below n0 En Q T pc Ls (.int y :: .int x :: S) := by
  obtain ⟨⟨hx, hZ, hby, hml, hown, hnm, hret, hlk⟩, locs, X, eT, hN⟩ := G
  by_cases q : x = y
  · exact ownGo.step (fun t k => XS.icmpNo X.here hx rfl (hb hby hd) rfl (teq q).2 k) (no q)
  · exact ownGo.step (fun t k => XS.icmpYes X.here hx rfl (pc0 := pc) rfl (hb hby hd) rfl (feq q).2 ho hp k) (yes q)
theorem own_if_ne (G : ownSt p l e R s m args below meth c Z n0 own bytes mx rt nm T h cells slots) {x : Int32} {o : Int} {pc' : Nat} (hd : decode bytes pc = .ok (.ifCond .ne o, 3)) (ho : 0 ≤ (pc : Int) + o) (hp : ((pc : Int) + o).toNat = pc') (yes : ¬ x = (0 : Int32) → ownGo p e m below n0 En Q T pc' Ls S) (no : x = (0 : Int32) → ownGo p e m below n0 En Q T (pc + 3) Ls S) : ownGo p e m below n0 En Q T pc Ls (.int x :: S) := by
  obtain ⟨⟨hx, hZ, hby, hml, hown, hnm, hret, hlk⟩, locs, X, eT, hN⟩ := G
  by_cases q : x = (0 : Int32)
  · exact ownGo.step (fun t k => XS.ifNo X.here hx rfl (hb hby hd) rfl ((if0 _ _).trans (teq q).2) k) (no q)
  · exact ownGo.step (fun t k => XS.ifYes X.here hx rfl (pc0 := pc) rfl (hb hby hd) rfl ((if0 _ _).trans (feq q).2) ho hp k) (yes q)
theorem own_lcif_lt (G : ownSt p l e R s m args below meth c Z n0 own bytes mx rt nm T h cells slots) {x y : Int64} {o : Int} {pc' : Nat} (hd : decode bytes pc = .ok (.lcmp, 1)) (hd' : decode bytes (pc + 1) = .ok (.ifCond .lt o, 3)) (ho : 0 ≤ ((pc + 1 : Nat) : Int) + o) (hp : (((pc + 1 : Nat) : Int) + o).toNat = pc') (yes : x < y → ownGo p e m below n0 En Q T pc' Ls S) (no : ¬ x < y → ownGo p e m below n0 En Q T (pc + 1 + 3) Ls S) : ownGo p e m below n0 En Q T pc Ls (.long y :: .long x :: S) :=
  own_lcmp G hd (own_if_lt G hd' ho hp (fun q => yes ((lw_lt _ _).mp q)) (fun q => no (fun r => q ((lw_lt _ _).mpr r))))
theorem own_lcif_ge (G : ownSt p l e R s m args below meth c Z n0 own bytes mx rt nm T h cells slots) {x y : Int64} {o : Int} {pc' : Nat} (hd : decode bytes pc = .ok (.lcmp, 1)) (hd' : decode bytes (pc + 1) = .ok (.ifCond .ge o, 3)) (ho : 0 ≤ ((pc + 1 : Nat) : Int) + o) (hp : (((pc + 1 : Nat) : Int) + o).toNat = pc') (yes : ¬ x < y → ownGo p e m below n0 En Q T pc' Ls S) (no : x < y → ownGo p e m below n0 En Q T (pc + 1 + 3) Ls S) : ownGo p e m below n0 En Q T pc Ls (.long y :: .long x :: S) :=
  own_lcmp G hd (own_if_ge G hd' ho hp (fun q => yes (fun r => q ((lw_lt _ _).mpr r))) (fun q => no ((lw_lt _ _).mp q)))
theorem own_lcif_gt (G : ownSt p l e R s m args below meth c Z n0 own bytes mx rt nm T h cells slots) {x y : Int64} {o : Int} {pc' : Nat} (hd : decode bytes pc = .ok (.lcmp, 1)) (hd' : decode bytes (pc + 1) = .ok (.ifCond .gt o, 3)) (ho : 0 ≤ ((pc + 1 : Nat) : Int) + o) (hp : (((pc + 1 : Nat) : Int) + o).toNat = pc') (yes : y < x → ownGo p e m below n0 En Q T pc' Ls S) (no : ¬ y < x → ownGo p e m below n0 En Q T (pc + 1 + 3) Ls S) : ownGo p e m below n0 En Q T pc Ls (.long y :: .long x :: S) :=
  own_lcmp G hd (own_if_gt G hd' ho hp (fun q => yes ((lw_gt _ _).mp q)) (fun q => no (fun r => q ((lw_gt _ _).mpr r))))
theorem own_lcif_le (G : ownSt p l e R s m args below meth c Z n0 own bytes mx rt nm T h cells slots) {x y : Int64} {o : Int} {pc' : Nat} (hd : decode bytes pc = .ok (.lcmp, 1)) (hd' : decode bytes (pc + 1) = .ok (.ifCond .le o, 3)) (ho : 0 ≤ ((pc + 1 : Nat) : Int) + o) (hp : (((pc + 1 : Nat) : Int) + o).toNat = pc') (yes : ¬ y < x → ownGo p e m below n0 En Q T pc' Ls S) (no : y < x → ownGo p e m below n0 En Q T (pc + 1 + 3) Ls S) : ownGo p e m below n0 En Q T pc Ls (.long y :: .long x :: S) :=
  own_lcmp G hd (own_if_le G hd' ho hp (fun q => yes (fun r => q ((lw_gt _ _).mpr r))) (fun q => no ((lw_gt _ _).mp q)))
theorem own_lcif_eq (G : ownSt p l e R s m args below meth c Z n0 own bytes mx rt nm T h cells slots) {x y : Int64} {o : Int} {pc' : Nat} (hd : decode bytes pc = .ok (.lcmp, 1)) (hd' : decode bytes (pc + 1) = .ok (.ifCond .eq o, 3)) (ho : 0 ≤ ((pc + 1 : Nat) : Int) + o) (hp : (((pc + 1 : Nat) : Int) + o).toNat = pc') (yes : x = y → ownGo p e m below n0 En Q T pc' Ls S) (no : ¬ x = y → ownGo p e m below n0 En Q T (pc + 1 + 3) Ls S) : ownGo p e m below n0 En Q T pc Ls (.long y :: .long x :: S) :=
  own_lcmp G hd (own_if_eq G hd' ho hp (fun q => yes ((lw_eq _ _).mp q)) (fun q => no (fun r => q ((lw_eq _ _).mpr r))))
theorem own_lcif_ne (G : ownSt p l e R s m args below meth c Z n0 own bytes mx rt nm T h cells slots) {x y : Int64} {o : Int} {pc' : Nat} (hd : decode bytes pc = .ok (.lcmp, 1)) (hd' : decode bytes (pc + 1) = .ok (.ifCond .ne o, 3)) (ho : 0 ≤ ((pc + 1 : Nat) : Int) + o) (hp : (((pc + 1 : Nat) : Int) + o).toNat = pc') (yes : ¬ x = y → ownGo p e m below n0 En Q T pc' Ls S) (no : x = y → ownGo p e m below n0 En Q T (pc + 1 + 3) Ls S) : ownGo p e m below n0 En Q T pc Ls (.long y :: .long x :: S) :=
  own_lcmp G hd (own_if_ne G hd' ho hp (fun q => yes (fun r => q ((lw_eq _ _).mpr r))) (fun q => no ((lw_eq _ _).mp q)))
theorem own_ifnull_null (G : ownSt p l e R s m args below meth c Z n0 own bytes mx rt nm T h cells slots) {o : Int} {pc' : Nat} (hd : decode bytes pc = .ok (.ifnull o, 3)) (ho : 0 ≤ (pc : Int) + o) (hp : ((pc : Int) + o).toNat = pc') (go : ownGo p e m below n0 En Q T pc' Ls S) : ownGo p e m below n0 En Q T pc Ls (.null :: S) := by
  obtain ⟨⟨hx, hZ, hby, hml, hown, hnm, hret, hlk⟩, locs, X, eT, hN⟩ := G
  exact ownGo.step (fun t k => XS.ifnullYes X.here hx rfl (pc0 := pc) rfl (hb hby hd) rfl ho hp k) go
theorem own_ifnull_ref (G : ownSt p l e R s m args below meth c Z n0 own bytes mx rt nm T h cells slots) {o : Int} (hd : decode bytes pc = .ok (.ifnull o, 3)) (go : ownGo p e m below n0 En Q T (pc + 3) Ls S) : ownGo p e m below n0 En Q T pc Ls (.ref b :: S) := by
  obtain ⟨⟨hx, hZ, hby, hml, hown, hnm, hret, hlk⟩, locs, X, eT, hN⟩ := G
  exact ownGo.step (fun t k => XS.ifnullNo X.here hx rfl (hb hby hd) rfl k) go
theorem own_ifnonnull_ref (G : ownSt p l e R s m args below meth c Z n0 own bytes mx rt nm T h cells slots) {o : Int} {pc' : Nat} (hd : decode bytes pc = .ok (.ifnonnull o, 3)) (ho : 0 ≤ (pc : Int) + o) (hp : ((pc : Int) + o).toNat = pc') (go : ownGo p e m below n0 En Q T pc' Ls S) : ownGo p e m below n0 En Q T pc Ls (.ref b :: S) := by
  obtain ⟨⟨hx, hZ, hby, hml, hown, hnm, hret, hlk⟩, locs, X, eT, hN⟩ := G
  exact ownGo.step (fun t k => XS.ifnonnullYes X.here hx rfl (pc0 := pc) rfl (hb hby hd) rfl ho hp k) go
theorem own_ifnonnull_null (G : ownSt p l e R s m args below meth c Z n0 own bytes mx rt nm T h cells slots) {o : Int} (hd : decode bytes pc = .ok (.ifnonnull o, 3)) (go : ownGo p e m below n0 En Q T (pc + 3) Ls S) : ownGo p e m below n0 En Q T pc Ls (.null :: S) := by
  obtain ⟨⟨hx, hZ, hby, hml, hown, hnm, hret, hlk⟩, locs, X, eT, hN⟩ := G
  exact ownGo.step (fun t k => XS.ifnonnullNo X.here hx rfl (hb hby hd) rfl k) go
theorem own_acmp (G : ownSt p l e R s m args below meth c Z n0 own bytes mx rt nm T h cells slots) {cd : ACond} {x y : Value} {o : Int} {pc' : Nat} {same : Bool} (hd : decode bytes pc = .ok (.if_acmp cd o, 3)) (h1 : x.isRef = true) (h2 : y.isRef = true) (hq : decide (x = y) = same) (ho : 0 ≤ (pc : Int) + o) (hp : pc' = if acV cd same = true then ((pc : Int) + o).toNat else pc + 3) (go : ownGo p e m below n0 En Q T pc' Ls S) : ownGo p e m below n0 En Q T pc Ls (y :: x :: S) := by
  obtain ⟨⟨hx, hZ, hby, hml, hown, hnm, hret, hlk⟩, locs, X, eT, hN⟩ := G
  exact ownGo.step (fun t k => Jvm.RoadKit.acmp (g := mkF m pc Ls (y :: x :: S)) X hx rfl h1 h2 (pc0 := pc) rfl (hb hby hd) rfl hq ho hp k) go
theorem own_ret (G : ownSt p l e R s m args below meth c Z n0 own bytes mx rt nm T h cells slots) (hd : decode bytes pc = .ok (.return_, 1)) (hrt : rt = none) (hc : cells ≤ R.cells) (hs : slots ≤ R.slots) (q : Q none h) : ownGo p e m below n0 (ownEnd s R) Q T pc Ls [] := by
  obtain ⟨⟨hx, hZ, hby, hml, hown, hnm, hret, hlk⟩, locs, X, eT, hN⟩ := G
  obtain ⟨fs, hr, hrun, hended, hW, hsame⟩ := X.leave (v := none) (fun _ => rfl)
  exact ⟨_, _, X.returnOut hx (hret.trans hrt) (hb hby hd) hr, hrun, hended, _, _, rfl, ⟨by show Q none T.heap; rw [eT]; exact q, hN⟩, ⟨_, rfl⟩, hW, hsame.mono hc hs⟩
theorem own_ireturn (G : ownSt p l e R s m args below meth c Z n0 own bytes mx rt nm T h cells slots) {z : Int32} (hd : decode bytes pc = .ok (.ireturn, 1)) (hrt : rt = some .int) (hc : cells ≤ R.cells) (hs : slots ≤ R.slots) (q : Q (some (.int z)) h) : ownGo p e m below n0 (ownEnd s R) Q T pc Ls (.int z :: S) := by
  obtain ⟨⟨hx, hZ, hby, hml, hown, hnm, hret, hlk⟩, locs, X, eT, hN⟩ := G
  obtain ⟨fs, hr, hrun, hended, hW, hsame⟩ := X.leave (v := some (.int z)) (fun h => by rw [hret, hrt] at h; cases h)
  exact ⟨_, _, retOut X hx (hret.trans hrt) rfl (Or.inl ⟨rfl, Or.inl rfl, _, rfl⟩) (hb hby hd) hr, hrun, hended, _, _, rfl, ⟨by show Q _ T.heap; rw [eT]; exact q, hN⟩, ⟨_, rfl⟩, hW, hsame.mono hc hs⟩
theorem own_zreturn (G : ownSt p l e R s m args below meth c Z n0 own bytes mx rt nm T h cells slots) {z : Int32} (hd : decode bytes pc = .ok (.ireturn, 1)) (hrt : rt = some .boolean) (hc : cells ≤ R.cells) (hs : slots ≤ R.slots) (q : Q (some (.int (nar .boolean z))) h) : ownGo p e m below n0 (ownEnd s R) Q T pc Ls (.int z :: S) := by
  obtain ⟨⟨hx, hZ, hby, hml, hown, hnm, hret, hlk⟩, locs, X, eT, hN⟩ := G
  obtain ⟨fs, hr, hrun, hended, hW, hsame⟩ := X.leave (v := some (.int (nar .boolean z))) (fun h => by rw [hret, hrt] at h; cases h)
  exact ⟨_, _, retN X hx (t := .boolean) (hret.trans hrt) (by simp) (hb hby hd) hr, hrun, hended, _, _, rfl, ⟨by show Q _ T.heap; rw [eT]; exact q, hN⟩, ⟨_, rfl⟩, hW, hsame.mono hc hs⟩
theorem own_lreturn (G : ownSt p l e R s m args below meth c Z n0 own bytes mx rt nm T h cells slots) {z : Int64} (hd : decode bytes pc = .ok (.lreturn, 1)) (hrt : rt = some .long) (hc : cells ≤ R.cells) (hs : slots ≤ R.slots) (q : Q (some (.long z)) h) : ownGo p e m below n0 (ownEnd s R) Q T pc Ls (.long z :: S) := by
  obtain ⟨⟨hx, hZ, hby, hml, hown, hnm, hret, hlk⟩, locs, X, eT, hN⟩ := G
  obtain ⟨fs, hr, hrun, hended, hW, hsame⟩ := X.leave (v := some (.long z)) (fun h => by rw [hret, hrt] at h; cases h)
  exact ⟨_, _, retOut X hx (hret.trans hrt) rfl (Or.inr (Or.inl ⟨rfl, rfl, _, rfl⟩)) (hb hby hd) hr, hrun, hended, _, _, rfl, ⟨by show Q _ T.heap; rw [eT]; exact q, hN⟩, ⟨_, rfl⟩, hW, hsame.mono hc hs⟩
theorem own_areturn (G : ownSt p l e R s m args below meth c Z n0 own bytes mx rt nm T h cells slots) {v : Value} {t : FieldType} (hd : decode bytes pc = .ok (.areturn, 1)) (hrt : rt = some t) (ht : t.isReference = true) (hv : v.isRef = true) (hn : narrow t v = v) (hc : cells ≤ R.cells) (hs : slots ≤ R.slots) (q : Q (some v) h) : ownGo p e m below n0 (ownEnd s R) Q T pc Ls (v :: S) := by
  obtain ⟨⟨hx, hZ, hby, hml, hown, hnm, hret, hlk⟩, locs, X, eT, hN⟩ := G
  obtain ⟨fs, hr, hrun, hended, hW, hsame⟩ := X.leave (v := some v) (fun h => by rw [hret, hrt] at h; cases h)
  exact ⟨_, _, retOut X hx (hret.trans hrt) hn (Or.inr (Or.inr (Or.inr (Or.inr ⟨rfl, ht, hv⟩)))) (hb hby hd) hr, hrun, hended, _, _, rfl, ⟨by show Q _ T.heap; rw [eT]; exact q, hN⟩, ⟨_, rfl⟩, hW, hsame.mono hc hs⟩
theorem own_ldcInt (G : ownSt p l e R s m args below meth c Z n0 own bytes mx rt nm T h cells slots) {index : Nat} {v : Int32} (hd : decode bytes pc = .ok (.ldc index, 2)) (w : (Cond.constant own index v).before a0 Z = true) (go : ownGo p e m below n0 En Q T (pc + 2) Ls (.int v :: S)) : ownGo p e m below n0 En Q T pc Ls S := by
  obtain ⟨⟨hx, hZ, hby, hml, hown, hnm, hret, hlk⟩, locs, X, eT, hN⟩ := G
  exact ownGo.step (fun t k => X.ldcInt hx hown (mvT hZ w) (g := mkF m pc Ls S) rfl (hb hby hd) _ k) go
theorem own_ldcw (G : ownSt p l e R s m args below meth c Z n0 own bytes mx rt nm T h cells slots) {index : Nat} {v : Int32} (hd : decode bytes pc = .ok (.ldc_w index, 3)) (w : (Cond.constant own index v).before a0 Z = true) (go : ownGo p e m below n0 En Q T (pc + 3) Ls (.int v :: S)) : ownGo p e m below n0 En Q T pc Ls S := by
  obtain ⟨⟨hx, hZ, hby, hml, hown, hnm, hret, hlk⟩, locs, X, eT, hN⟩ := G
  exact ownGo.step (fun t k => X.ldcwInt hx hown (mvT hZ w) (g := mkF m pc Ls S) rfl (hb hby hd) _ k) go
theorem own_ldc2 (G : ownSt p l e R s m args below meth c Z n0 own bytes mx rt nm T h cells slots) {index : Nat} {v : Int64} (hd : decode bytes pc = .ok (.ldc2_w index, 3)) (w : (Cond.constantLong own index v).before a0 Z = true) (go : ownGo p e m below n0 En Q T (pc + 3) Ls (.long v :: S)) : ownGo p e m below n0 En Q T pc Ls S := by
  obtain ⟨⟨hx, hZ, hby, hml, hown, hnm, hret, hlk⟩, locs, X, eT, hN⟩ := G
  exact ownGo.step (fun t k => X.ldc2Long hx hown (mvT hZ w) (g := mkF m pc Ls S) rfl (hb hby hd) _ k) go
theorem own_getF (G : ownSt p l e R s m args below meth c Z n0 own bytes mx rt nm T h cells slots) {R0 O n d : String} {index : Nat} {v : Value} (hd : decode bytes pc = .ok (.getfield index, 3)) (w : (Cond.fieldLink own index R0 n d).before a0 Z = true) (via : Via Z R0 O n d) (F : Fld Z h a O n d v)
    (go : ∀ T', ownSt p l e R s m args below meth c Z n0 own bytes mx rt nm T' h cells slots → ownGo p e m below n0 En Q T' (pc + 3) Ls (v :: S)) : ownGo p e m below n0 En Q T pc Ls (.ref a :: S) := by
  obtain ⟨⟨hx, hZ, hby, hml, hown, hnm, hret, hlk⟩, locs, X, eT, hN⟩ := G
  obtain ⟨T', X', e', st⟩ := getF X hx hZ hown (host := "") (Or.inl w) via eT F (g := mkF m pc Ls (.ref a :: S)) rfl rfl (hb hby hd)
  exact ownGo.step (fun t k => st t k) (go T' ⟨⟨hx, hZ, hby, hml, hown, hnm, hret, hlk⟩, locs, X', e', hN⟩)
theorem own_putF (G : ownSt p l e R s m args below meth c Z n0 own bytes mx rt nm T h cells slots) {R0 O n d C : String} {index kk : Nat} {ty : FieldType} {v old : Value} (hd : decode bytes pc = .ok (.putfield index, 3)) (w : (Cond.fieldLink own index R0 n d).before a0 Z = true) (via : Via Z R0 O n d) (F : Fld Z h a O n d old) (E : Exa Z h a C) (L : (Cond.lays C O n d).before a0 Z = true ∨ ((Cond.laysFinal C O n d).before a0 Z = true ∧ own = O ∧ nm = "<init>")) (wi : (Cond.instantiable C kk).before a0 Z = true)
    (hty : parseFieldDescriptor d = some ty) (hn : narrow ty v = v) (hf : fits ty v = true) (hfr : n0 ≤ a)
    (go : ∀ T' h', Wr h h' a (Jvm.RoadKit.slotOf Z O n d) v → ownSt p l e R s m args below meth c Z n0 own bytes mx rt nm T' h' cells slots → ownGo p e m below n0 En Q T' (pc + 3) Ls S) : ownGo p e m below n0 En Q T pc Ls (v :: .ref a :: S) := by
  obtain ⟨⟨hx, hZ, hby, hml, hown, hnm, hret, hlk⟩, locs, X, eT, hN⟩ := G
  obtain ⟨T', h', X', e', W', st⟩ := putF X hx hZ hown (host := "") (Or.inl w) via eT F E (L.imp id fun q => ⟨q.1, q.2.1, hnm.trans q.2.2⟩) wi hty hn hf (g := mkF m pc Ls (v :: .ref a :: S)) rfl rfl (hb hby hd)
  exact ownGo.step (fun t k => st t k) (go T' h' W' ⟨⟨hx, hZ, hby, hml, hown, hnm, hret, hlk⟩, _, X', e', Fr.snoc X' hN hfr⟩)
theorem own_getS (G : ownSt p l e R s m args below meth c Z n0 own bytes mx rt nm T h cells slots) {R0 O n d : String} {index : Nat} {v : Value} (hd : decode bytes pc = .ok (.getstatic index, 3)) (w : (Cond.fieldLink own index R0 n d).before a0 Z = true) (via : Via Z R0 O n d) (F : Sta Z h O n d v)
    (go : ∀ T', ownSt p l e R s m args below meth c Z n0 own bytes mx rt nm T' h cells slots → ownGo p e m below n0 En Q T' (pc + 3) Ls (v :: S)) : ownGo p e m below n0 En Q T pc Ls S := by
  obtain ⟨⟨hx, hZ, hby, hml, hown, hnm, hret, hlk⟩, locs, X, eT, hN⟩ := G
  obtain ⟨T', X', e', st⟩ := getS2 X hx hZ hown (host := "") (Or.inl w) via eT F (g := mkF m pc Ls S) rfl (hb hby hd)
  exact ownGo.step (fun t k => st t k) (go T' ⟨⟨hx, hZ, hby, hml, hown, hnm, hret, hlk⟩, locs, X', e', hN⟩)
theorem own_new (G : ownSt p l e R s m args below meth c Z n0 own bytes mx rt nm T h cells slots) {C : String} {index n : Nat} (hd : decode bytes pc = .ok (.new index, 3)) (w : (Cond.classLink own index C).before a0 Z = true) (wi : (Cond.instantiable C n).before a0 Z = true) (wz : (Cond.initialized C).before a0 Z = true) (hc : cells + 1 ≤ R.cells) (hl : slots + n ≤ R.slots)
    (go : ∀ T' h' a, a = h.size → Ext h h' → Exa Z h' a C → (∀ {O nm d : String} {ty : FieldType}, Laid Z a0 C O nm d → parseFieldDescriptor d = some ty → Fld Z h' a O nm d (defaultValue ty)) → ownSt p l e R s m args below meth c Z n0 own bytes mx rt nm T' h' (cells + 1) (slots + n) → ownGo p e m below n0 En Q T' (pc + 3) Ls (.ref a :: S)) : ownGo p e m below n0 En Q T pc Ls S := by
  obtain ⟨⟨hx, hZ, hby, hml, hown, hnm, hret, hlk⟩, locs, X, eT, hN⟩ := G
  obtain ⟨T', h', X', e', E', A', D', -, st⟩ := newO X hx hZ hown w wi wz eT (g := mkF m pc Ls S) rfl (hb hby hd) hc hl
  exact ownGo.step (fun t k => st t k) (go T' h' h.size rfl E' A' D' ⟨⟨hx, hZ, hby, hml, hown, hnm, hret, hlk⟩, locs, X', e', hN⟩)
theorem own_initO (G : ownSt p l e R s m args below meth c Z n0 own bytes mx rt nm T h cells slots) {idx : Nat} (hd : decode bytes pc = .ok (.invokespecial idx, 3)) (w1 : (Cond.methodLink own idx Lib.objectInit).before a0 Z = true) (w2 : (Cond.instanceMethod Lib.objectInit).before a0 Z = true) (w3 : (Cond.code Lib.objectInit object_method_1_code 1 none).before a0 Z = true) (hsz : Ls.size = mx) (hf : 1 ≤ R.frames) {W : Nat} (hW : (S.map fun v => v.category).sum ≤ W) (hl : W + 12 ≤ R.locals)
    (go : ∀ T', ownSt p l e R s m args below meth c Z n0 own bytes mx rt nm T' h cells slots → ownGo p e m below n0 En Q T' (pc + 3) Ls S) : ownGo p e m below n0 En Q T pc Ls (.ref a :: S) := by
  obtain ⟨⟨hx, hZ, hby, hml, hown, hnm, hret, hlk⟩, locs, X, eT, hN⟩ := G
  obtain ⟨T', X', e', st⟩ := initO X hx hZ hown w1 w2 w3 eT (g := mkF m pc Ls (.ref a :: S)) rfl (hsz.trans hml.symm) rfl (hb hby hd) hf (W := W) (by show 2 * 0 + _ ≤ _; omega) hl
  exact ownGo.step (fun t k => st t k) (go T' ⟨⟨hx, hZ, hby, hml, hown, hnm, hret, hlk⟩, locs, X', e', hN⟩)
/-- an array of n places: place j holds f j -/
def ownArr (Z : State) (h : Heap) (a : Addr) (ty : FieldType) (n : Nat) (f : Nat → Value) : Prop := ∃ cl : Cell, Arr Z h a cl ty ∧ cl.slots.size = n ∧ ∀ j, j < n → cl.slots[j]? = some (f j)
variable {ty : FieldType} {n i : Nat} {f g : Nat → Value} {j : Int32}
theorem ownArr.lt (A : ownArr Z h a ty n f) : a < h.size := by obtain ⟨cl, A, -⟩ := A; exact A.lt
theorem ownArr.ext (A : ownArr Z h a ty n f) (E : Ext h h') : ownArr Z h' a ty n f := by obtain ⟨cl, A, r⟩ := A; exact ⟨cl, A.ext E, r⟩
theorem ownArr.keep (A : ownArr Z h a ty n f) {ws : List Addr} (K : Keep h h' ws) (q : a ∉ ws) : ownArr Z h' a ty n f := by obtain ⟨cl, A, r⟩ := A; exact ⟨cl, ⟨K.2.1 a cl A.1 q, A.2⟩, r⟩
theorem ownArr.congr (A : ownArr Z h a ty n f) (q : ∀ j, j < n → f j = g j) : ownArr Z h a ty n g := by obtain ⟨cl, A, r1, r2⟩ := A; exact ⟨cl, A, r1, fun j hj => by rw [← q j hj]; exact r2 j hj⟩
theorem ownArr.other (A : ownArr Z h a ty n f) {sl : Nat} {v : Value} (W : Wr h h' b sl v) (q : a ≠ b) : ownArr Z h' a ty n f := by obtain ⟨cl, A, r⟩ := A; exact ⟨cl, A.other W q, r⟩
theorem ownArr.same (A : ownArr Z h a ty n f) {v : Value} (W : Wr h h' a i v) : ownArr Z h' a ty n (fun j => if j = i then v else f j) := by
  obtain ⟨cl, A, r1, r2⟩ := A
  refine ⟨_, A.same W, by rw [sz_set]; exact r1, fun j hj => ?_⟩
  by_cases q : j = i
  · subst q; simp [Cell.setSlot, r1, hj]
  · simp only [if_neg q]; rw [← r2 j hj]; exact Array.getElem?_setIfInBounds_ne (Ne.symm q)
theorem ownArr.wr (A : ownArr Z h a ty n f) {v : Value} (W : Wr h h' b i v) : ownArr Z h' a ty n (fun j => if a = b ∧ j = i then v else f j) := by
  by_cases q : a = b
  · subst q; exact (A.same W).congr fun j _ => by simp
  · exact (A.other W q).congr fun j _ => by simp [q]
theorem own_in {cl : Cell} (S : cl.slots.size = n) (ix : ¬ j < 0 ∧ j.toNatClampNeg = i ∧ i < n) : ¬ (j < 0 ∨ cl.slots.size ≤ j.toNatClampNeg) := by
  obtain ⟨q1, q2, q3⟩ := ix; rw [S, q2]; intro q; exact q.elim q1 fun r => absurd q3 (Nat.not_lt.mpr r)
theorem own_iaload (G : ownSt p l e R s m args below meth c Z n0 own bytes mx rt nm T h cells slots) {v : Value} (hd : decode bytes pc = .ok (.iaload, 1)) (A : ownArr Z h a .int n f) (ix : ¬ j < 0 ∧ j.toNatClampNeg = i ∧ i < n) (hv : f i = v) (go : ownGo p e m below n0 En Q T (pc + 1) Ls (v :: S)) : ownGo p e m below n0 En Q T pc Ls (.int j :: .ref a :: S) := by
  obtain ⟨⟨hx, hZ, hby, hml, hown, hnm, hret, hlk⟩, locs, X, eT, hN⟩ := G
  obtain ⟨cl, A, r1, r2⟩ := A
  exact ownGo.step (fun t k => X.iaload hx (by rw [eT]; exact A.1) (State.isArrayOf_alike hZ.alike A.2.1) A.2.2 (own_in r1 ix) (by rw [ix.2.1, ← hv]; exact r2 i ix.2.2) (g := mkF m pc Ls (.int j :: .ref a :: S)) rfl rfl (hb hby hd) _ k) go
theorem own_laload (G : ownSt p l e R s m args below meth c Z n0 own bytes mx rt nm T h cells slots) {v : Value} (hd : decode bytes pc = .ok (.laload, 1)) (A : ownArr Z h a .long n f) (ix : ¬ j < 0 ∧ j.toNatClampNeg = i ∧ i < n) (hv : f i = v) (go : ownGo p e m below n0 En Q T (pc + 1) Ls (v :: S)) : ownGo p e m below n0 En Q T pc Ls (.int j :: .ref a :: S) := by
  obtain ⟨⟨hx, hZ, hby, hml, hown, hnm, hret, hlk⟩, locs, X, eT, hN⟩ := G
  obtain ⟨cl, A, r1, r2⟩ := A
  exact ownGo.step (fun t k => X.laload hx (by rw [eT]; exact A.1) (State.isArrayOf_alike hZ.alike A.2.1) A.2.2 (own_in r1 ix) (by rw [ix.2.1, ← hv]; exact r2 i ix.2.2) (g := mkF m pc Ls (.int j :: .ref a :: S)) rfl rfl (hb hby hd) _ k) go
theorem own_baload (G : ownSt p l e R s m args below meth c Z n0 own bytes mx rt nm T h cells slots) {v : Value} (hd : decode bytes pc = .ok (.baload, 1)) (A : ownArr Z h a .byte n f) (ix : ¬ j < 0 ∧ j.toNatClampNeg = i ∧ i < n) (hv : f i = v) (go : ownGo p e m below n0 En Q T (pc + 1) Ls (v :: S)) : ownGo p e m below n0 En Q T pc Ls (.int j :: .ref a :: S) := by
  obtain ⟨⟨hx, hZ, hby, hml, hown, hnm, hret, hlk⟩, locs, X, eT, hN⟩ := G
  obtain ⟨cl, A, r1, r2⟩ := A
  exact ownGo.step (fun t k => X.baloadBytes hx (by rw [eT]; exact A.1) (State.isArrayOf_alike hZ.alike A.2.1) A.2.2 (own_in r1 ix) (by rw [ix.2.1, ← hv]; exact r2 i ix.2.2) (g := mkF m pc Ls (.int j :: .ref a :: S)) rfl rfl (hb hby hd) _ k) go
theorem own_aaload (G : ownSt p l e R s m args below meth c Z n0 own bytes mx rt nm T h cells slots) {v : Value} (hd : decode bytes pc = .ok (.aaload, 1)) (A : ownArr Z h a ty n f) (hty : ty.isReference = true) (ix : ¬ j < 0 ∧ j.toNatClampNeg = i ∧ i < n) (hv : f i = v) (go : ownGo p e m below n0 En Q T (pc + 1) Ls (v :: S)) : ownGo p e m below n0 En Q T pc Ls (.int j :: .ref a :: S) := by
  obtain ⟨⟨hx, hZ, hby, hml, hown, hnm, hret, hlk⟩, locs, X, eT, hN⟩ := G
  obtain ⟨cl, A, r1, r2⟩ := A
  exact ownGo.step (fun t k => X.aaload hx (by rw [eT]; exact A.1) (State.isArrayOf_alike hZ.alike A.2.1) hty A.2.2 (own_in r1 ix) (by rw [ix.2.1, ← hv]; exact r2 i ix.2.2) (g := mkF m pc Ls (.int j :: .ref a :: S)) rfl rfl (hb hby hd) _ k) go
theorem own_arraylength (G : ownSt p l e R s m args below meth c Z n0 own bytes mx rt nm T h cells slots) (hd : decode bytes pc = .ok (.arraylength, 1)) (A : ownArr Z h a ty n f) (go : ownGo p e m below n0 En Q T (pc + 1) Ls (.int n.toInt32 :: S)) : ownGo p e m below n0 En Q T pc Ls (.ref a :: S) := by
  obtain ⟨⟨hx, hZ, hby, hml, hown, hnm, hret, hlk⟩, locs, X, eT, hN⟩ := G
  obtain ⟨cl, A, r1, r2⟩ := A
  subst r1
  exact ownGo.step (fun t k => X.arraylength hx (by rw [eT]; exact A.1) (State.isArrayOf_alike hZ.alike A.2.1) (g := mkF m pc Ls (.ref a :: S)) rfl rfl (hb hby hd) _ k) go
theorem own_iastore (G : ownSt p l e R s m args below meth c Z n0 own bytes mx rt nm T h cells slots) {x : Int32} (hd : decode bytes pc = .ok (.iastore, 1)) (A : ownArr Z h a .int n f) (ix : ¬ j < 0 ∧ j.toNatClampNeg = i ∧ i < n) (hfr : n0 ≤ a) (go : ∀ T' h', Wr h h' a i (.int x) → ownSt p l e R s m args below meth c Z n0 own bytes mx rt nm T' h' cells slots → ownGo p e m below n0 En Q T' (pc + 1) Ls S) : ownGo p e m below n0 En Q T pc Ls (.int x :: .int j :: .ref a :: S) := by
  obtain ⟨⟨hx, hZ, hby, hml, hown, hnm, hret, hlk⟩, locs, X, eT, hN⟩ := G
  obtain ⟨cl, A, r1, r2⟩ := A
  obtain ⟨T', h', X', e', W', st⟩ := stI X hx hZ eT A (own_in r1 ix) (g := mkF m pc Ls (.int x :: .int j :: .ref a :: S)) rfl rfl (hb hby hd)
  exact ownGo.step (fun t k => st t k) (go T' h' (ix.2.1 ▸ W') ⟨⟨hx, hZ, hby, hml, hown, hnm, hret, hlk⟩, _, X', e', Fr.snoc X' hN hfr⟩)
theorem own_lastore (G : ownSt p l e R s m args below meth c Z n0 own bytes mx rt nm T h cells slots) {x : Int64} (hd : decode bytes pc = .ok (.lastore, 1)) (A : ownArr Z h a .long n f) (ix : ¬ j < 0 ∧ j.toNatClampNeg = i ∧ i < n) (hfr : n0 ≤ a) (go : ∀ T' h', Wr h h' a i (.long x) → ownSt p l e R s m args below meth c Z n0 own bytes mx rt nm T' h' cells slots → ownGo p e m below n0 En Q T' (pc + 1) Ls S) : ownGo p e m below n0 En Q T pc Ls (.long x :: .int j :: .ref a :: S) := by
  obtain ⟨⟨hx, hZ, hby, hml, hown, hnm, hret, hlk⟩, locs, X, eT, hN⟩ := G
  obtain ⟨cl, A, r1, r2⟩ := A
  obtain ⟨T', h', X', e', W', st⟩ := stJ X hx hZ eT A (own_in r1 ix) (g := mkF m pc Ls (.long x :: .int j :: .ref a :: S)) rfl rfl (hb hby hd)
  exact ownGo.step (fun t k => st t k) (go T' h' (ix.2.1 ▸ W') ⟨⟨hx, hZ, hby, hml, hown, hnm, hret, hlk⟩, _, X', e', Fr.snoc X' hN hfr⟩)
theorem own_bastore (G : ownSt p l e R s m args below meth c Z n0 own bytes mx rt nm T h cells slots) {x : Int32} (hd : decode bytes pc = .ok (.bastore, 1)) (A : ownArr Z h a .byte n f) (ix : ¬ j < 0 ∧ j.toNatClampNeg = i ∧ i < n) (hfr : n0 ≤ a) (go : ∀ T' h', Wr h h' a i (.int (nar .byte x)) → ownSt p l e R s m args below meth c Z n0 own bytes mx rt nm T' h' cells slots → ownGo p e m below n0 En Q T' (pc + 1) Ls S) : ownGo p e m below n0 En Q T pc Ls (.int x :: .int j :: .ref a :: S) := by
  obtain ⟨⟨hx, hZ, hby, hml, hown, hnm, hret, hlk⟩, locs, X, eT, hN⟩ := G
  obtain ⟨cl, A, r1, r2⟩ := A
  obtain ⟨T', h', X', e', W', st⟩ := stB X hx hZ eT A (own_in r1 ix) (g := mkF m pc Ls (.int x :: .int j :: .ref a :: S)) rfl rfl (hb hby hd)
  exact ownGo.step (fun t k => st t k) (go T' h' (ix.2.1 ▸ W') ⟨⟨hx, hZ, hby, hml, hown, hnm, hret, hlk⟩, _, X', e', Fr.snoc X' hN hfr⟩)
theorem own_newarr (G : ownSt p l e R s m args below meth c Z n0 own bytes mx rt nm T h cells slots) {aty : ArrayType} {x : Int32} (hd : decode bytes pc = .ok (.newarray aty, 2)) (w : (Cond.arrayClass (newarray.typeOf aty)).before a0 Z = true) (hn : ¬ x < 0) {k cap : Nat} (hk : x.toNatClampNeg = k) (hcap : k ≤ cap) (hb8 : cap * 8 ≤ 536870912) (hc : cells + 1 ≤ R.cells) (hl : slots + cap ≤ R.slots)
    (go : ∀ T' h' a, a = h.size → Ext h h' → ownArr Z h' a (newarray.typeOf aty) k (fun _ => defaultValue (newarray.typeOf aty)) → ownSt p l e R s m args below meth c Z n0 own bytes mx rt nm T' h' (cells + 1) (slots + cap) → ownGo p e m below n0 En Q T' (pc + 2) Ls (.ref a :: S)) : ownGo p e m below n0 En Q T pc Ls (.int x :: S) := by
  obtain ⟨⟨hx, hZ, hby, hml, hown, hnm, hret, hlk⟩, locs, X, eT, hN⟩ := G
  subst hk
  obtain ⟨T', h', cA, X', e', E', A', st⟩ := newP X hx hZ w eT (g := mkF m pc Ls (.int x :: S)) rfl (hb hby hd) rfl hn hcap hb8 hc hl
  exact ownGo.step (fun t k => st t k) (go T' h' h.size rfl E' ⟨_, A', sz_new _ _ _, fun j hj => by simp [newA, hj]⟩ ⟨⟨hx, hZ, hby, hml, hown, hnm, hret, hlk⟩, locs, X', e', hN⟩)
theorem own_ldcFloat (G : ownSt p l e R s m args below meth c Z n0 own bytes mx rt nm T h cells slots) {index : Nat} {v : UInt32} (hd : decode bytes pc = .ok (.ldc index, 2)) (w : (Cond.constantFloat own index v).before a0 Z = true) (go : ownGo p e m below n0 En Q T (pc + 2) Ls (.float v :: S)) : ownGo p e m below n0 En Q T pc Ls S := by
  obtain ⟨⟨hx, hZ, hby, hml, hown, hnm, hret, hlk⟩, locs, X, eT, hN⟩ := G
  exact ownGo.step (fun t k => X.ldcFloatC hx hown (mvT hZ w) (g := mkF m pc Ls S) rfl (hb hby hd) _ k) go
/-- an array of references to objects of C -/
def ownRef (Z : State) (h : Heap) (a : Addr) (C : String) (n : Nat) (f : Nat → Value) : Prop := ∃ cl : Cell, Arr Z h a cl (.object C) ∧ Ovr Z cl.cls C ∧ cl.slots.size = n ∧ ∀ j, j < n → cl.slots[j]? = some (f j)
theorem ownRef.arr {C : String} (A : ownRef Z h a C n f) : ownArr Z h a (.object C) n f := by obtain ⟨cl, A, -, r⟩ := A; exact ⟨cl, A, r⟩
theorem ownRef.lt {C : String} (A : ownRef Z h a C n f) : a < h.size := A.arr.lt
theorem ownRef.ext {C : String} (A : ownRef Z h a C n f) (E : Ext h h') : ownRef Z h' a C n f := by obtain ⟨cl, A, r⟩ := A; exact ⟨cl, A.ext E, r⟩
theorem ownRef.keep {C : String} (A : ownRef Z h a C n f) {ws : List Addr} (K : Keep h h' ws) (q : a ∉ ws) : ownRef Z h' a C n f := by obtain ⟨cl, A, r⟩ := A; exact ⟨cl, ⟨K.2.1 a cl A.1 q, A.2⟩, r⟩
theorem ownRef.congr {C : String} (A : ownRef Z h a C n f) (q : ∀ j, j < n → f j = g j) : ownRef Z h a C n g := by obtain ⟨cl, A, r0, r1, r2⟩ := A; exact ⟨cl, A, r0, r1, fun j hj => by rw [← q j hj]; exact r2 j hj⟩
theorem ownRef.other {C : String} (A : ownRef Z h a C n f) {sl : Nat} {v : Value} (W : Wr h h' b sl v) (q : a ≠ b) : ownRef Z h' a C n f := by obtain ⟨cl, A, r⟩ := A; exact ⟨cl, A.other W q, r⟩
theorem ownRef.same {C : String} (A : ownRef Z h a C n f) {v : Value} (W : Wr h h' a i v) : ownRef Z h' a C n (fun j => if j = i then v else f j) := by
  obtain ⟨cl, A, r0, r1, r2⟩ := A
  refine ⟨_, A.same W, r0, by rw [sz_set]; exact r1, fun j hj => ?_⟩
  by_cases q : j = i
  · subst q; simp [Cell.setSlot, r1, hj]
  · simp only [if_neg q]; rw [← r2 j hj]; exact Array.getElem?_setIfInBounds_ne (Ne.symm q)
theorem own_aastore (G : ownSt p l e R s m args below meth c Z n0 own bytes mx rt nm T h cells slots) {C : String} {v : Value} (hd : decode bytes pc = .ok (.aastore, 1)) (A : ownRef Z h a C n f) (ix : ¬ j < 0 ∧ j.toNatClampNeg = i ∧ i < n) (hv : v = .null ∨ ∃ y, v = .ref y ∧ Ins Z h y C true) (hfr : n0 ≤ a) (go : ∀ T' h', Wr h h' a i v → ownSt p l e R s m args below meth c Z n0 own bytes mx rt nm T' h' cells slots → ownGo p e m below n0 En Q T' (pc + 1) Ls S) : ownGo p e m below n0 En Q T pc Ls (v :: .int j :: .ref a :: S) := by
  obtain ⟨⟨hx, hZ, hby, hml, hown, hnm, hret, hlk⟩, locs, X, eT, hN⟩ := G
  obtain ⟨cl, A, r0, r1, r2⟩ := A
  have F : Sto Z h a v := by
    rcases hv with rfl | ⟨y, rfl, I⟩
    · exact Or.inl rfl
    · exact Sto.of A r0 I
  obtain ⟨T', h', X', e', W', st⟩ := stR X hx hZ eT A (own_in r1 ix) rfl F (g := mkF m pc Ls (v :: .int j :: .ref a :: S)) rfl rfl (hb hby hd)
  exact ownGo.step (fun t k => st t k) (go T' h' (ix.2.1 ▸ W') ⟨⟨hx, hZ, hby, hml, hown, hnm, hret, hlk⟩, _, X', e', Fr.snoc X' hN hfr⟩)
theorem own_anewarr (G : ownSt p l e R s m args below meth c Z n0 own bytes mx rt nm T h cells slots) {C : String} {index : Nat} {x : Int32} (hd : decode bytes pc = .ok (.anewarray index, 3)) (w1 : (Cond.classLink own index C).before a0 Z = true) (w2 : (Cond.arrayOver (.object C)).before a0 Z = true) (hn : ¬ x < 0) {k cap : Nat} (hk : x.toNatClampNeg = k) (hcap : k ≤ cap) (hb8 : cap * 8 ≤ 536870912) (hc : cells + 1 ≤ R.cells) (hl : slots + cap ≤ R.slots)
    (go : ∀ T' h' a, a = h.size → Ext h h' → ownRef Z h' a C k (fun _ => .null) → ownSt p l e R s m args below meth c Z n0 own bytes mx rt nm T' h' (cells + 1) (slots + cap) → ownGo p e m below n0 En Q T' (pc + 3) Ls (.ref a :: S)) : ownGo p e m below n0 En Q T pc Ls (.int x :: S) := by
  obtain ⟨⟨hx, hZ, hby, hml, hown, hnm, hret, hlk⟩, locs, X, eT, hN⟩ := G
  subst hk
  obtain ⟨T', h', cA, X', e', E', A', O', st⟩ := newR X hx hZ hown w1 w2 eT (g := mkF m pc Ls (.int x :: S)) rfl (hb hby hd) rfl hn hcap hb8 hc hl
  exact ownGo.step (fun t k => st t k) (go T' h' h.size rfl E' ⟨_, A', O', sz_new _ _ _, fun j hj => by simp [newA, hj, defaultValue]⟩ ⟨⟨hx, hZ, hby, hml, hown, hnm, hret, hlk⟩, locs, X', e', hN⟩)
theorem own_callS (G : ownSt p l e R s m args below meth c Z n0 own bytes mx rt nm T h cells slots) {index : Nat} {y : MethodName} {by' : ByteArray} {mx' : Nat} {rt' : Option FieldType} {rm : Room} {as' : Array Value} {Q' : Option Value → Heap → Prop} (hd : decode bytes pc = .ok (.invokestatic index, 3))
    (w1 : (Cond.methodLink own index y).before a0 Z = true) (w2 : (Cond.static y).before a0 Z = true) (w3 : (Cond.initialized y.cls).before a0 Z = true) (w4 : (Cond.code y by' mx' rt').before a0 Z = true) (hy : y.cls ≠ "java/lang/invoke/MethodHandle" ∧ y.cls ≠ "java/lang/invoke/VarHandle")
    {argsL rest : List Value} (hM : ownMet l [] y by' mx' rt' rm Z n0 as' h Q') (has : as' = argsL.toArray) (hst : S = argsL.reverse ++ rest) (hsz : Ls.size = mx) (hlen : ∀ sig, parseMethodDescriptor y.desc = some sig → argsL.length = sig.parameters.length)
    {W : Nat} (hW : (rest.map fun v => v.category).sum ≤ W) (hf : rm.frames + 1 ≤ R.frames) (hl : W + (mx' + 11) + rm.locals ≤ R.locals) (hc : cells + rm.cells ≤ R.cells) (hs : slots + rm.slots ≤ R.slots)
    (go : ∀ v T' h', Q' v h' → ownSt p l e R s m args below meth c Z n0 own bytes mx rt nm T' h' (cells + rm.cells) (slots + rm.slots) → ownGo p e m below n0 En Q T' (pc + 3) Ls (v.toList ++ rest)) : ownGo p e m below n0 En Q T pc Ls S := by
  obtain ⟨⟨hx, hZ, hby, hml, hown, hnm, hret, hlk⟩, locs, X, eT, hN⟩ := G
  subst has hst
  obtain ⟨v, _, ⟨T', L', k', n'⟩, -, X', ⟨Lc, ⟨hQ, hN'⟩, l', y', z'⟩, st⟩ := Jvm.LawKit.callS X hx (y := y) hown (mvT hZ w1) (mvT hZ w2) (mvT hZ w3) (mvT hZ w4) hy (backOf (W := W) (Q := fun v h L => Q' v h ∧ Fr n0 L) hM hZ w4 w3 hf hl) (g := mkF m pc Ls (argsL.reverse ++ rest)) rfl (hsz.trans hml.symm) (argsL := argsL) (rest := rest) hlen rfl (by show 2 * 0 + _ ≤ _; omega) (hb hby hd) (fun _ _ => ⟨rfl, eT, hc, hs⟩)
  dsimp only [Pt.U, Pt.locs, Pt.cells, Pt.slots] at X' l' y' z' st hQ
  subst l' y' z'
  exact ownGo.step (fun t k => st t k) (go v T' T'.heap hQ ⟨⟨hx, hZ, hby, hml, hown, hnm, hret, hlk⟩, _, X', rfl, Fr.app hN hN'⟩)
theorem own_callSUp (G : ownSt p l e R s m args below meth c Z n0 own bytes mx rt nm T h cells slots) {owner : String} {index : Nat} {x : MethodName} {by' : ByteArray} {mx' : Nat} {rt' : Option FieldType} {rm : Room} {as' : Array Value} {Q' : Option Value → Heap → Prop} (hd : decode bytes pc = .ok (.invokestatic index, 3))
    (w1 : (Cond.methodLink own index x).before a0 Z = true) (wm : (Cond.sameMethod x.cls owner x.name x.desc).before a0 Z = true) (w2 : (Cond.static ⟨owner, x.name, x.desc⟩).before a0 Z = true) (w3 : (Cond.initialized owner).before a0 Z = true) (w4 : (Cond.code ⟨owner, x.name, x.desc⟩ by' mx' rt').before a0 Z = true) (hy : owner ≠ "java/lang/invoke/MethodHandle" ∧ owner ≠ "java/lang/invoke/VarHandle")
    {argsL rest : List Value} (hM : ownMet l [] ⟨owner, x.name, x.desc⟩ by' mx' rt' rm Z n0 as' h Q') (has : as' = argsL.toArray) (hst : S = argsL.reverse ++ rest) (hsz : Ls.size = mx) (hlen : ∀ sig, parseMethodDescriptor x.desc = some sig → argsL.length = sig.parameters.length)
    {W : Nat} (hW : (rest.map fun v => v.category).sum ≤ W) (hf : rm.frames + 1 ≤ R.frames) (hl : W + (mx' + 11) + rm.locals ≤ R.locals) (hc : cells + rm.cells ≤ R.cells) (hs : slots + rm.slots ≤ R.slots)
    (go : ∀ v T' h', Q' v h' → ownSt p l e R s m args below meth c Z n0 own bytes mx rt nm T' h' (cells + rm.cells) (slots + rm.slots) → ownGo p e m below n0 En Q T' (pc + 3) Ls (v.toList ++ rest)) : ownGo p e m below n0 En Q T pc Ls S := by
  obtain ⟨⟨hx, hZ, hby, hml, hown, hnm, hret, hlk⟩, locs, X, eT, hN⟩ := G
  subst has hst
  have w4s : (Cond.code ⟨owner, x.name, x.desc⟩ by' mx' rt').before args s = true := mvT hZ w4
  obtain ⟨mk, hnamed⟩ := Cond.code_named w4s
  obtain ⟨methM, cM, hmethM, -, -, -, -, -, -, hsigM⟩ := Cond.code_spec hnamed w4s
  obtain ⟨v, _, ⟨T', L', k', n'⟩, -, X', ⟨Lc, ⟨hQ, hN'⟩, l', y', z'⟩, st⟩ := X.staticBackUp hx (x := x) hown (mvT hZ w1) (mvT hZ wm) (mvT hZ w2) (mvT hZ w3) hnamed hmethM hsigM hy (backOf (W := W) (Q := fun v h L => Q' v h ∧ Fr n0 L) hM hZ w4 w3 hf hl) (g := mkF m pc Ls (argsL.reverse ++ rest)) rfl (hsz.trans hml.symm) (Steps.refl _) (argsL := argsL) (rest := rest) hlen rfl (by show 2 * 0 + _ ≤ _; omega) (hb hby hd) (fun _ _ => ⟨rfl, eT, hc, hs⟩)
  dsimp only [Pt.U, Pt.locs, Pt.cells, Pt.slots] at X' l' y' z' st hQ
  subst l' y' z'
  exact ownGo.step (fun t k => st.trans k) (go v T' T'.heap hQ ⟨⟨hx, hZ, hby, hml, hown, hnm, hret, hlk⟩, _, X', rfl, Fr.app hN hN'⟩)
theorem own_special (G : ownSt p l e R s m args below meth c Z n0 own bytes mx rt nm T h cells slots) {index : Nat} {y : MethodName} {by' : ByteArray} {mx' : Nat} {rm : Room} {as' : Array Value} {Q' : Option Value → Heap → Prop} (hd : decode bytes pc = .ok (.invokespecial index, 3)) (hy1 : y.name = "<init>")
    (w1 : (Cond.methodLink own index y).before a0 Z = true) (w2 : (Cond.instanceMethod y).before a0 Z = true) (w3 : (Cond.initialized y.cls).before a0 Z = true) (w4 : (Cond.code y by' mx' none).before a0 Z = true) (hy : y.cls ≠ "java/lang/invoke/MethodHandle" ∧ y.cls ≠ "java/lang/invoke/VarHandle")
    {argsL rest : List Value} (hM : ownMet l [] y by' mx' none rm Z n0 as' h Q') (has : as' = (.ref a :: argsL).toArray) (hst : S = argsL.reverse ++ .ref a :: rest) (hsz : Ls.size = mx) (hlen : ∀ sig, parseMethodDescriptor y.desc = some sig → argsL.length = sig.parameters.length)
    {W : Nat} (hW : (rest.map fun v => v.category).sum ≤ W) (hf : rm.frames + 1 ≤ R.frames) (hl : W + (mx' + 11) + rm.locals ≤ R.locals) (hc : cells + rm.cells ≤ R.cells) (hs : slots + rm.slots ≤ R.slots)
    (go : ∀ v T' h', Q' v h' → ownSt p l e R s m args below meth c Z n0 own bytes mx rt nm T' h' (cells + rm.cells) (slots + rm.slots) → ownGo p e m below n0 En Q T' (pc + 3) Ls (v.toList ++ rest)) : ownGo p e m below n0 En Q T pc Ls S := by
  obtain ⟨⟨hx, hZ, hby, hml, hown, hnm, hret, hlk⟩, locs, X, eT, hN⟩ := G
  subst has hst
  obtain ⟨v, _, ⟨T', L', k', n'⟩, -, X', ⟨Lc, ⟨hQ, hN'⟩, l', y', z'⟩, st⟩ := X.specialBack hx (y := y) hy1 hown (mvT hZ w1) (mvT hZ w2) (mvT hZ w4) hy (backOf (W := W) (Q := fun v h L => Q' v h ∧ Fr n0 L) hM hZ w4 w3 hf hl) (g := mkF m pc Ls (argsL.reverse ++ .ref a :: rest)) rfl (hsz.trans hml.symm) (Steps.refl _) (a := a) (argsL := argsL) (rest := rest) hlen rfl (by show 2 * 0 + _ ≤ _; omega) (hb hby hd) (fun _ _ => ⟨rfl, eT, hc, hs⟩)
  dsimp only [Pt.U, Pt.locs, Pt.cells, Pt.slots] at X' l' y' z' st hQ
  subst l' y' z'
  exact ownGo.step (fun t k => st.trans k) (go v T' T'.heap hQ ⟨⟨hx, hZ, hby, hml, hown, hnm, hret, hlk⟩, _, X', rfl, Fr.app hN hN'⟩)
theorem own_virtual (G : ownSt p l e R s m args below meth c Z n0 own bytes mx rt nm T h cells slots) {C : String} {index : Nat} {y : MethodName} {by' : ByteArray} {mx' : Nat} {rt' : Option FieldType} {rm : Room} {as' : Array Value} {Q' : Option Value → Heap → Prop} (hd : decode bytes pc = .ok (.invokevirtual index, 3))
    (w1 : (Cond.methodLink own index y).before a0 Z = true) (w2 : (Cond.declares y).before a0 Z = true) (ws : (Cond.selects C y y).before a0 Z = true) (wi : (Cond.instanceMethod y).before a0 Z = true) (w3 : (Cond.initialized y.cls).before a0 Z = true) (w4 : (Cond.code y by' mx' rt').before a0 Z = true) (hy : y.cls ≠ "java/lang/invoke/MethodHandle" ∧ y.cls ≠ "java/lang/invoke/VarHandle")
    {argsL rest : List Value} (E : Exa Z h a C) (hM : ownMet l [] y by' mx' rt' rm Z n0 as' h Q') (has : as' = (.ref a :: argsL).toArray) (hst : S = argsL.reverse ++ .ref a :: rest) (hsz : Ls.size = mx) (hlen : ∀ sig, parseMethodDescriptor y.desc = some sig → argsL.length = sig.parameters.length)
    {W : Nat} (hW : (rest.map fun v => v.category).sum ≤ W) (hf : rm.frames + 1 ≤ R.frames) (hl : W + (mx' + 11) + rm.locals ≤ R.locals) (hc : cells + rm.cells ≤ R.cells) (hs : slots + rm.slots ≤ R.slots)
    (go : ∀ v T' h', Q' v h' → ownSt p l e R s m args below meth c Z n0 own bytes mx rt nm T' h' (cells + rm.cells) (slots + rm.slots) → ownGo p e m below n0 En Q T' (pc + 3) Ls (v.toList ++ rest)) : ownGo p e m below n0 En Q T pc Ls S := by
  obtain ⟨⟨hx, hZ, hby, hml, hown, hnm, hret, hlk⟩, locs, X, eT, hN⟩ := G
  subst has hst
  obtain ⟨cq, kq, qa, qb, qc⟩ := isOf hZ eT E
  obtain ⟨v, _, ⟨T', L', k', n'⟩, -, X', ⟨Lc, ⟨hQ, hN'⟩, l', y', z'⟩, st⟩ := X.virtualBack hx (y := y) (z := y) hown (mvT hZ w1) (mvT hZ w2) (notFace_of_selects (args := #[]) (mvT hZ ws)) (mvT hZ ws) (mvT hZ wi) hy (backOf (W := W) (Q := fun v h L => Q' v h ∧ Fr n0 L) hM hZ w4 w3 hf hl) qa qc (g := mkF m pc Ls (argsL.reverse ++ .ref a :: rest)) rfl (hsz.trans hml.symm) (Steps.refl _) (argsL := argsL) (rest := rest) hlen rfl (by show 2 * 0 + _ ≤ _; omega) (hb hby hd) (fun _ _ => ⟨rfl, eT, hc, hs⟩)
  dsimp only [Pt.U, Pt.locs, Pt.cells, Pt.slots] at X' l' y' z' st hQ
  subst l' y' z'
  exact ownGo.step (fun t k => st.trans k) (go v T' T'.heap hQ ⟨⟨hx, hZ, hby, hml, hown, hnm, hret, hlk⟩, _, X', rfl, Fr.app hN hN'⟩)
theorem own_interface (G : ownSt p l e R s m args below meth c Z n0 own bytes mx rt nm T h cells slots) {C : String} {index count : Nat} {xi y : MethodName} {by' : ByteArray} {mx' : Nat} {rt' : Option FieldType} {rm : Room} {as' : Array Value} {Q' : Option Value → Heap → Prop} (hd : decode bytes pc = .ok (.invokeinterface index count, 5))
    (w1 : (Cond.methodLink own index xi).before a0 Z = true) (w2 : (Cond.declares xi).before a0 Z = true) (wf : (Cond.interfaceMethod xi.cls xi.cls xi.name xi.desc).before a0 Z = true) (ws : (Cond.selects C xi y).before a0 Z = true) (wi : (Cond.instanceMethod y).before a0 Z = true) (wp : (Cond.publicMethod y).before a0 Z = true) (wu : (Cond.unhidden C xi.name xi.desc).before a0 Z = true) (wc : (Cond.castable C xi.cls).before a0 Z = true) (w3 : (Cond.initialized y.cls).before a0 Z = true) (w4 : (Cond.code y by' mx' rt').before a0 Z = true) (hy : xi.cls ≠ "java/lang/invoke/MethodHandle" ∧ xi.cls ≠ "java/lang/invoke/VarHandle")
    {argsL rest : List Value} (E : Exa Z h a C) (hM : ownMet l [] y by' mx' rt' rm Z n0 as' h Q') (has : as' = (.ref a :: argsL).toArray) (hst : S = argsL.reverse ++ .ref a :: rest) (hsz : Ls.size = mx) (hlen : ∀ sig, parseMethodDescriptor xi.desc = some sig → argsL.length = sig.parameters.length)
    {W : Nat} (hW : (rest.map fun v => v.category).sum ≤ W) (hf : rm.frames + 1 ≤ R.frames) (hl : W + (mx' + 11) + rm.locals ≤ R.locals) (hc : cells + rm.cells ≤ R.cells) (hs : slots + rm.slots ≤ R.slots)
    (go : ∀ v T' h', Q' v h' → ownSt p l e R s m args below meth c Z n0 own bytes mx rt nm T' h' (cells + rm.cells) (slots + rm.slots) → ownGo p e m below n0 En Q T' (pc + 5) Ls (v.toList ++ rest)) : ownGo p e m below n0 En Q T pc Ls S := by
  obtain ⟨⟨hx, hZ, hby, hml, hown, hnm, hret, hlk⟩, locs, X, eT, hN⟩ := G
  subst has hst
  obtain ⟨cq, kq, qa, qb, qc⟩ := isOf hZ eT E
  obtain ⟨v, _, ⟨T', L', k', n'⟩, -, X', ⟨Lc, ⟨hQ, hN'⟩, l', y', z'⟩, st⟩ := X.interfaceBack hx (xi := xi) (y := y) hown (mvT hZ w1) (mvT hZ w2) (mvT hZ wf (by simp [Cond.onTables, Cond.keepsFace, Cond.keeps, Cond.steady, Cond.faceAtom, hy])) (mvT hZ ws) (mvT hZ wi) (mvT hZ wp) (mvT hZ wu) (mvT hZ wc) hy (backOf (W := W) (Q := fun v h L => Q' v h ∧ Fr n0 L) hM hZ w4 w3 hf hl) qa qb qc (g := mkF m pc Ls (argsL.reverse ++ .ref a :: rest)) rfl (hsz.trans hml.symm) (Steps.refl _) (argsL := argsL) (rest := rest) hlen rfl (by show 2 * 0 + _ ≤ _; omega) (hb hby hd) (fun _ _ => ⟨rfl, eT, hc, hs⟩)
  dsimp only [Pt.U, Pt.locs, Pt.cells, Pt.slots] at X' l' y' z' st hQ
  subst l' y' z'
  exact ownGo.step (fun t k => st.trans k) (go v T' T'.heap hQ ⟨⟨hx, hZ, hby, hml, hown, hnm, hret, hlk⟩, _, X', rfl, Fr.app hN hN'⟩)
theorem own_private (G : ownSt p l e R s m args below meth c Z n0 own bytes mx rt nm T h cells slots) {index : Nat} {y : MethodName} {by' : ByteArray} {mx' : Nat} {rt' : Option FieldType} {rm : Room} {as' : Array Value} {Q' : Option Value → Heap → Prop} {C : String} (hd : decode bytes pc = .ok (.invokevirtual index, 3))
    (w1 : (Cond.methodLink own index y).before a0 Z = true) (wi : (Cond.instanceMethod y).before a0 Z = true) (ws : (Cond.selects y.cls y y).before a0 Z = true) (wp : (Cond.privateMethod y).before a0 Z = true) (w3 : (Cond.initialized y.cls).before a0 Z = true) (w4 : (Cond.code y by' mx' rt').before a0 Z = true) (hy : y.cls ≠ "java/lang/invoke/MethodHandle" ∧ y.cls ≠ "java/lang/invoke/VarHandle")
    {argsL rest : List Value} (E : Exa Z h a C) (hM : ownMet l [] y by' mx' rt' rm Z n0 as' h Q') (has : as' = (.ref a :: argsL).toArray) (hst : S = argsL.reverse ++ .ref a :: rest) (hsz : Ls.size = mx) (hlen : ∀ sig, parseMethodDescriptor y.desc = some sig → argsL.length = sig.parameters.length)
    {W : Nat} (hW : (rest.map fun v => v.category).sum ≤ W) (hf : rm.frames + 1 ≤ R.frames) (hl : W + (mx' + 11) + rm.locals ≤ R.locals) (hc : cells + rm.cells ≤ R.cells) (hs : slots + rm.slots ≤ R.slots)
    (go : ∀ v T' h', Q' v h' → ownSt p l e R s m args below meth c Z n0 own bytes mx rt nm T' h' (cells + rm.cells) (slots + rm.slots) → ownGo p e m below n0 En Q T' (pc + 3) Ls (v.toList ++ rest)) : ownGo p e m below n0 En Q T pc Ls S := by
  obtain ⟨⟨hx, hZ, hby, hml, hown, hnm, hret, hlk⟩, locs, X, eT, hN⟩ := G
  subst has hst
  obtain ⟨cq, q1, q2⟩ := E.cell
  obtain ⟨v, _, ⟨T', L', k', n'⟩, -, X', ⟨Lc, ⟨hQ, hN'⟩, l', y', z'⟩, st⟩ := X.privateBack hx (y := y) hown (mvT hZ w1) (mvT hZ wi) (mvT hZ ws) (Cond.privateMethod_at (mvP hZ wp (args := #[]))) (mvT hZ w4) hy (backOf (W := W) (Q := fun v h L => Q' v h ∧ Fr n0 L) hM hZ w4 w3 hf hl) (g := mkF m pc Ls (argsL.reverse ++ .ref a :: rest)) rfl (hsz.trans hml.symm) (Steps.refl _) (a := a) (by rw [eT]; exact q1) q2 (argsL := argsL) (rest := rest) hlen rfl (by show 2 * 0 + _ ≤ _; omega) (hb hby hd) (fun _ _ => ⟨rfl, eT, hc, hs⟩)
  dsimp only [Pt.U, Pt.locs, Pt.cells, Pt.slots] at X' l' y' z' st hQ
  subst l' y' z'
  exact ownGo.step (fun t k => st.trans k) (go v T' T'.heap hQ ⟨⟨hx, hZ, hby, hml, hown, hnm, hret, hlk⟩, _, X', rfl, Fr.app hN hN'⟩)
theorem own_more (G : ownSt p l e R s m args below meth c Z n0 own bytes mx rt nm T h cells slots) {k n' : Nat} (hc : cells ≤ k) (hs : slots ≤ n') : ownSt p l e R s m args below meth c Z n0 own bytes mx rt nm T h k n' := by
  obtain ⟨⟨hx, hZ, hby, hml, hown, hnm, hret, hlk⟩, locs, X, eT, hN⟩ := G
  exact ⟨⟨hx, hZ, hby, hml, hown, hnm, hret, hlk⟩, locs, X.more hc hs, eT, hN⟩
end Own
section Wide
variable {p : Program} {l : Launch} {e : Env} {R : Room} {s : State} {m : MethodId} {args : Array Value} {below : List Frame} {meth : Method} {c : Code} {T : State} {cells slots n0 : Nat} {Z : State} {a0 : Array Value} {h h' h0 : Heap} {own nm : String} {bytes : ByteArray} {mx : Nat} {rt : Option FieldType} {Q : Option Value → Heap → Prop} {En : Outcome → State → List Loc → Prop} {pc : Nat} {Ls : Array Slot} {S : List Value} {a b : Addr}
def ownMetW (l : Launch) (ws : List Jvm.Cond) (y : MethodName) (bytes : ByteArray) (mx : Nat) (rt : Option FieldType) (rm : Room) (Z : State) (n0 : Nat) (as' : Array Value) (h0 : Heap) (Q : Option Value → Heap → Prop) : Prop :=
  MetFree l y (head1 (Jvm.Cond.code y bytes mx rt :: ws) rm) (fun a U => a = as' ∧ Z.Warmed39 U.vm ∧ U.heap = h0) (fun _ _ _ _ _ => True) (fun _ U o U' => ∃ v L, o = .returned v ∧ (Q v U'.heap ∧ Fr n0 L) ∧ ReturnedEndW U o U' L rm.cells rm.slots)
theorem own_bodyW {ws : List Jvm.Cond} {y : MethodName} {rm : Room} {as' : Array Value} {L0 : Array Slot} (pn : plainFor y = true) (ef : ∀ m, entryFrame m as' mx = mkF m 0 L0 []) (hc : y.cls = own) (hn : y.name = nm)
    (body : ∀ p e s m below meth c s₁, ownSt p l e rm s m as' below meth c Z n0 own bytes mx rt nm s₁ h0 0 0 → ownGo p e m below n0 (fun o t L => ReturnedEndW s o t L rm.cells rm.slots) Q s₁ 0 L0 []) : ownMetW l ws y bytes mx rt rm Z n0 as' h0 Q := by
  subst hc hn
  refine MetFree.of_bodySF pn hisR ?_
  intro p e s m args below meth c s₁ Bd hml0 hP hK
  obtain ⟨rfl, hZ, hh⟩ := hP
  have e0 : s₁.heap = h0 := by rw [← hh, Bd.state]; rfl
  obtain ⟨s₂, o, h1, h2, h3, v, L, h4, h5, h6⟩ := body p e s m below meth c s₁ ⟨⟨Bd.exec, hZ, Bd.bytes, hml0, findClass_of_methodNamed Bd.named, (name_of_methodNamed Bd.named Bd.method).1, Bd.returns, Bd.notSynchronized⟩, [], Stand.of_body Bd, e0, Fr.nil n0⟩
  exact ⟨s₂, o, castTop (ef m) h1, h2, h3, v, L, h4, h5, h6⟩
theorem own_ldcStr (G : ownSt p l e R s m args below meth c Z n0 own bytes mx rt nm T h cells slots) {index nn : Nat} {text : String} (hd : decode bytes pc = .ok (.ldc index, 2)) (w : (Cond.stringLink own index text).before a0 Z = true) (wS : ∀ a ∈ Bundle.stringAtoms, a.before a0 Z = true) (hn : 4 * text.toList.length ≤ nn) (hbig : nn ≤ 536870912) (hc : cells + 2 ≤ R.cells) (hl : slots + (nn + 4) ≤ R.slots)
    (go : ∀ a T' h' vm1 k1, k1 ≤ h'.size → Ext h h' → ownSt p l e R (s.setVm vm1) m args below meth c Z n0 own bytes mx rt nm T' h' (cells + 2) (slots + (nn + 4)) → ownGo p e m below n0 (ownEnd (s.setVm vm1) R) (fun v h => Q v h ∧ k1 ≤ h.size) T' (pc + 2) Ls (.ref a :: S)) : ownGo p e m below n0 (fun o t L => ReturnedEndW s o t L R.cells R.slots) Q T pc Ls S := by
  obtain ⟨⟨hx, hZ, hby, hml, hown, hnm, hret, hlk⟩, locs, X, eT, hN⟩ := G
  obtain ⟨a, T', h', k1, X', e', E', hS, hk, hZ', hown', st⟩ := ldcS (s := s) (vm0 := s.vm) X hx hZ hown w wS eT (k0 := 0) ((State.WarmedH.refl s).since 0) (Nat.zero_le _) (g := mkF m pc Ls S) rfl (hb hby hd) hn hbig hc hl
  obtain ⟨s₂, o, h1, h2, h3, v, L, h4, ⟨⟨h5, h5'⟩, h6⟩, h7⟩ := go a T' h' T'.vm k1 hk E' ⟨⟨hx, hZ', hby, hml, hown', hnm, hret, hlk⟩, _, X', e', hN⟩
  obtain ⟨f1, f2, f3⟩ := h7
  obtain ⟨a1, a2, a3⟩ := hS.ended (U := s₂) f2 h5' f3
  exact ⟨s₂, o, st _ h1, h2, h3, v, L, h4, ⟨h5, h6⟩, f1, a1, a2, a3⟩
end Wide
def ownUpd {α : Type} (f : Nat → α) (i : Nat) (v : α) (j : Nat) : α := if j = i then v else f j
theorem ownArr.setL {Z : State} {h h' : Heap} {a : Addr} {n i : Nat} {f : Nat → Int64} {v : Int64} (A : ownArr Z h a .long n (fun j => .long (f j))) (W : Wr h h' a i (.long v)) : ownArr Z h' a .long n (fun j => .long (ownUpd f i v j)) :=
  (A.same W).congr fun j _ => by unfold ownUpd; by_cases q : j = i <;> simp [q]
theorem ownArr.setI {Z : State} {h h' : Heap} {a : Addr} {n i : Nat} {f : Nat → Int32} {v : Int32} (A : ownArr Z h a .int n (fun j => .int (f j))) (W : Wr h h' a i (.int v)) : ownArr Z h' a .int n (fun j => .int (ownUpd f i v j)) :=
  (A.same W).congr fun j _ => by unfold ownUpd; by_cases q : j = i <;> simp [q]
theorem ownArr.setN {Z : State} {h h' : Heap} {a : Addr} {n i : Nat} {f : Nat → Nat} {v : Nat} (A : ownArr Z h a .int n (fun j => .int (Int32.ofNat (f j)))) (W : Wr h h' a i (.int (Int32.ofNat v))) : ownArr Z h' a .int n (fun j => .int (Int32.ofNat (ownUpd f i v j))) :=
  (A.same W).congr fun j _ => by unfold ownUpd; by_cases q : j = i <;> simp [q]
theorem own_neA {a b : Nat} (h : ¬ @Eq Nat a b) : @Ne Addr a b := h
theorem own_n32 {i : Nat} (hi : i < 2147483648) : (Int32.ofNat i).toInt = (i : Int) := by
  rw [Int32.toInt_ofNat_of_lt (by simpa using hi)]
theorem own_ltN {i n : Nat} (hi : i < 2147483648) (hn : n < 2147483648) : Int32.ofNat i < Int32.ofNat n ↔ i < n := by
  rw [Int32.lt_iff_toInt_lt, own_n32 hi, own_n32 hn]; omega
theorem own_injN {i n : Nat} (hi : i < 2147483648) (hn : n < 2147483648) (h : Int32.ofNat i = Int32.ofNat n) : i = n := by
  have q := congrArg Int32.toInt h; rw [own_n32 hi, own_n32 hn] at q; omega
theorem own_clampN {i : Nat} (hi : i < 2147483648) : (Int32.ofNat i).toNatClampNeg = i := by
  show (Int32.ofNat i).toInt.toNat = i; rw [own_n32 hi]; omega
theorem own_nonneg {i : Nat} (hi : i < 2147483648) : ¬ Int32.ofNat i < 0 := by
  rw [Int32.lt_iff_toInt_lt, own_n32 hi]; show ¬ (i : Int) < 0; omega
theorem own_ixN {i n : Nat} (hi : i < n) (hn : n < 2147483648) : ¬ Int32.ofNat i < 0 ∧ (Int32.ofNat i).toNatClampNeg = i ∧ i < n := ⟨own_nonneg (by omega), own_clampN (by omega), hi⟩
theorem own_succN' (i : Nat) : Int32.ofNat i + 1 = Int32.ofNat (i + 1) := (Int32.ofNat_add i 1).symm
theorem own_predN (i : Nat) : Int32.ofNat (i + 1) - 1 = Int32.ofNat i := by
  rw [← own_succN']; exact Int32.add_sub_cancel _ _
theorem own_decN (i : Nat) : Int32.ofNat i + (-1 : Int32) = Int32.ofNat i - 1 := (Int32.sub_eq_add_neg _ _).symm
theorem own_succN (i : Nat) : Int32.ofNat i + 1 = Int32.ofNat (i + 1) := (Int32.ofNat_add i 1).symm
theorem d1_0 : decode prog_18_method_1_code 0 = .ok (.aload_n 0, 1) := by decide +kernel
theorem d1_1 : decode prog_18_method_1_code 1 = .ok (.invokespecial 1, 3) := by decide +kernel
theorem d1_4 : decode prog_18_method_1_code 4 = .ok (.aload_n 0, 1) := by decide +kernel
theorem d1_5 : decode prog_18_method_1_code 5 = .ok (.aload_n 1, 1) := by decide +kernel
theorem d1_6 : decode prog_18_method_1_code 6 = .ok (.putfield 7, 3) := by decide +kernel
theorem d1_9 : decode prog_18_method_1_code 9 = .ok (.aload_n 0, 1) := by decide +kernel
theorem d1_10 : decode prog_18_method_1_code 10 = .ok (.lload_n 2, 1) := by decide +kernel
theorem d1_11 : decode prog_18_method_1_code 11 = .ok (.putfield 13, 3) := by decide +kernel
theorem d1_14 : decode prog_18_method_1_code 14 = .ok (.return_, 1) := by decide +kernel
theorem d2_0 : decode jdk_30_method_1_code 0 = .ok (.aload_n 0, 1) := by decide +kernel
theorem d2_1 : decode jdk_30_method_1_code 1 = .ok (.invokespecial 1, 3) := by decide +kernel
theorem d2_4 : decode jdk_30_method_1_code 4 = .ok (.return_, 1) := by decide +kernel
theorem d4_0 : decode jdk_38_method_2_code 0 = .ok (.aload_n 0, 1) := by decide +kernel
theorem d4_1 : decode jdk_38_method_2_code 1 = .ok (.invokespecial 1, 3) := by decide +kernel
theorem d4_4 : decode jdk_38_method_2_code 4 = .ok (.aload_n 0, 1) := by decide +kernel
theorem d4_5 : decode jdk_38_method_2_code 5 = .ok (.getstatic 39, 3) := by decide +kernel
theorem d4_8 : decode jdk_38_method_2_code 8 = .ok (.putfield 9, 3) := by decide +kernel
theorem d4_11 : decode jdk_38_method_2_code 11 = .ok (.return_, 1) := by decide +kernel
theorem d5_0 : decode jdk_39_method_1_code 0 = .ok (.aload_n 0, 1) := by decide +kernel
theorem d5_1 : decode jdk_39_method_1_code 1 = .ok (.invokespecial 1, 3) := by decide +kernel
theorem d5_4 : decode jdk_39_method_1_code 4 = .ok (.aload_n 0, 1) := by decide +kernel
theorem d5_5 : decode jdk_39_method_1_code 5 = .ok (.iconst 0, 1) := by decide +kernel
theorem d5_6 : decode jdk_39_method_1_code 6 = .ok (.putfield 7, 3) := by decide +kernel
theorem d5_9 : decode jdk_39_method_1_code 9 = .ok (.return_, 1) := by decide +kernel
theorem d6_0 : decode jdk_22_method_1_code 0 = .ok (.aload_n 0, 1) := by decide +kernel
theorem d6_1 : decode jdk_22_method_1_code 1 = .ok (.invokespecial 1, 3) := by decide +kernel
theorem d6_4 : decode jdk_22_method_1_code 4 = .ok (.return_, 1) := by decide +kernel
theorem d7_0 : decode jdk_38_method_25_code 0 = .ok (.aload_n 0, 1) := by decide +kernel
theorem d7_1 : decode jdk_38_method_25_code 1 = .ok (.dup, 1) := by decide +kernel
theorem d7_2 : decode jdk_38_method_25_code 2 = .ok (.getfield 63, 3) := by decide +kernel
theorem d7_5 : decode jdk_38_method_25_code 5 = .ok (.iconst 1, 1) := by decide +kernel
theorem d7_6 : decode jdk_38_method_25_code 6 = .ok (.iadd, 1) := by decide +kernel
theorem d7_7 : decode jdk_38_method_25_code 7 = .ok (.putfield 63, 3) := by decide +kernel
theorem d7_10 : decode jdk_38_method_25_code 10 = .ok (.aload_n 0, 1) := by decide +kernel
theorem d7_11 : decode jdk_38_method_25_code 11 = .ok (.aload_n 1, 1) := by decide +kernel
theorem d7_12 : decode jdk_38_method_25_code 12 = .ok (.aload_n 0, 1) := by decide +kernel
theorem d7_13 : decode jdk_38_method_25_code 13 = .ok (.getfield 9, 3) := by decide +kernel
theorem d7_16 : decode jdk_38_method_25_code 16 = .ok (.aload_n 0, 1) := by decide +kernel
theorem d7_17 : decode jdk_38_method_25_code 17 = .ok (.getfield 48, 3) := by decide +kernel
theorem d7_20 : decode jdk_38_method_25_code 20 = .ok (.invokevirtual 131, 3) := by decide +kernel
theorem d7_23 : decode jdk_38_method_25_code 23 = .ok (.iconst 1, 1) := by decide +kernel
theorem d7_24 : decode jdk_38_method_25_code 24 = .ok (.ireturn, 1) := by decide +kernel
theorem d8_0 : decode jdk_38_method_24_code 0 = .ok (.iload_n 3, 1) := by decide +kernel
theorem d8_1 : decode jdk_38_method_24_code 1 = .ok (.aload_n 2, 1) := by decide +kernel
theorem d8_2 : decode jdk_38_method_24_code 2 = .ok (.arraylength, 1) := by decide +kernel
theorem d8_3 : decode jdk_38_method_24_code 3 = .ok (.if_icmp .ne 8, 3) := by decide +kernel
theorem d8_6 : decode jdk_38_method_24_code 6 = .ok (.aload_n 0, 1) := by decide +kernel
theorem d8_7 : decode jdk_38_method_24_code 7 = .ok (.invokevirtual 129, 3) := by decide +kernel
theorem d8_10 : decode jdk_38_method_24_code 10 = .ok (.astore_n 2, 1) := by decide +kernel
theorem d8_11 : decode jdk_38_method_24_code 11 = .ok (.aload_n 2, 1) := by decide +kernel
theorem d8_12 : decode jdk_38_method_24_code 12 = .ok (.iload_n 3, 1) := by decide +kernel
theorem d8_13 : decode jdk_38_method_24_code 13 = .ok (.aload_n 1, 1) := by decide +kernel
theorem d8_14 : decode jdk_38_method_24_code 14 = .ok (.aastore, 1) := by decide +kernel
theorem d8_15 : decode jdk_38_method_24_code 15 = .ok (.aload_n 0, 1) := by decide +kernel
theorem d8_16 : decode jdk_38_method_24_code 16 = .ok (.iload_n 3, 1) := by decide +kernel
theorem d8_17 : decode jdk_38_method_24_code 17 = .ok (.iconst 1, 1) := by decide +kernel
theorem d8_18 : decode jdk_38_method_24_code 18 = .ok (.iadd, 1) := by decide +kernel
theorem d8_19 : decode jdk_38_method_24_code 19 = .ok (.putfield 48, 3) := by decide +kernel
theorem d8_22 : decode jdk_38_method_24_code 22 = .ok (.return_, 1) := by decide +kernel
theorem d9_0 : decode jdk_38_method_7_code 0 = .ok (.aload_n 0, 1) := by decide +kernel
theorem d9_1 : decode jdk_38_method_7_code 1 = .ok (.aload_n 0, 1) := by decide +kernel
theorem d9_2 : decode jdk_38_method_7_code 2 = .ok (.getfield 48, 3) := by decide +kernel
theorem d9_5 : decode jdk_38_method_7_code 5 = .ok (.iconst 1, 1) := by decide +kernel
theorem d9_6 : decode jdk_38_method_7_code 6 = .ok (.iadd, 1) := by decide +kernel
theorem d9_7 : decode jdk_38_method_7_code 7 = .ok (.invokevirtual 69, 3) := by decide +kernel
theorem d9_10 : decode jdk_38_method_7_code 10 = .ok (.areturn, 1) := by decide +kernel
theorem d10_0 : decode jdk_38_method_6_code 0 = .ok (.aload_n 0, 1) := by decide +kernel
theorem d10_1 : decode jdk_38_method_6_code 1 = .ok (.getfield 9, 3) := by decide +kernel
theorem d10_4 : decode jdk_38_method_6_code 4 = .ok (.arraylength, 1) := by decide +kernel
theorem d10_5 : decode jdk_38_method_6_code 5 = .ok (.istore_n 2, 1) := by decide +kernel
theorem d10_6 : decode jdk_38_method_6_code 6 = .ok (.iload_n 2, 1) := by decide +kernel
theorem d10_7 : decode jdk_38_method_6_code 7 = .ok (.ifCond .gt 13, 3) := by decide +kernel
theorem d10_10 : decode jdk_38_method_6_code 10 = .ok (.aload_n 0, 1) := by decide +kernel
theorem d10_11 : decode jdk_38_method_6_code 11 = .ok (.getfield 9, 3) := by decide +kernel
theorem d10_14 : decode jdk_38_method_6_code 14 = .ok (.getstatic 39, 3) := by decide +kernel
theorem d10_17 : decode jdk_38_method_6_code 17 = .ok (.if_acmp .eq 28, 3) := by decide +kernel
theorem d10_45 : decode jdk_38_method_6_code 45 = .ok (.aload_n 0, 1) := by decide +kernel
theorem d10_46 : decode jdk_38_method_6_code 46 = .ok (.bipush 10, 2) := by decide +kernel
theorem d10_48 : decode jdk_38_method_6_code 48 = .ok (.iload_n 1, 1) := by decide +kernel
theorem d10_49 : decode jdk_38_method_6_code 49 = .ok (.invokestatic 79, 3) := by decide +kernel
theorem d10_52 : decode jdk_38_method_6_code 52 = .ok (.anewarray 7, 3) := by decide +kernel
theorem d10_55 : decode jdk_38_method_6_code 55 = .ok (.dup_x1, 1) := by decide +kernel
theorem d10_56 : decode jdk_38_method_6_code 56 = .ok (.putfield 9, 3) := by decide +kernel
theorem d10_59 : decode jdk_38_method_6_code 59 = .ok (.areturn, 1) := by decide +kernel
theorem d11_0 : decode jdk_29_method_65_code 0 = .ok (.iload_n 0, 1) := by decide +kernel
theorem d11_1 : decode jdk_29_method_65_code 1 = .ok (.iload_n 1, 1) := by decide +kernel
theorem d11_2 : decode jdk_29_method_65_code 2 = .ok (.if_icmp .lt 7, 3) := by decide +kernel
theorem d11_5 : decode jdk_29_method_65_code 5 = .ok (.iload_n 0, 1) := by decide +kernel
theorem d11_6 : decode jdk_29_method_65_code 6 = .ok (.goto 4, 3) := by decide +kernel
theorem d11_10 : decode jdk_29_method_65_code 10 = .ok (.ireturn, 1) := by decide +kernel
theorem d12_0 : decode prog_19_method_1_code 0 = .ok (.aload_n 0, 1) := by decide +kernel
theorem d12_1 : decode prog_19_method_1_code 1 = .ok (.invokespecial 1, 3) := by decide +kernel
theorem d12_4 : decode prog_19_method_1_code 4 = .ok (.aload_n 0, 1) := by decide +kernel
theorem d12_5 : decode prog_19_method_1_code 5 = .ok (.aload_n 1, 1) := by decide +kernel
theorem d12_6 : decode prog_19_method_1_code 6 = .ok (.putfield 7, 3) := by decide +kernel
theorem d12_9 : decode prog_19_method_1_code 9 = .ok (.aload_n 0, 1) := by decide +kernel
theorem d12_10 : decode prog_19_method_1_code 10 = .ok (.aload_n 2, 1) := by decide +kernel
theorem d12_11 : decode prog_19_method_1_code 11 = .ok (.putfield 13, 3) := by decide +kernel
theorem d12_14 : decode prog_19_method_1_code 14 = .ok (.return_, 1) := by decide +kernel
theorem d13_0 : decode prog_19_method_2_code 0 = .ok (.aload_n 0, 1) := by decide +kernel
theorem d13_1 : decode prog_19_method_2_code 1 = .ok (.getfield 13, 3) := by decide +kernel
theorem d13_4 : decode prog_19_method_2_code 4 = .ok (.iconst 0, 1) := by decide +kernel
theorem d13_5 : decode prog_19_method_2_code 5 = .ok (.iload_n 1, 1) := by decide +kernel
theorem d13_6 : decode prog_19_method_2_code 6 = .ok (.aload_n 0, 1) := by decide +kernel
theorem d13_7 : decode prog_19_method_2_code 7 = .ok (.getfield 13, 3) := by decide +kernel
theorem d13_10 : decode prog_19_method_2_code 10 = .ok (.invokeinterface 17 1, 5) := by decide +kernel
theorem d13_15 : decode prog_19_method_2_code 15 = .ok (.invokestatic 23, 3) := by decide +kernel
theorem d13_18 : decode prog_19_method_2_code 18 = .ok (.invokeinterface 29 3, 5) := by decide +kernel
theorem d13_23 : decode prog_19_method_2_code 23 = .ok (.areturn, 1) := by decide +kernel
theorem d14_0 : decode jdk_38_method_8_code 0 = .ok (.aload_n 0, 1) := by decide +kernel
theorem d14_1 : decode jdk_38_method_8_code 1 = .ok (.getfield 48, 3) := by decide +kernel
theorem d14_4 : decode jdk_38_method_8_code 4 = .ok (.ireturn, 1) := by decide +kernel
theorem d15_0 : decode jdk_29_method_69_code 0 = .ok (.iload_n 0, 1) := by decide +kernel
theorem d15_1 : decode jdk_29_method_69_code 1 = .ok (.iload_n 1, 1) := by decide +kernel
theorem d15_2 : decode jdk_29_method_69_code 2 = .ok (.if_icmp .gt 7, 3) := by decide +kernel
theorem d15_5 : decode jdk_29_method_69_code 5 = .ok (.iload_n 0, 1) := by decide +kernel
theorem d15_6 : decode jdk_29_method_69_code 6 = .ok (.goto 4, 3) := by decide +kernel
theorem d15_9 : decode jdk_29_method_69_code 9 = .ok (.iload_n 1, 1) := by decide +kernel
theorem d15_10 : decode jdk_29_method_69_code 10 = .ok (.ireturn, 1) := by decide +kernel
theorem d16_0 : decode jdk_38_method_56_code 0 = .ok (.iload_n 1, 1) := by decide +kernel
theorem d16_1 : decode jdk_38_method_56_code 1 = .ok (.iload_n 2, 1) := by decide +kernel
theorem d16_2 : decode jdk_38_method_56_code 2 = .ok (.aload_n 0, 1) := by decide +kernel
theorem d16_3 : decode jdk_38_method_56_code 3 = .ok (.getfield 48, 3) := by decide +kernel
theorem d16_6 : decode jdk_38_method_56_code 6 = .ok (.invokestatic 272, 3) := by decide +kernel
theorem d16_9 : decode jdk_38_method_56_code 9 = .ok (.new 276, 3) := by decide +kernel
theorem d16_12 : decode jdk_38_method_56_code 12 = .ok (.dup, 1) := by decide +kernel
theorem d16_13 : decode jdk_38_method_56_code 13 = .ok (.aload_n 0, 1) := by decide +kernel
theorem d16_14 : decode jdk_38_method_56_code 14 = .ok (.iload_n 1, 1) := by decide +kernel
theorem d16_15 : decode jdk_38_method_56_code 15 = .ok (.iload_n 2, 1) := by decide +kernel
theorem d16_16 : decode jdk_38_method_56_code 16 = .ok (.invokespecial 278, 3) := by decide +kernel
theorem d16_19 : decode jdk_38_method_56_code 19 = .ok (.areturn, 1) := by decide +kernel
theorem d17_0 : decode jdk_39_method_15_code 0 = .ok (.iload_n 0, 1) := by decide +kernel
theorem d17_1 : decode jdk_39_method_15_code 1 = .ok (.ifCond .ge 30, 3) := by decide +kernel
theorem d17_31 : decode jdk_39_method_15_code 31 = .ok (.iload_n 1, 1) := by decide +kernel
theorem d17_32 : decode jdk_39_method_15_code 32 = .ok (.iload_n 2, 1) := by decide +kernel
theorem d17_33 : decode jdk_39_method_15_code 33 = .ok (.if_icmp .le 30, 3) := by decide +kernel
theorem d17_63 : decode jdk_39_method_15_code 63 = .ok (.iload_n 0, 1) := by decide +kernel
theorem d17_64 : decode jdk_39_method_15_code 64 = .ok (.iload_n 1, 1) := by decide +kernel
theorem d17_65 : decode jdk_39_method_15_code 65 = .ok (.if_icmp .le 44, 3) := by decide +kernel
theorem d17_109 : decode jdk_39_method_15_code 109 = .ok (.return_, 1) := by decide +kernel
theorem d18_0 : decode jdk_130_method_1_code 0 = .ok (.aload_n 0, 1) := by decide +kernel
theorem d18_1 : decode jdk_130_method_1_code 1 = .ok (.invokespecial 1, 3) := by decide +kernel
theorem d18_4 : decode jdk_130_method_1_code 4 = .ok (.aload_n 0, 1) := by decide +kernel
theorem d18_5 : decode jdk_130_method_1_code 5 = .ok (.aload_n 1, 1) := by decide +kernel
theorem d18_6 : decode jdk_130_method_1_code 6 = .ok (.putfield 7, 3) := by decide +kernel
theorem d18_9 : decode jdk_130_method_1_code 9 = .ok (.aload_n 0, 1) := by decide +kernel
theorem d18_10 : decode jdk_130_method_1_code 10 = .ok (.aconst_null, 1) := by decide +kernel
theorem d18_11 : decode jdk_130_method_1_code 11 = .ok (.putfield 13, 3) := by decide +kernel
theorem d18_14 : decode jdk_130_method_1_code 14 = .ok (.aload_n 0, 1) := by decide +kernel
theorem d18_15 : decode jdk_130_method_1_code 15 = .ok (.iload_n 2, 1) := by decide +kernel
theorem d18_16 : decode jdk_130_method_1_code 16 = .ok (.putfield 17, 3) := by decide +kernel
theorem d18_19 : decode jdk_130_method_1_code 19 = .ok (.aload_n 0, 1) := by decide +kernel
theorem d18_20 : decode jdk_130_method_1_code 20 = .ok (.iload_n 3, 1) := by decide +kernel
theorem d18_21 : decode jdk_130_method_1_code 21 = .ok (.iload_n 2, 1) := by decide +kernel
theorem d18_22 : decode jdk_130_method_1_code 22 = .ok (.isub, 1) := by decide +kernel
theorem d18_23 : decode jdk_130_method_1_code 23 = .ok (.putfield 21, 3) := by decide +kernel
theorem d18_26 : decode jdk_130_method_1_code 26 = .ok (.aload_n 0, 1) := by decide +kernel
theorem d18_27 : decode jdk_130_method_1_code 27 = .ok (.aload_n 1, 1) := by decide +kernel
theorem d18_28 : decode jdk_130_method_1_code 28 = .ok (.getfield 24, 3) := by decide +kernel
theorem d18_31 : decode jdk_130_method_1_code 31 = .ok (.putfield 29, 3) := by decide +kernel
theorem d18_34 : decode jdk_130_method_1_code 34 = .ok (.return_, 1) := by decide +kernel
theorem d19_0 : decode jdk_130_method_5_code 0 = .ok (.aload_n 0, 1) := by decide +kernel
theorem d19_1 : decode jdk_130_method_5_code 1 = .ok (.invokevirtual 36, 3) := by decide +kernel
theorem d19_4 : decode jdk_130_method_5_code 4 = .ok (.aload_n 0, 1) := by decide +kernel
theorem d19_5 : decode jdk_130_method_5_code 5 = .ok (.getfield 21, 3) := by decide +kernel
theorem d19_8 : decode jdk_130_method_5_code 8 = .ok (.ireturn, 1) := by decide +kernel
theorem d20_0 : decode jdk_130_method_28_code 0 = .ok (.aload_n 0, 1) := by decide +kernel
theorem d20_1 : decode jdk_130_method_28_code 1 = .ok (.getfield 7, 3) := by decide +kernel
theorem d20_4 : decode jdk_130_method_28_code 4 = .ok (.getfield 24, 3) := by decide +kernel
theorem d20_7 : decode jdk_130_method_28_code 7 = .ok (.aload_n 0, 1) := by decide +kernel
theorem d20_8 : decode jdk_130_method_28_code 8 = .ok (.getfield 29, 3) := by decide +kernel
theorem d20_11 : decode jdk_130_method_28_code 11 = .ok (.if_icmp .eq 11, 3) := by decide +kernel
theorem d20_22 : decode jdk_130_method_28_code 22 = .ok (.return_, 1) := by decide +kernel
theorem d21_0 : decode jdk_130_method_4_code 0 = .ok (.iload_n 1, 1) := by decide +kernel
theorem d21_1 : decode jdk_130_method_4_code 1 = .ok (.aload_n 0, 1) := by decide +kernel
theorem d21_2 : decode jdk_130_method_4_code 2 = .ok (.getfield 21, 3) := by decide +kernel
theorem d21_5 : decode jdk_130_method_4_code 5 = .ok (.invokestatic 30, 3) := by decide +kernel
theorem d21_8 : decode jdk_130_method_4_code 8 = .ok (.pop, 1) := by decide +kernel
theorem d21_9 : decode jdk_130_method_4_code 9 = .ok (.aload_n 0, 1) := by decide +kernel
theorem d21_10 : decode jdk_130_method_4_code 10 = .ok (.invokevirtual 36, 3) := by decide +kernel
theorem d21_13 : decode jdk_130_method_4_code 13 = .ok (.aload_n 0, 1) := by decide +kernel
theorem d21_14 : decode jdk_130_method_4_code 14 = .ok (.getfield 7, 3) := by decide +kernel
theorem d21_17 : decode jdk_130_method_4_code 17 = .ok (.aload_n 0, 1) := by decide +kernel
theorem d21_18 : decode jdk_130_method_4_code 18 = .ok (.getfield 17, 3) := by decide +kernel
theorem d21_21 : decode jdk_130_method_4_code 21 = .ok (.iload_n 1, 1) := by decide +kernel
theorem d21_22 : decode jdk_130_method_4_code 22 = .ok (.iadd, 1) := by decide +kernel
theorem d21_23 : decode jdk_130_method_4_code 23 = .ok (.invokevirtual 39, 3) := by decide +kernel
theorem d21_26 : decode jdk_130_method_4_code 26 = .ok (.areturn, 1) := by decide +kernel
theorem d22_0 : decode jdk_31_method_17_code 0 = .ok (.iload_n 0, 1) := by decide +kernel
theorem d22_1 : decode jdk_31_method_17_code 1 = .ok (.iload_n 1, 1) := by decide +kernel
theorem d22_2 : decode jdk_31_method_17_code 2 = .ok (.aconst_null, 1) := by decide +kernel
theorem d22_3 : decode jdk_31_method_17_code 3 = .ok (.invokestatic 105, 3) := by decide +kernel
theorem d22_6 : decode jdk_31_method_17_code 6 = .ok (.ireturn, 1) := by decide +kernel
theorem d23_0 : decode jdk_41_method_11_code 0 = .ok (.iload_n 0, 1) := by decide +kernel
theorem d23_1 : decode jdk_41_method_11_code 1 = .ok (.ifCond .lt 8, 3) := by decide +kernel
theorem d23_4 : decode jdk_41_method_11_code 4 = .ok (.iload_n 0, 1) := by decide +kernel
theorem d23_5 : decode jdk_41_method_11_code 5 = .ok (.iload_n 1, 1) := by decide +kernel
theorem d23_6 : decode jdk_41_method_11_code 6 = .ok (.if_icmp .lt 10, 3) := by decide +kernel
theorem d23_16 : decode jdk_41_method_11_code 16 = .ok (.iload_n 0, 1) := by decide +kernel
theorem d23_17 : decode jdk_41_method_11_code 17 = .ok (.ireturn, 1) := by decide +kernel
theorem d24_0 : decode jdk_38_method_18_code 0 = .ok (.aload_n 0, 1) := by decide +kernel
theorem d24_1 : decode jdk_38_method_18_code 1 = .ok (.getfield 9, 3) := by decide +kernel
theorem d24_4 : decode jdk_38_method_18_code 4 = .ok (.iload_n 1, 1) := by decide +kernel
theorem d24_5 : decode jdk_38_method_18_code 5 = .ok (.aaload, 1) := by decide +kernel
theorem d24_6 : decode jdk_38_method_18_code 6 = .ok (.areturn, 1) := by decide +kernel
theorem pd_0 : parseMethodDescriptor "()V" = some ⟨[], none⟩ := by decide +kernel
theorem pd_1 : parseMethodDescriptor "(II)I" = some ⟨[.int, .int], some .int⟩ := by decide +kernel
theorem pd_2 : parseMethodDescriptor "(I)[Ljava/lang/Object;" = some ⟨[.int], some (.array (.object "java/lang/Object"))⟩ := by decide +kernel
theorem pd_3 : parseMethodDescriptor "()[Ljava/lang/Object;" = some ⟨[], some (.array (.object "java/lang/Object"))⟩ := by decide +kernel
theorem pd_4 : parseMethodDescriptor "(Ljava/lang/Object;[Ljava/lang/Object;I)V" = some ⟨[(.object "java/lang/Object"), (.array (.object "java/lang/Object")), .int], none⟩ := by decide +kernel
theorem pd_5 : parseMethodDescriptor "(IILjava/util/function/BiFunction;)I" = some ⟨[.int, .int, (.object "java/util/function/BiFunction")], some .int⟩ := by decide +kernel
theorem pd_6 : parseMethodDescriptor "(III)V" = some ⟨[.int, .int, .int], none⟩ := by decide +kernel
theorem pd_7 : parseMethodDescriptor "(Ljava/util/ArrayList;II)V" = some ⟨[(.object "java/util/ArrayList"), .int, .int], none⟩ := by decide +kernel
theorem pd_8 : parseMethodDescriptor "()I" = some ⟨[], some .int⟩ := by decide +kernel
theorem pd_9 : parseMethodDescriptor "(II)Ljava/util/List;" = some ⟨[.int, .int], some (.object "java/util/List")⟩ := by decide +kernel
theorem pd_10 : parseMethodDescriptor "(I)Ljava/lang/Object;" = some ⟨[.int], some (.object "java/lang/Object")⟩ := by decide +kernel
theorem pd_11 : parseMethodDescriptor "(Lcom/example/biomed_reranker/biomedreranker/RunLine;J)V" = some ⟨[(.object "com/example/biomed_reranker/biomedreranker/RunLine"), .long], none⟩ := by decide +kernel
theorem pd_12 : parseMethodDescriptor "(Ljava/lang/Object;)Z" = some ⟨[(.object "java/lang/Object")], some .boolean⟩ := by decide +kernel
theorem pd_13 : parseMethodDescriptor "(Ljava/lang/String;Ljava/util/List;)V" = some ⟨[(.object "java/lang/String"), (.object "java/util/List")], none⟩ := by decide +kernel
theorem pd_14 : parseMethodDescriptor "(I)Ljava/util/List;" = some ⟨[.int], some (.object "java/util/List")⟩ := by decide +kernel
theorem pn_rmRec : plainFor (⟨"java/lang/Record", "<init>", "()V"⟩ : MethodName) = true := plainFor_of_name (by first | (simp [plainName, overriddenIn]; done) | decide +kernel)
theorem ef_rmRec (m : MethodId) (r : Addr) : entryFrame m #[(.ref r)] 1 = mkF m 0 #[.val (.ref r)] [] := by first | (simp [entryFrame, mkF, argsToLocals, Value.category]; done) | rfl
set_option maxRecDepth 65536 in
set_option maxHeartbeats 40000000 in
theorem rmRec (l : Launch) (Z : State) (a0 : Array Value) (hw : ∀ d ∈ tables_1, d.before a0 Z = true) (r : Addr) (h0 : Heap) (n0 : Nat) (Z0 : n0 ≤ h0.size) :
    ownMet l [] (⟨"java/lang/Record", "<init>", "()V"⟩ : MethodName) jdk_30_method_1_code 1 none ({ frames := 1, cells := 0, slots := 0, locals := 12 } : Room) Z n0 #[(.ref r)] h0 (fun v h => v = none ∧ h0 = h) := by
  refine own_body (own := "java/lang/Record") (nm := "<init>") pn_rmRec (fun m => ef_rmRec m r) rfl rfl ?_
  intro p e s m below meth c T0 G0
  show ownGo _ _ _ _ _ _ _ T0 0 #[.val (.ref r)] []
  refine own_aloadN G0 d2_0 rfl rfl ?_
  show ownGo _ _ _ _ _ _ _ T0 1 #[.val (.ref r)] [(.ref r)]
  refine own_initO G0 d2_1 (hw _ (List.mem_of_getElem? (i := 12) rfl)) (hw _ (List.mem_of_getElem? (i := 13) rfl)) (hw _ (List.mem_of_getElem? (i := 14) rfl)) rfl (by decide) (W := 0) (Nat.le_of_eq rfl) (by decide) ?_
  intro T1 G1
  show ownGo _ _ _ _ _ _ _ T1 4 #[.val (.ref r)] []
  exact own_ret G1 d2_4 rfl (by decide) (by decide) ⟨rfl, rfl⟩
theorem pn_rmEn : plainFor (⟨"com/example/biomed_reranker/biomedreranker/Run$Entry", "<init>", "(Lcom/example/biomed_reranker/biomedreranker/RunLine;J)V"⟩ : MethodName) = true := plainFor_of_name (by first | (simp [plainName, overriddenIn]; done) | decide +kernel)
theorem ef_rmEn (m : MethodId) (en : Addr) (q1 : Int64) : entryFrame m #[(.ref en), .null, (.long q1)] 4 = mkF m 0 #[.val (.ref en), .val .null, .val (.long q1), .second] [] := by first | (simp [entryFrame, mkF, argsToLocals, Value.category]; done) | rfl
set_option maxRecDepth 65536 in
set_option maxHeartbeats 40000000 in
theorem rmEn (l : Launch) (Z : State) (a0 : Array Value) (hw : ∀ d ∈ tables_1, d.before a0 Z = true) (en : Addr) (q1 : Int64) (u1 u2 : Value) (h0 : Heap) (n0 : Nat) (Z0 : n0 ≤ h0.size) (E : Exa Z h0 en "com/example/biomed_reranker/biomedreranker/Run$Entry") (F1 : Fld Z h0 en "com/example/biomed_reranker/biomedreranker/Run$Entry" "line" "Lcom/example/biomed_reranker/biomedreranker/RunLine;" u1) (F2 : Fld Z h0 en "com/example/biomed_reranker/biomedreranker/Run$Entry" "lineNumber" "J" u2) (g : n0 ≤ en) :
    ownMet l [] (⟨"com/example/biomed_reranker/biomedreranker/Run$Entry", "<init>", "(Lcom/example/biomed_reranker/biomedreranker/RunLine;J)V"⟩ : MethodName) prog_18_method_1_code 4 none ({ frames := 2, cells := 0, slots := 0, locals := 24 } : Room) Z n0 #[(.ref en), .null, (.long q1)] h0 (fun v h => v = none ∧ Keep h0 h [en] ∧ Exa Z h en "com/example/biomed_reranker/biomedreranker/Run$Entry") := by
  refine own_body (own := "com/example/biomed_reranker/biomedreranker/Run$Entry") (nm := "<init>") pn_rmEn (fun m => ef_rmEn m en q1) rfl rfl ?_
  intro p e s m below meth c T0 G0
  show ownGo _ _ _ _ _ _ _ T0 0 #[.val (.ref en), .val .null, .val (.long q1), .second] []
  refine own_aloadN G0 d1_0 rfl rfl ?_
  show ownGo _ _ _ _ _ _ _ T0 1 #[.val (.ref en), .val .null, .val (.long q1), .second] [(.ref en)]
  refine own_special G0 d1_1 (y := (⟨"java/lang/Record", "<init>", "()V"⟩ : MethodName)) rfl (hw _ (List.mem_of_getElem? (i := 7) rfl)) (hw _ (List.mem_of_getElem? (i := 8) rfl)) (hw _ (List.mem_of_getElem? (i := 10) rfl)) (hw _ (List.mem_of_getElem? (i := 11) rfl)) (by decide) (a := en) (argsL := []) (rest := []) (rmRec l Z a0 hw en h0 n0 Z0) rfl rfl rfl (lenOf pd_0 rfl) (W := 0) (Nat.le_of_eq rfl) (by decide) (by decide) (by decide) (by decide) ?_
  intro v2 T2 h2 hq2 G2
  obtain ⟨rfl, rfl⟩ := hq2
  show ownGo _ _ _ _ _ _ _ T2 4 #[.val (.ref en), .val .null, .val (.long q1), .second] []
  have K : Keep h0 h0 [en] := Keep.refl _ _
  refine own_aloadN G2 d1_4 rfl rfl ?_
  show ownGo _ _ _ _ _ _ _ T2 5 #[.val (.ref en), .val .null, .val (.long q1), .second] [(.ref en)]
  refine own_aloadN G2 d1_5 rfl rfl ?_
  show ownGo _ _ _ _ _ _ _ T2 6 #[.val (.ref en), .val .null, .val (.long q1), .second] [.null, (.ref en)]
  refine own_putF G2 d1_6 (hw _ (List.mem_of_getElem? (i := 15) rfl)) Via.refl F1 E (Or.inr ⟨(hw _ (List.mem_of_getElem? (i := 16) rfl)), rfl, rfl⟩) (hw _ (List.mem_of_getElem? (i := 2) rfl)) (ty := (.object "com/example/biomed_reranker/biomedreranker/RunLine")) (by decide) rfl rfl g ?_
  intro T3 h3 W3 G3
  show ownGo _ _ _ _ _ _ _ T3 9 #[.val (.ref en), .val .null, .val (.long q1), .second] []
  have z3 : h3.size = h0.size := W3.size
  replace E := E.wr W3
  replace F1 := F1.same W3
  replace F2 := F2.other W3 (Or.inr (slot_ne (Or.inr (hw _ (List.mem_of_getElem? (i := 18) rfl))) (Or.inr (hw _ (List.mem_of_getElem? (i := 16) rfl))) (by decide) (t := .long) (t' := (.object "com/example/biomed_reranker/biomedreranker/RunLine")) (by decide) (by decide)))
  replace Z0 : n0 ≤ h3.size := by rw [W3.size]; exact Z0
  replace K := K.wr W3 (Or.inl (by simp))
  refine own_aloadN G3 d1_9 rfl rfl ?_
  show ownGo _ _ _ _ _ _ _ T3 10 #[.val (.ref en), .val .null, .val (.long q1), .second] [(.ref en)]
  refine own_lloadN G3 d1_10 rfl ?_
  show ownGo _ _ _ _ _ _ _ T3 11 #[.val (.ref en), .val .null, .val (.long q1), .second] [(.long q1), (.ref en)]
  refine own_putF G3 d1_11 (hw _ (List.mem_of_getElem? (i := 17) rfl)) Via.refl F2 E (Or.inr ⟨(hw _ (List.mem_of_getElem? (i := 18) rfl)), rfl, rfl⟩) (hw _ (List.mem_of_getElem? (i := 2) rfl)) (ty := .long) (by decide) rfl rfl g ?_
  intro T4 h4 W4 G4
  show ownGo _ _ _ _ _ _ _ T4 14 #[.val (.ref en), .val .null, .val (.long q1), .second] []
  have z4 : h4.size = h3.size := W4.size
  replace E := E.wr W4
  replace F1 := F1.other W4 (Or.inr (slot_ne (Or.inr (hw _ (List.mem_of_getElem? (i := 16) rfl))) (Or.inr (hw _ (List.mem_of_getElem? (i := 18) rfl))) (by decide) (t := (.object "com/example/biomed_reranker/biomedreranker/RunLine")) (t' := .long) (by decide) (by decide)))
  replace F2 := F2.same W4
  replace Z0 : n0 ≤ h4.size := by rw [W4.size]; exact Z0
  replace K := K.wr W4 (Or.inl (by simp))
  exact own_ret G4 d1_14 rfl (by decide) (by decide) ⟨rfl, K, E⟩
theorem pn_rmTp : plainFor (⟨"com/example/biomed_reranker/biomedreranker/Run$Topic", "<init>", "(Ljava/lang/String;Ljava/util/List;)V"⟩ : MethodName) = true := plainFor_of_name (by first | (simp [plainName, overriddenIn]; done) | decide +kernel)
theorem ef_rmTp (m : MethodId) (tp : Addr) (st : Addr) (al : Addr) : entryFrame m #[(.ref tp), (.ref st), (.ref al)] 3 = mkF m 0 #[.val (.ref tp), .val (.ref st), .val (.ref al)] [] := by first | (simp [entryFrame, mkF, argsToLocals, Value.category]; done) | rfl
set_option maxRecDepth 65536 in
set_option maxHeartbeats 40000000 in
theorem rmTp (l : Launch) (Z : State) (a0 : Array Value) (hw : ∀ d ∈ tables_1, d.before a0 Z = true) (tp st al : Addr) (u1 u2 : Value) (h0 : Heap) (n0 : Nat) (Z0 : n0 ≤ h0.size) (E : Exa Z h0 tp "com/example/biomed_reranker/biomedreranker/Run$Topic") (F1 : Fld Z h0 tp "com/example/biomed_reranker/biomedreranker/Run$Topic" "id" "Ljava/lang/String;" u1) (F2 : Fld Z h0 tp "com/example/biomed_reranker/biomedreranker/Run$Topic" "entries" "Ljava/util/List;" u2) (g : n0 ≤ tp) :
    ownMet l [] (⟨"com/example/biomed_reranker/biomedreranker/Run$Topic", "<init>", "(Ljava/lang/String;Ljava/util/List;)V"⟩ : MethodName) prog_19_method_1_code 3 none ({ frames := 2, cells := 0, slots := 0, locals := 24 } : Room) Z n0 #[(.ref tp), (.ref st), (.ref al)] h0 (fun v h => v = none ∧ Keep h0 h [tp] ∧ Exa Z h tp "com/example/biomed_reranker/biomedreranker/Run$Topic" ∧ Fld Z h tp "com/example/biomed_reranker/biomedreranker/Run$Topic" "entries" "Ljava/util/List;" (.ref al)) := by
  refine own_body (own := "com/example/biomed_reranker/biomedreranker/Run$Topic") (nm := "<init>") pn_rmTp (fun m => ef_rmTp m tp st al) rfl rfl ?_
  intro p e s m below meth c T0 G0
  show ownGo _ _ _ _ _ _ _ T0 0 #[.val (.ref tp), .val (.ref st), .val (.ref al)] []
  refine own_aloadN G0 d12_0 rfl rfl ?_
  show ownGo _ _ _ _ _ _ _ T0 1 #[.val (.ref tp), .val (.ref st), .val (.ref al)] [(.ref tp)]
  refine own_special G0 d12_1 (y := (⟨"java/lang/Record", "<init>", "()V"⟩ : MethodName)) rfl (hw _ (List.mem_of_getElem? (i := 94) rfl)) (hw _ (List.mem_of_getElem? (i := 8) rfl)) (hw _ (List.mem_of_getElem? (i := 10) rfl)) (hw _ (List.mem_of_getElem? (i := 11) rfl)) (by decide) (a := tp) (argsL := []) (rest := []) (rmRec l Z a0 hw tp h0 n0 Z0) rfl rfl rfl (lenOf pd_0 rfl) (W := 0) (Nat.le_of_eq rfl) (by decide) (by decide) (by decide) (by decide) ?_
  intro v5 T5 h5 hq5 G5
  obtain ⟨rfl, rfl⟩ := hq5
  show ownGo _ _ _ _ _ _ _ T5 4 #[.val (.ref tp), .val (.ref st), .val (.ref al)] []
  have K : Keep h0 h0 [tp] := Keep.refl _ _
  refine own_aloadN G5 d12_4 rfl rfl ?_
  show ownGo _ _ _ _ _ _ _ T5 5 #[.val (.ref tp), .val (.ref st), .val (.ref al)] [(.ref tp)]
  refine own_aloadN G5 d12_5 rfl rfl ?_
  show ownGo _ _ _ _ _ _ _ T5 6 #[.val (.ref tp), .val (.ref st), .val (.ref al)] [(.ref st), (.ref tp)]
  refine own_putF G5 d12_6 (hw _ (List.mem_of_getElem? (i := 95) rfl)) Via.refl F1 E (Or.inr ⟨(hw _ (List.mem_of_getElem? (i := 96) rfl)), rfl, rfl⟩) (hw _ (List.mem_of_getElem? (i := 81) rfl)) (ty := (.object "java/lang/String")) (by decide) rfl rfl g ?_
  intro T6 h6 W6 G6
  show ownGo _ _ _ _ _ _ _ T6 9 #[.val (.ref tp), .val (.ref st), .val (.ref al)] []
  have z6 : h6.size = h0.size := W6.size
  replace E := E.wr W6
  replace F1 := F1.same W6
  replace F2 := F2.other W6 (Or.inr (slot_ne (Or.inr (hw _ (List.mem_of_getElem? (i := 98) rfl))) (Or.inr (hw _ (List.mem_of_getElem? (i := 96) rfl))) (by decide) (t := (.object "java/util/List")) (t' := (.object "java/lang/String")) (by decide) (by decide)))
  replace Z0 : n0 ≤ h6.size := by rw [W6.size]; exact Z0
  replace K := K.wr W6 (Or.inl (by simp))
  refine own_aloadN G6 d12_9 rfl rfl ?_
  show ownGo _ _ _ _ _ _ _ T6 10 #[.val (.ref tp), .val (.ref st), .val (.ref al)] [(.ref tp)]
  refine own_aloadN G6 d12_10 rfl rfl ?_
  show ownGo _ _ _ _ _ _ _ T6 11 #[.val (.ref tp), .val (.ref st), .val (.ref al)] [(.ref al), (.ref tp)]
  refine own_putF G6 d12_11 (hw _ (List.mem_of_getElem? (i := 97) rfl)) Via.refl F2 E (Or.inr ⟨(hw _ (List.mem_of_getElem? (i := 98) rfl)), rfl, rfl⟩) (hw _ (List.mem_of_getElem? (i := 81) rfl)) (ty := (.object "java/util/List")) (by decide) rfl rfl g ?_
  intro T7 h7 W7 G7
  show ownGo _ _ _ _ _ _ _ T7 14 #[.val (.ref tp), .val (.ref st), .val (.ref al)] []
  have z7 : h7.size = h6.size := W7.size
  replace E := E.wr W7
  replace F1 := F1.other W7 (Or.inr (slot_ne (Or.inr (hw _ (List.mem_of_getElem? (i := 96) rfl))) (Or.inr (hw _ (List.mem_of_getElem? (i := 98) rfl))) (by decide) (t := (.object "java/lang/String")) (t' := (.object "java/util/List")) (by decide) (by decide)))
  replace F2 := F2.same W7
  replace Z0 : n0 ≤ h7.size := by rw [W7.size]; exact Z0
  replace K := K.wr W7 (Or.inl (by simp))
  exact own_ret G7 d12_14 rfl (by decide) (by decide) ⟨rfl, K, E, F2⟩
def ownA0 (Z : State) (h : Heap) (dc al : Addr) (mc : Int32) : Prop := Exa Z h al "java/util/ArrayList" ∧ Fld Z h al "java/util/AbstractList" "modCount" "I" (.int mc) ∧ Fld Z h al "java/util/ArrayList" "elementData" "[Ljava/lang/Object;" (.ref dc) ∧ Fld Z h al "java/util/ArrayList" "size" "I" (.int 0)
def ownA1 (Z : State) (h : Heap) (al ed : Addr) (mc : Int32) (k : Nat) (f : Nat → Value) : Prop := Exa Z h al "java/util/ArrayList" ∧ Fld Z h al "java/util/AbstractList" "modCount" "I" (.int mc) ∧ Fld Z h al "java/util/ArrayList" "elementData" "[Ljava/lang/Object;" (.ref ed) ∧ Fld Z h al "java/util/ArrayList" "size" "I" (.int (Int32.ofNat k)) ∧ ownRef Z h ed "java/lang/Object" 10 f
theorem ownA0.keep {Z : State} {h h' : Heap} {dc al : Addr} {mc : Int32} {ws : List Addr} (A : ownA0 Z h dc al mc) (K : Keep h h' ws) (q : al ∉ ws) : ownA0 Z h' dc al mc := by obtain ⟨E, F1, F2, F3⟩ := A; exact ⟨E.keep K, F1.keep K q, F2.keep K q, F3.keep K q⟩
theorem ownA1.keep {Z : State} {h h' : Heap} {al ed : Addr} {mc : Int32} {k : Nat} {f : Nat → Value} {ws : List Addr} (A : ownA1 Z h al ed mc k f) (K : Keep h h' ws) (q : al ∉ ws) (q' : ed ∉ ws) : ownA1 Z h' al ed mc k f := by obtain ⟨E, F1, F2, F3, R⟩ := A; exact ⟨E.keep K, F1.keep K q, F2.keep K q, F3.keep K q, R.keep K q'⟩
theorem ownA0.ext {Z : State} {h h' : Heap} {dc al : Addr} {mc : Int32} (A : ownA0 Z h dc al mc) (K : Ext h h') : ownA0 Z h' dc al mc := by obtain ⟨E, F1, F2, F3⟩ := A; exact ⟨E.ext K, F1.ext K, F2.ext K, F3.ext K⟩
theorem ownA1.ext {Z : State} {h h' : Heap} {al ed : Addr} {mc : Int32} {k : Nat} {f : Nat → Value} (A : ownA1 Z h al ed mc k f) (K : Ext h h') : ownA1 Z h' al ed mc k f := by obtain ⟨E, F1, F2, F3, R⟩ := A; exact ⟨E.ext K, F1.ext K, F2.ext K, F3.ext K, R.ext K⟩
theorem ownA0.other {Z : State} {h h' : Heap} {dc al b : Addr} {mc : Int32} {sl : Nat} {v : Value} (A : ownA0 Z h dc al mc) (W : Wr h h' b sl v) (q : al ≠ b) : ownA0 Z h' dc al mc := by obtain ⟨E, F1, F2, F3⟩ := A; exact ⟨E.wr W, F1.other W (Or.inl q), F2.other W (Or.inl q), F3.other W (Or.inl q)⟩
theorem ownA1.exa {Z : State} {h : Heap} {al ed : Addr} {mc : Int32} {k : Nat} {f : Nat → Value} (A : ownA1 Z h al ed mc k f) : Exa Z h al "java/util/ArrayList" := A.1
theorem ownA0.exa {Z : State} {h : Heap} {al dc : Addr} {mc : Int32} (A : ownA0 Z h dc al mc) : Exa Z h al "java/util/ArrayList" := A.1
theorem pn_rmAC : plainFor (⟨"java/util/AbstractCollection", "<init>", "()V"⟩ : MethodName) = true := plainFor_of_name (by first | (simp [plainName, overriddenIn]; done) | decide +kernel)
theorem ef_rmAC (m : MethodId) (al : Addr) : entryFrame m #[(.ref al)] 1 = mkF m 0 #[.val (.ref al)] [] := by first | (simp [entryFrame, mkF, argsToLocals, Value.category]; done) | rfl
set_option maxRecDepth 65536 in
set_option maxHeartbeats 40000000 in
theorem rmAC (l : Launch) (Z : State) (a0 : Array Value) (hw : ∀ d ∈ tables_1, d.before a0 Z = true) (al : Addr) (h0 : Heap) (n0 : Nat) (Z0 : n0 ≤ h0.size) :
    ownMet l [] (⟨"java/util/AbstractCollection", "<init>", "()V"⟩ : MethodName) jdk_22_method_1_code 1 none ({ frames := 1, cells := 0, slots := 0, locals := 12 } : Room) Z n0 #[(.ref al)] h0 (fun v h => v = none ∧ h0 = h) := by
  refine own_body (own := "java/util/AbstractCollection") (nm := "<init>") pn_rmAC (fun m => ef_rmAC m al) rfl rfl ?_
  intro p e s m below meth c T0 G0
  show ownGo _ _ _ _ _ _ _ T0 0 #[.val (.ref al)] []
  refine own_aloadN G0 d6_0 rfl rfl ?_
  show ownGo _ _ _ _ _ _ _ T0 1 #[.val (.ref al)] [(.ref al)]
  refine own_initO G0 d6_1 (hw _ (List.mem_of_getElem? (i := 39) rfl)) (hw _ (List.mem_of_getElem? (i := 13) rfl)) (hw _ (List.mem_of_getElem? (i := 14) rfl)) rfl (by decide) (W := 0) (Nat.le_of_eq rfl) (by decide) ?_
  intro T8 G8
  show ownGo _ _ _ _ _ _ _ T8 4 #[.val (.ref al)] []
  exact own_ret G8 d6_4 rfl (by decide) (by decide) ⟨rfl, rfl⟩
theorem pn_rmALi : plainFor (⟨"java/util/AbstractList", "<init>", "()V"⟩ : MethodName) = true := plainFor_of_name (by first | (simp [plainName, overriddenIn]; done) | decide +kernel)
theorem ef_rmALi (m : MethodId) (al : Addr) : entryFrame m #[(.ref al)] 1 = mkF m 0 #[.val (.ref al)] [] := by first | (simp [entryFrame, mkF, argsToLocals, Value.category]; done) | rfl
set_option maxRecDepth 65536 in
set_option maxHeartbeats 40000000 in
theorem rmALi (l : Launch) (Z : State) (a0 : Array Value) (hw : ∀ d ∈ tables_1, d.before a0 Z = true) (al : Addr) (u1 u2 u3 : Value) (h0 : Heap) (n0 : Nat) (Z0 : n0 ≤ h0.size) (E : Exa Z h0 al "java/util/ArrayList") (F1 : Fld Z h0 al "java/util/AbstractList" "modCount" "I" u1) (F2 : Fld Z h0 al "java/util/ArrayList" "elementData" "[Ljava/lang/Object;" u2) (F3 : Fld Z h0 al "java/util/ArrayList" "size" "I" u3) (g : n0 ≤ al) :
    ownMet l [] (⟨"java/util/AbstractList", "<init>", "()V"⟩ : MethodName) jdk_39_method_1_code 1 none ({ frames := 2, cells := 0, slots := 0, locals := 24 } : Room) Z n0 #[(.ref al)] h0 (fun v h => v = none ∧ Keep h0 h [al] ∧ Exa Z h al "java/util/ArrayList" ∧ Fld Z h al "java/util/AbstractList" "modCount" "I" (.int 0) ∧ Fld Z h al "java/util/ArrayList" "elementData" "[Ljava/lang/Object;" u2 ∧ Fld Z h al "java/util/ArrayList" "size" "I" u3) := by
  refine own_body (own := "java/util/AbstractList") (nm := "<init>") pn_rmALi (fun m => ef_rmALi m al) rfl rfl ?_
  intro p e s m below meth c T0 G0
  show ownGo _ _ _ _ _ _ _ T0 0 #[.val (.ref al)] []
  refine own_aloadN G0 d5_0 rfl rfl ?_
  show ownGo _ _ _ _ _ _ _ T0 1 #[.val (.ref al)] [(.ref al)]
  refine own_special G0 d5_1 (y := (⟨"java/util/AbstractCollection", "<init>", "()V"⟩ : MethodName)) rfl (hw _ (List.mem_of_getElem? (i := 33) rfl)) (hw _ (List.mem_of_getElem? (i := 34) rfl)) (hw _ (List.mem_of_getElem? (i := 37) rfl)) (hw _ (List.mem_of_getElem? (i := 38) rfl)) (by decide) (a := al) (argsL := []) (rest := []) (rmAC l Z a0 hw al h0 n0 Z0) rfl rfl rfl (lenOf pd_0 rfl) (W := 0) (Nat.le_of_eq rfl) (by decide) (by decide) (by decide) (by decide) ?_
  intro v9 T9 h9 hq9 G9
  obtain ⟨rfl, rfl⟩ := hq9
  show ownGo _ _ _ _ _ _ _ T9 4 #[.val (.ref al)] []
  have K : Keep h0 h0 [al] := Keep.refl _ _
  refine own_aloadN G9 d5_4 rfl rfl ?_
  show ownGo _ _ _ _ _ _ _ T9 5 #[.val (.ref al)] [(.ref al)]
  refine own_iconst G9 d5_5 ?_
  show ownGo _ _ _ _ _ _ _ T9 6 #[.val (.ref al)] [(.int (0 : Int32)), (.ref al)]
  refine own_putF G9 d5_6 (hw _ (List.mem_of_getElem? (i := 40) rfl)) Via.refl F1 E (Or.inl (hw _ (List.mem_of_getElem? (i := 41) rfl))) (hw _ (List.mem_of_getElem? (i := 22) rfl)) (ty := .int) (by decide) rfl rfl g ?_
  intro T10 h10 W10 G10
  show ownGo _ _ _ _ _ _ _ T10 9 #[.val (.ref al)] []
  have z10 : h10.size = h0.size := W10.size
  replace E := E.wr W10
  replace F1 := F1.same W10
  replace F2 := F2.other W10 (Or.inr (slot_ne (Or.inl (hw _ (List.mem_of_getElem? (i := 44) rfl))) (Or.inl (hw _ (List.mem_of_getElem? (i := 41) rfl))) (by decide) (t := (.array (.object "java/lang/Object"))) (t' := .int) (by decide) (by decide)))
  replace F3 := F3.other W10 (Or.inr (slot_ne (Or.inl (hw _ (List.mem_of_getElem? (i := 57) rfl))) (Or.inl (hw _ (List.mem_of_getElem? (i := 41) rfl))) (by decide) (t := .int) (t' := .int) (by decide) (by decide)))
  replace Z0 : n0 ≤ h10.size := by rw [W10.size]; exact Z0
  replace K := K.wr W10 (Or.inl (by simp))
  exact own_ret G10 d5_9 rfl (by decide) (by decide) ⟨rfl, K, E, F1, F2, F3⟩
theorem pn_rmNewAL : plainFor (⟨"java/util/ArrayList", "<init>", "()V"⟩ : MethodName) = true := plainFor_of_name (by first | (simp [plainName, overriddenIn]; done) | decide +kernel)
theorem ef_rmNewAL (m : MethodId) (al : Addr) : entryFrame m #[(.ref al)] 1 = mkF m 0 #[.val (.ref al)] [] := by first | (simp [entryFrame, mkF, argsToLocals, Value.category]; done) | rfl
set_option maxRecDepth 65536 in
set_option maxHeartbeats 40000000 in
theorem rmNewAL (l : Launch) (Z : State) (a0 : Array Value) (hw : ∀ d ∈ tables_1, d.before a0 Z = true) (al dc : Addr) (u1 u2 : Value) (h0 : Heap) (n0 : Nat) (Z0 : n0 ≤ h0.size) (E : Exa Z h0 al "java/util/ArrayList") (F1 : Fld Z h0 al "java/util/AbstractList" "modCount" "I" u1) (F2 : Fld Z h0 al "java/util/ArrayList" "elementData" "[Ljava/lang/Object;" u2) (F3 : Fld Z h0 al "java/util/ArrayList" "size" "I" (.int 0)) (g : n0 ≤ al) (O : Old Z n0 h0) (SD : Sta Z Z.heap "java/util/ArrayList" "DEFAULTCAPACITY_EMPTY_ELEMENTDATA" "[Ljava/lang/Object;" (.ref dc)) :
    ownMet l [] (⟨"java/util/ArrayList", "<init>", "()V"⟩ : MethodName) jdk_38_method_2_code 1 none ({ frames := 3, cells := 0, slots := 0, locals := 36 } : Room) Z n0 #[(.ref al)] h0 (fun v h => v = none ∧ Keep h0 h [al] ∧ ownA0 Z h dc al 0) := by
  refine own_body (own := "java/util/ArrayList") (nm := "<init>") pn_rmNewAL (fun m => ef_rmNewAL m al) rfl rfl ?_
  intro p e s m below meth c T0 G0
  show ownGo _ _ _ _ _ _ _ T0 0 #[.val (.ref al)] []
  refine own_aloadN G0 d4_0 rfl rfl ?_
  show ownGo _ _ _ _ _ _ _ T0 1 #[.val (.ref al)] [(.ref al)]
  refine own_special G0 d4_1 (y := (⟨"java/util/AbstractList", "<init>", "()V"⟩ : MethodName)) rfl (hw _ (List.mem_of_getElem? (i := 27) rfl)) (hw _ (List.mem_of_getElem? (i := 28) rfl)) (hw _ (List.mem_of_getElem? (i := 31) rfl)) (hw _ (List.mem_of_getElem? (i := 32) rfl)) (by decide) (a := al) (argsL := []) (rest := []) (rmALi l Z a0 hw al _ _ _ h0 n0 Z0 E F1 F2 F3 g) rfl rfl rfl (lenOf pd_0 rfl) (W := 0) (Nat.le_of_eq rfl) (by decide) (by decide) (by decide) (by decide) ?_
  intro v11 T11 h11 hq11 G11
  obtain ⟨rfl, K, E', F1', F2', F3'⟩ := hq11
  show ownGo _ _ _ _ _ _ _ T11 4 #[.val (.ref al)] []
  replace O := O.keep K (allS g all0)
  refine own_aloadN G11 d4_4 rfl rfl ?_
  show ownGo _ _ _ _ _ _ _ T11 5 #[.val (.ref al)] [(.ref al)]
  refine own_getS G11 d4_5 (hw _ (List.mem_of_getElem? (i := 42) rfl)) Via.refl (SD.ext O.2) ?_
  intro T12 G12
  show ownGo _ _ _ _ _ _ _ T12 8 #[.val (.ref al)] [(.ref dc), (.ref al)]
  refine own_putF G12 d4_8 (hw _ (List.mem_of_getElem? (i := 43) rfl)) Via.refl F2' E' (Or.inl (hw _ (List.mem_of_getElem? (i := 44) rfl))) (hw _ (List.mem_of_getElem? (i := 22) rfl)) (ty := (.array (.object "java/lang/Object"))) (by decide) rfl rfl g ?_
  intro T13 h13 W13 G13
  show ownGo _ _ _ _ _ _ _ T13 11 #[.val (.ref al)] []
  exact own_ret G13 d4_11 rfl (by decide) (by decide) ⟨rfl, K.wr W13 (Or.inl (by simp)), E'.wr W13, F1'.other W13 (Or.inr (slot_ne (Or.inl (hw _ (List.mem_of_getElem? (i := 41) rfl))) (Or.inl (hw _ (List.mem_of_getElem? (i := 44) rfl))) (by decide) (t := .int) (t' := (.array (.object "java/lang/Object"))) (by decide) (by decide))), F2'.same W13, F3'.other W13 (Or.inr (slot_ne (Or.inl (hw _ (List.mem_of_getElem? (i := 57) rfl))) (Or.inl (hw _ (List.mem_of_getElem? (i := 44) rfl))) (by decide) (t := .int) (t' := (.array (.object "java/lang/Object"))) (by decide) (by decide)))⟩
theorem ef_rmMax (m : MethodId)  : entryFrame m #[(.int (10 : Int32)), (.int (1 : Int32))] 2 = mkF m 0 #[.val (.int (10 : Int32)), .val (.int (1 : Int32))] [] := by first | (simp [entryFrame, mkF, argsToLocals, Value.category]; done) | rfl
set_option maxRecDepth 65536 in
set_option maxHeartbeats 40000000 in
theorem rmMax (l : Launch) (Z : State) (a0 : Array Value) (hw : ∀ d ∈ tables_1, d.before a0 Z = true)  (h0 : Heap) (n0 : Nat) (Z0 : n0 ≤ h0.size) :
    ownMet l [] (⟨"java/lang/Math", "max", "(II)I"⟩ : MethodName) jdk_29_method_65_code 2 (some .int) ({ frames := 0, cells := 0, slots := 0, locals := 0 } : Room) Z n0 #[(.int (10 : Int32)), (.int (1 : Int32))] h0 (fun v h => v = some (.int (10 : Int32)) ∧ h0 = h) := by
  refine own_body (own := "java/lang/Math") (nm := "max") (Jvm.Free.JP.mathPlain rfl (by decide +kernel)) (fun m => ef_rmMax m ) rfl rfl ?_
  intro p e s m below meth c T0 G0
  show ownGo _ _ _ _ _ _ _ T0 0 #[.val (.int (10 : Int32)), .val (.int (1 : Int32))] []
  refine own_iloadN G0 d11_0 rfl ?_
  show ownGo _ _ _ _ _ _ _ T0 1 #[.val (.int (10 : Int32)), .val (.int (1 : Int32))] [(.int (10 : Int32))]
  refine own_iloadN G0 d11_1 rfl ?_
  show ownGo _ _ _ _ _ _ _ T0 2 #[.val (.int (10 : Int32)), .val (.int (1 : Int32))] [(.int (1 : Int32)), (.int (10 : Int32))]
  refine own_icmp_lt G0 d11_2 (pc' := 9) (by decide) (by decide) (fun hc => False.elim (absurd hc (by decide))) (fun hc => ?_)
  show ownGo _ _ _ _ _ _ _ T0 5 #[.val (.int (10 : Int32)), .val (.int (1 : Int32))] []
  refine own_iloadN G0 d11_5 rfl ?_
  show ownGo _ _ _ _ _ _ _ T0 6 #[.val (.int (10 : Int32)), .val (.int (1 : Int32))] [(.int (10 : Int32))]
  refine own_goto G0 d11_6 (pc' := 10) (by decide) (by decide) ?_
  show ownGo _ _ _ _ _ _ _ T0 10 #[.val (.int (10 : Int32)), .val (.int (1 : Int32))] [(.int (10 : Int32))]
  exact own_ireturn G0 d11_10 rfl (by decide) (by decide) ⟨rfl, rfl⟩
theorem pn_rmGrowI : plainFor (⟨"java/util/ArrayList", "grow", "(I)[Ljava/lang/Object;"⟩ : MethodName) = true := plainFor_of_name (by first | (simp [plainName, overriddenIn]; done) | decide +kernel)
theorem ef_rmGrowI (m : MethodId) (al : Addr) : entryFrame m #[(.ref al), (.int (1 : Int32))] 4 = mkF m 0 #[.val (.ref al), .val (.int (1 : Int32)), .unset, .unset] [] := by first | (simp [entryFrame, mkF, argsToLocals, Value.category]; done) | rfl
set_option maxRecDepth 65536 in
set_option maxHeartbeats 40000000 in
theorem rmGrowI (l : Launch) (Z : State) (a0 : Array Value) (hw : ∀ d ∈ tables_1, d.before a0 Z = true) (al dc : Addr) (mc : Int32) (h0 : Heap) (n0 : Nat) (Z0 : n0 ≤ h0.size) (A : ownA0 Z h0 dc al mc) (g : n0 ≤ al) (O : Old Z n0 h0) (SD : Sta Z Z.heap "java/util/ArrayList" "DEFAULTCAPACITY_EMPTY_ELEMENTDATA" "[Ljava/lang/Object;" (.ref dc)) (AD : ∃ f, ownArr Z Z.heap dc (.object "java/lang/Object") 0 f) :
    ownMet l [] (⟨"java/util/ArrayList", "grow", "(I)[Ljava/lang/Object;"⟩ : MethodName) jdk_38_method_6_code 4 (some (.array (.object "java/lang/Object"))) ({ frames := 1, cells := 1, slots := 10, locals := 14 } : Room) Z n0 #[(.ref al), (.int (1 : Int32))] h0 (fun v h => ∃ ed, v = some (.ref ed) ∧ h0.size ≤ ed ∧ h.size > ed ∧ Keep h0 h [al] ∧ ownA1 Z h al ed mc 0 (fun _ => .null)) := by
  refine own_body (own := "java/util/ArrayList") (nm := "grow") pn_rmGrowI (fun m => ef_rmGrowI m al) rfl rfl ?_
  intro p e s m below meth c T0 G0
  show ownGo _ _ _ _ _ _ _ T0 0 #[.val (.ref al), .val (.int (1 : Int32)), .unset, .unset] []
  obtain ⟨E, F1, F2, F3⟩ := A
  obtain ⟨fd, AD⟩ := AD
  refine own_aloadN G0 d10_0 rfl rfl ?_
  show ownGo _ _ _ _ _ _ _ T0 1 #[.val (.ref al), .val (.int (1 : Int32)), .unset, .unset] [(.ref al)]
  refine own_getF G0 d10_1 (hw _ (List.mem_of_getElem? (i := 43) rfl)) Via.refl F2 ?_
  intro T14 G14
  show ownGo _ _ _ _ _ _ _ T14 4 #[.val (.ref al), .val (.int (1 : Int32)), .unset, .unset] [(.ref dc)]
  refine own_arraylength G14 d10_4 (AD.ext O.2) ?_
  show ownGo _ _ _ _ _ _ _ T14 5 #[.val (.ref al), .val (.int (1 : Int32)), .unset, .unset] [(.int (0 : Int32))]
  refine own_istoreN G14 d10_5 (L' := #[.val (.ref al), .val (.int (1 : Int32)), .val (.int (0 : Int32)), .unset]) rfl ?_
  show ownGo _ _ _ _ _ _ _ T14 6 #[.val (.ref al), .val (.int (1 : Int32)), .val (.int (0 : Int32)), .unset] []
  refine own_iloadN G14 d10_6 rfl ?_
  show ownGo _ _ _ _ _ _ _ T14 7 #[.val (.ref al), .val (.int (1 : Int32)), .val (.int (0 : Int32)), .unset] [(.int (0 : Int32))]
  refine own_if_gt G14 d10_7 (pc' := 20) (by decide) (by decide) (fun hc => False.elim (absurd hc (by decide))) (fun hc => ?_)
  show ownGo _ _ _ _ _ _ _ T14 10 #[.val (.ref al), .val (.int (1 : Int32)), .val (.int (0 : Int32)), .unset] []
  refine own_aloadN G14 d10_10 rfl rfl ?_
  show ownGo _ _ _ _ _ _ _ T14 11 #[.val (.ref al), .val (.int (1 : Int32)), .val (.int (0 : Int32)), .unset] [(.ref al)]
  refine own_getF G14 d10_11 (hw _ (List.mem_of_getElem? (i := 43) rfl)) Via.refl F2 ?_
  intro T15 G15
  show ownGo _ _ _ _ _ _ _ T15 14 #[.val (.ref al), .val (.int (1 : Int32)), .val (.int (0 : Int32)), .unset] [(.ref dc)]
  refine own_getS G15 d10_14 (hw _ (List.mem_of_getElem? (i := 42) rfl)) Via.refl (SD.ext O.2) ?_
  intro T16 G16
  show ownGo _ _ _ _ _ _ _ T16 17 #[.val (.ref al), .val (.int (1 : Int32)), .val (.int (0 : Int32)), .unset] [(.ref dc), (.ref dc)]
  refine own_acmp G16 d10_17 (pc' := 45) (same := true) rfl rfl (decide_eq_true rfl) (by decide) (by decide) ?_
  show ownGo _ _ _ _ _ _ _ T16 45 #[.val (.ref al), .val (.int (1 : Int32)), .val (.int (0 : Int32)), .unset] []
  refine own_aloadN G16 d10_45 rfl rfl ?_
  show ownGo _ _ _ _ _ _ _ T16 46 #[.val (.ref al), .val (.int (1 : Int32)), .val (.int (0 : Int32)), .unset] [(.ref al)]
  refine own_bipush G16 d10_46 ?_
  show ownGo _ _ _ _ _ _ _ T16 48 #[.val (.ref al), .val (.int (1 : Int32)), .val (.int (0 : Int32)), .unset] [(.int (10 : Int32)), (.ref al)]
  refine own_iloadN G16 d10_48 rfl ?_
  show ownGo _ _ _ _ _ _ _ T16 49 #[.val (.ref al), .val (.int (1 : Int32)), .val (.int (0 : Int32)), .unset] [(.int (1 : Int32)), (.int (10 : Int32)), (.ref al)]
  refine own_callS G16 d10_49 (y := (⟨"java/lang/Math", "max", "(II)I"⟩ : MethodName)) (hw _ (List.mem_of_getElem? (i := 73) rfl)) (hw _ (List.mem_of_getElem? (i := 74) rfl)) (hw _ (List.mem_of_getElem? (i := 75) rfl)) (hw _ (List.mem_of_getElem? (i := 76) rfl)) (by decide) (argsL := [(.int (10 : Int32)), (.int (1 : Int32))]) (rest := [(.ref al)]) (rmMax l Z a0 hw h0 n0 Z0) rfl rfl rfl (lenOf pd_1 rfl) (W := 1) (Nat.le_of_eq rfl) (by decide) (by decide) (by decide) (by decide) ?_
  intro v17 T17 h17 hq17 G17
  obtain ⟨rfl, rfl⟩ := hq17
  show ownGo _ _ _ _ _ _ _ T17 52 #[.val (.ref al), .val (.int (1 : Int32)), .val (.int (0 : Int32)), .unset] [(.int (10 : Int32)), (.ref al)]
  refine own_anewarr G17 d10_52 (hw _ (List.mem_of_getElem? (i := 77) rfl)) (hw _ (List.mem_of_getElem? (i := 78) rfl)) (by decide) (k := 10) (cap := 10) (by decide) (by decide) (by decide) (by decide) (by decide) ?_
  intro T18 h18 b18 g18 E18 A18 G18
  show ownGo _ _ _ _ _ _ _ T18 55 #[.val (.ref al), .val (.int (1 : Int32)), .val (.int (0 : Int32)), .unset] [(.ref b18), (.ref al)]
  have lt : h0.size > al := E.lt
  have K : Keep h0 h0 [al] := Keep.refl _ _
  have z18 : h0.size ≤ h18.size := E18.1
  replace E := E.ext E18
  replace F1 := F1.ext E18
  replace F2 := F2.ext E18
  replace F3 := F3.ext E18
  replace K := K.ext E18
  have lb : h18.size > b18 := A18.lt
  refine own_dup_x1 G18 d10_55 rfl rfl ?_
  show ownGo _ _ _ _ _ _ _ T18 56 #[.val (.ref al), .val (.int (1 : Int32)), .val (.int (0 : Int32)), .unset] [(.ref b18), (.ref al), (.ref b18)]
  refine own_putF G18 d10_56 (hw _ (List.mem_of_getElem? (i := 43) rfl)) Via.refl F2 E (Or.inl (hw _ (List.mem_of_getElem? (i := 44) rfl))) (hw _ (List.mem_of_getElem? (i := 22) rfl)) (ty := (.array (.object "java/lang/Object"))) (by decide) rfl rfl g ?_
  intro T19 h19 W19 G19
  show ownGo _ _ _ _ _ _ _ T19 59 #[.val (.ref al), .val (.int (1 : Int32)), .val (.int (0 : Int32)), .unset] [(.ref b18)]
  have z19 : h19.size = h18.size := W19.size
  replace E := E.wr W19
  replace F1 := F1.other W19 (Or.inr (slot_ne (Or.inl (hw _ (List.mem_of_getElem? (i := 41) rfl))) (Or.inl (hw _ (List.mem_of_getElem? (i := 44) rfl))) (by decide) (t := .int) (t' := (.array (.object "java/lang/Object"))) (by decide) (by decide)))
  replace F2 := F2.same W19
  replace F3 := F3.other W19 (Or.inr (slot_ne (Or.inl (hw _ (List.mem_of_getElem? (i := 57) rfl))) (Or.inl (hw _ (List.mem_of_getElem? (i := 44) rfl))) (by decide) (t := .int) (t' := (.array (.object "java/lang/Object"))) (by decide) (by decide)))
  replace A18 := A18.other W19 (own_neA (by omega))
  replace K := K.wr W19 (Or.inl (by simp))
  exact own_areturn G19 d10_59 rfl rfl rfl rfl (by decide) (by decide) ⟨b18, rfl, by omega, by omega, K, E, F1, F2, F3, A18⟩
theorem pn_rmGrow : plainFor (⟨"java/util/ArrayList", "grow", "()[Ljava/lang/Object;"⟩ : MethodName) = true := plainFor_of_name (by first | (simp [plainName, overriddenIn]; done) | decide +kernel)
theorem ef_rmGrow (m : MethodId) (al : Addr) : entryFrame m #[(.ref al)] 1 = mkF m 0 #[.val (.ref al)] [] := by first | (simp [entryFrame, mkF, argsToLocals, Value.category]; done) | rfl
set_option maxRecDepth 65536 in
set_option maxHeartbeats 40000000 in
theorem rmGrow (l : Launch) (Z : State) (a0 : Array Value) (hw : ∀ d ∈ tables_1, d.before a0 Z = true) (al dc : Addr) (mc : Int32) (h0 : Heap) (n0 : Nat) (Z0 : n0 ≤ h0.size) (A : ownA0 Z h0 dc al mc) (g : n0 ≤ al) (O : Old Z n0 h0) (SD : Sta Z Z.heap "java/util/ArrayList" "DEFAULTCAPACITY_EMPTY_ELEMENTDATA" "[Ljava/lang/Object;" (.ref dc)) (AD : ∃ f, ownArr Z Z.heap dc (.object "java/lang/Object") 0 f) :
    ownMet l [] (⟨"java/util/ArrayList", "grow", "()[Ljava/lang/Object;"⟩ : MethodName) jdk_38_method_7_code 1 (some (.array (.object "java/lang/Object"))) ({ frames := 2, cells := 1, slots := 10, locals := 29 } : Room) Z n0 #[(.ref al)] h0 (fun v h => ∃ ed, v = some (.ref ed) ∧ h0.size ≤ ed ∧ h.size > ed ∧ Keep h0 h [al] ∧ ownA1 Z h al ed mc 0 (fun _ => .null)) := by
  refine own_body (own := "java/util/ArrayList") (nm := "grow") pn_rmGrow (fun m => ef_rmGrow m al) rfl rfl ?_
  intro p e s m below meth c T0 G0
  show ownGo _ _ _ _ _ _ _ T0 0 #[.val (.ref al)] []
  have A' := A
  obtain ⟨E, F1, F2, F3⟩ := A'
  refine own_aloadN G0 d9_0 rfl rfl ?_
  show ownGo _ _ _ _ _ _ _ T0 1 #[.val (.ref al)] [(.ref al)]
  refine own_aloadN G0 d9_1 rfl rfl ?_
  show ownGo _ _ _ _ _ _ _ T0 2 #[.val (.ref al)] [(.ref al), (.ref al)]
  refine own_getF G0 d9_2 (hw _ (List.mem_of_getElem? (i := 56) rfl)) Via.refl F3 ?_
  intro T20 G20
  show ownGo _ _ _ _ _ _ _ T20 5 #[.val (.ref al)] [(.int (0 : Int32)), (.ref al)]
  refine own_iconst G20 d9_5 ?_
  show ownGo _ _ _ _ _ _ _ T20 6 #[.val (.ref al)] [(.int (1 : Int32)), (.int (0 : Int32)), (.ref al)]
  refine own_iadd G20 d9_6 ?_
  show ownGo _ _ _ _ _ _ _ T20 7 #[.val (.ref al)] [(.int ((0 : Int32) + (1 : Int32))), (.ref al)]
  rw [(by decide : (0 : Int32) + (1 : Int32) = 1)]
  show ownGo _ _ _ _ _ _ _ T20 7 #[.val (.ref al)] [(.int (1 : Int32)), (.ref al)]
  refine own_private G20 d9_7 (y := (⟨"java/util/ArrayList", "grow", "(I)[Ljava/lang/Object;"⟩ : MethodName)) (hw _ (List.mem_of_getElem? (i := 68) rfl)) (hw _ (List.mem_of_getElem? (i := 69) rfl)) (hw _ (List.mem_of_getElem? (i := 71) rfl)) (hw _ (List.mem_of_getElem? (i := 70) rfl)) (hw _ (List.mem_of_getElem? (i := 23) rfl)) (hw _ (List.mem_of_getElem? (i := 72) rfl)) (by decide) (a := al) (argsL := [(.int (1 : Int32))]) (rest := []) E (rmGrowI l Z a0 hw al dc mc h0 n0 Z0 A g O SD AD) rfl rfl rfl (lenOf pd_2 rfl) (W := 0) (Nat.le_of_eq rfl) (by decide) (by decide) (by decide) (by decide) ?_
  intro v21 T21 h21 hq21 G21
  obtain ⟨ed, rfl, q1, q2, K, A1⟩ := hq21
  show ownGo _ _ _ _ _ _ _ T21 10 #[.val (.ref al)] [(.ref ed)]
  exact own_areturn G21 d9_10 rfl rfl rfl rfl (by decide) (by decide) ⟨ed, rfl, q1, q2, K, A1⟩
theorem pn_rmAdd3a : plainFor (⟨"java/util/ArrayList", "add", "(Ljava/lang/Object;[Ljava/lang/Object;I)V"⟩ : MethodName) = true := plainFor_of_name (by first | (simp [plainName, overriddenIn]; done) | decide +kernel)
theorem ef_rmAdd3a (m : MethodId) (al : Addr) (x : Addr) (dc : Addr) : entryFrame m #[(.ref al), (.ref x), (.ref dc), (.int (0 : Int32))] 4 = mkF m 0 #[.val (.ref al), .val (.ref x), .val (.ref dc), .val (.int (0 : Int32))] [] := by first | (simp [entryFrame, mkF, argsToLocals, Value.category]; done) | rfl
set_option maxRecDepth 65536 in
set_option maxHeartbeats 40000000 in
theorem rmAdd3a (l : Launch) (Z : State) (a0 : Array Value) (hw : ∀ d ∈ tables_1, d.before a0 Z = true) (al : Addr) (x : Addr) (dc : Addr) (mc : Int32) (h0 : Heap) (n0 : Nat) (Z0 : n0 ≤ h0.size) (A : ownA0 Z h0 dc al mc) (g : n0 ≤ al) (O : Old Z n0 h0) (SD : Sta Z Z.heap "java/util/ArrayList" "DEFAULTCAPACITY_EMPTY_ELEMENTDATA" "[Ljava/lang/Object;" (.ref dc)) (AD : ∃ f, ownArr Z Z.heap dc (.object "java/lang/Object") 0 f) (Ix : Exa Z h0 x "com/example/biomed_reranker/biomedreranker/Run$Entry") :
    ownMet l [] (⟨"java/util/ArrayList", "add", "(Ljava/lang/Object;[Ljava/lang/Object;I)V"⟩ : MethodName) jdk_38_method_24_code 4 none ({ frames := 3, cells := 1, slots := 10, locals := 41 } : Room) Z n0 #[(.ref al), (.ref x), (.ref dc), (.int (0 : Int32))] h0 (fun v h => ∃ ed, v = none ∧ h0.size ≤ ed ∧ h.size > ed ∧ Keep h0 h [al] ∧ ownA1 Z h al ed mc 1 (fun j => if j = 0 then (.ref x) else .null)) := by
  refine own_body (own := "java/util/ArrayList") (nm := "add") pn_rmAdd3a (fun m => ef_rmAdd3a m al x dc) rfl rfl ?_
  intro p e s m below meth c T0 G0
  show ownGo _ _ _ _ _ _ _ T0 0 #[.val (.ref al), .val (.ref x), .val (.ref dc), .val (.int (0 : Int32))] []
  have A' := A
  obtain ⟨E, F1, F2, F3⟩ := A'
  obtain ⟨fd, AD'⟩ := AD
  refine own_iloadN G0 d8_0 rfl ?_
  show ownGo _ _ _ _ _ _ _ T0 1 #[.val (.ref al), .val (.ref x), .val (.ref dc), .val (.int (0 : Int32))] [(.int (0 : Int32))]
  refine own_aloadN G0 d8_1 rfl rfl ?_
  show ownGo _ _ _ _ _ _ _ T0 2 #[.val (.ref al), .val (.ref x), .val (.ref dc), .val (.int (0 : Int32))] [(.ref dc), (.int (0 : Int32))]
  refine own_arraylength G0 d8_2 (AD'.ext O.2) ?_
  show ownGo _ _ _ _ _ _ _ T0 3 #[.val (.ref al), .val (.ref x), .val (.ref dc), .val (.int (0 : Int32))] [(.int (0 : Int32)), (.int (0 : Int32))]
  refine own_icmp_ne G0 d8_3 (pc' := 11) (by decide) (by decide) (fun hc => False.elim (hc rfl)) (fun hc => ?_)
  show ownGo _ _ _ _ _ _ _ T0 6 #[.val (.ref al), .val (.ref x), .val (.ref dc), .val (.int (0 : Int32))] []
  refine own_aloadN G0 d8_6 rfl rfl ?_
  show ownGo _ _ _ _ _ _ _ T0 7 #[.val (.ref al), .val (.ref x), .val (.ref dc), .val (.int (0 : Int32))] [(.ref al)]
  refine own_private G0 d8_7 (y := (⟨"java/util/ArrayList", "grow", "()[Ljava/lang/Object;"⟩ : MethodName)) (hw _ (List.mem_of_getElem? (i := 63) rfl)) (hw _ (List.mem_of_getElem? (i := 64) rfl)) (hw _ (List.mem_of_getElem? (i := 66) rfl)) (hw _ (List.mem_of_getElem? (i := 65) rfl)) (hw _ (List.mem_of_getElem? (i := 23) rfl)) (hw _ (List.mem_of_getElem? (i := 67) rfl)) (by decide) (a := al) (argsL := []) (rest := []) E (rmGrow l Z a0 hw al dc mc h0 n0 Z0 A g O SD ⟨fd, AD'⟩) rfl rfl rfl (lenOf pd_3 rfl) (W := 0) (Nat.le_of_eq rfl) (by decide) (by decide) (by decide) (by decide) ?_
  intro v22 T22 h22 hq22 G22
  obtain ⟨ed, rfl, q1, q2, K, A1⟩ := hq22
  show ownGo _ _ _ _ _ _ _ T22 10 #[.val (.ref al), .val (.ref x), .val (.ref dc), .val (.int (0 : Int32))] [(.ref ed)]
  have lt : h0.size > al := E.lt
  clear E F1 F2 F3
  obtain ⟨E, F1, F2, F3, R⟩ := A1
  refine own_astoreN G22 d8_10 (L' := #[.val (.ref al), .val (.ref x), .val (.ref ed), .val (.int (0 : Int32))]) rfl rfl ?_
  show ownGo _ _ _ _ _ _ _ T22 11 #[.val (.ref al), .val (.ref x), .val (.ref ed), .val (.int (0 : Int32))] []
  refine own_aloadN G22 d8_11 rfl rfl ?_
  show ownGo _ _ _ _ _ _ _ T22 12 #[.val (.ref al), .val (.ref x), .val (.ref ed), .val (.int (0 : Int32))] [(.ref ed)]
  refine own_iloadN G22 d8_12 rfl ?_
  show ownGo _ _ _ _ _ _ _ T22 13 #[.val (.ref al), .val (.ref x), .val (.ref ed), .val (.int (0 : Int32))] [(.int (0 : Int32)), (.ref ed)]
  refine own_aloadN G22 d8_13 rfl rfl ?_
  show ownGo _ _ _ _ _ _ _ T22 14 #[.val (.ref al), .val (.ref x), .val (.ref ed), .val (.int (0 : Int32))] [(.ref x), (.int (0 : Int32)), (.ref ed)]
  refine own_aastore G22 d8_14 R (i := 0) (by decide) (Or.inr ⟨_, rfl, Ins.of_exa (Ix.keep K) (hw _ (List.mem_of_getElem? (i := 79) rfl))⟩) (by omega) ?_
  intro T23 h23 W23 G23
  show ownGo _ _ _ _ _ _ _ T23 15 #[.val (.ref al), .val (.ref x), .val (.ref ed), .val (.int (0 : Int32))] []
  have z23 : h23.size = h22.size := W23.size
  replace E := E.wr W23
  replace F1 := F1.other W23 (Or.inl (own_neA (by omega)))
  replace F2 := F2.other W23 (Or.inl (own_neA (by omega)))
  replace F3 := F3.other W23 (Or.inl (own_neA (by omega)))
  replace R := R.same W23
  replace K := K.wr W23 (Or.inr (by omega))
  refine own_aloadN G23 d8_15 rfl rfl ?_
  show ownGo _ _ _ _ _ _ _ T23 16 #[.val (.ref al), .val (.ref x), .val (.ref ed), .val (.int (0 : Int32))] [(.ref al)]
  refine own_iloadN G23 d8_16 rfl ?_
  show ownGo _ _ _ _ _ _ _ T23 17 #[.val (.ref al), .val (.ref x), .val (.ref ed), .val (.int (0 : Int32))] [(.int (0 : Int32)), (.ref al)]
  refine own_iconst G23 d8_17 ?_
  show ownGo _ _ _ _ _ _ _ T23 18 #[.val (.ref al), .val (.ref x), .val (.ref ed), .val (.int (0 : Int32))] [(.int (1 : Int32)), (.int (0 : Int32)), (.ref al)]
  refine own_iadd G23 d8_18 ?_
  show ownGo _ _ _ _ _ _ _ T23 19 #[.val (.ref al), .val (.ref x), .val (.ref ed), .val (.int (0 : Int32))] [(.int ((0 : Int32) + (1 : Int32))), (.ref al)]
  rw [(by decide : (0 : Int32) + (1 : Int32) = 1)]
  show ownGo _ _ _ _ _ _ _ T23 19 #[.val (.ref al), .val (.ref x), .val (.ref ed), .val (.int (0 : Int32))] [(.int (1 : Int32)), (.ref al)]
  refine own_putF G23 d8_19 (hw _ (List.mem_of_getElem? (i := 56) rfl)) Via.refl F3 E (Or.inl (hw _ (List.mem_of_getElem? (i := 57) rfl))) (hw _ (List.mem_of_getElem? (i := 22) rfl)) (ty := .int) (by decide) rfl rfl g ?_
  intro T24 h24 W24 G24
  show ownGo _ _ _ _ _ _ _ T24 22 #[.val (.ref al), .val (.ref x), .val (.ref ed), .val (.int (0 : Int32))] []
  have z24 : h24.size = h23.size := W24.size
  replace E := E.wr W24
  replace F1 := F1.other W24 (Or.inr (slot_ne (Or.inl (hw _ (List.mem_of_getElem? (i := 41) rfl))) (Or.inl (hw _ (List.mem_of_getElem? (i := 57) rfl))) (by decide) (t := .int) (t' := .int) (by decide) (by decide)))
  replace F2 := F2.other W24 (Or.inr (slot_ne (Or.inl (hw _ (List.mem_of_getElem? (i := 44) rfl))) (Or.inl (hw _ (List.mem_of_getElem? (i := 57) rfl))) (by decide) (t := (.array (.object "java/lang/Object"))) (t' := .int) (by decide) (by decide)))
  replace F3 := F3.same W24
  replace R := R.other W24 (own_neA (by omega))
  replace K := K.wr W24 (Or.inl (by simp))
  exact own_ret G24 d8_22 rfl (by decide) (by decide) ⟨ed, rfl, q1, by omega, K, E, F1, F2, F3, R⟩
theorem pn_rmAdd3b : plainFor (⟨"java/util/ArrayList", "add", "(Ljava/lang/Object;[Ljava/lang/Object;I)V"⟩ : MethodName) = true := plainFor_of_name (by first | (simp [plainName, overriddenIn]; done) | decide +kernel)
theorem ef_rmAdd3b (m : MethodId) (al : Addr) (x : Addr) (ed : Addr) (p3 : Int32) : entryFrame m #[(.ref al), (.ref x), (.ref ed), (.int p3)] 4 = mkF m 0 #[.val (.ref al), .val (.ref x), .val (.ref ed), .val (.int p3)] [] := by first | (simp [entryFrame, mkF, argsToLocals, Value.category]; done) | rfl
set_option maxRecDepth 65536 in
set_option maxHeartbeats 40000000 in
theorem rmAdd3b (l : Launch) (Z : State) (a0 : Array Value) (hw : ∀ d ∈ tables_1, d.before a0 Z = true) (al : Addr) (x : Addr) (ed : Addr) (p3 : Int32) (mc : Int32) (k : Nat) (f : Nat → Value) (h0 : Heap) (n0 : Nat) (Z0 : n0 ≤ h0.size) (A : ownA1 Z h0 al ed mc k f) (g : n0 ≤ al) (gd : n0 ≤ ed) (ne : al ≠ ed) (hk : k < 10) (Ix : Exa Z h0 x "com/example/biomed_reranker/biomedreranker/Run$Entry") (e3 : p3 = Int32.ofNat k) :
    ownMet l [] (⟨"java/util/ArrayList", "add", "(Ljava/lang/Object;[Ljava/lang/Object;I)V"⟩ : MethodName) jdk_38_method_24_code 4 none ({ frames := 0, cells := 0, slots := 0, locals := 0 } : Room) Z n0 #[(.ref al), (.ref x), (.ref ed), (.int p3)] h0 (fun v h => v = none ∧ Keep h0 h [al, ed] ∧ ownA1 Z h al ed mc (k + 1) (fun j => if j = k then (.ref x) else f j)) := by
  refine own_body (own := "java/util/ArrayList") (nm := "add") pn_rmAdd3b (fun m => ef_rmAdd3b m al x ed p3) rfl rfl ?_
  intro p e s m below meth c T0 G0
  show ownGo _ _ _ _ _ _ _ T0 0 #[.val (.ref al), .val (.ref x), .val (.ref ed), .val (.int p3)] []
  subst e3
  show ownGo _ _ _ _ _ _ _ T0 0 #[.val (.ref al), .val (.ref x), .val (.ref ed), .val (.int (Int32.ofNat k))] []
  obtain ⟨E, F1, F2, F3, R⟩ := A
  refine own_iloadN G0 d8_0 rfl ?_
  show ownGo _ _ _ _ _ _ _ T0 1 #[.val (.ref al), .val (.ref x), .val (.ref ed), .val (.int (Int32.ofNat k))] [(.int (Int32.ofNat k))]
  refine own_aloadN G0 d8_1 rfl rfl ?_
  show ownGo _ _ _ _ _ _ _ T0 2 #[.val (.ref al), .val (.ref x), .val (.ref ed), .val (.int (Int32.ofNat k))] [(.ref ed), (.int (Int32.ofNat k))]
  refine own_arraylength G0 d8_2 R.arr ?_
  show ownGo _ _ _ _ _ _ _ T0 3 #[.val (.ref al), .val (.ref x), .val (.ref ed), .val (.int (Int32.ofNat k))] [(.int (10 : Int32)), (.int (Int32.ofNat k))]
  refine own_icmp_ne G0 d8_3 (pc' := 11) (by decide) (by decide) (fun hc => ?_) (fun hc => False.elim (absurd (own_injN (n := 10) (by omega) (by decide) hc) (by omega)))
  show ownGo _ _ _ _ _ _ _ T0 11 #[.val (.ref al), .val (.ref x), .val (.ref ed), .val (.int (Int32.ofNat k))] []
  refine own_aloadN G0 d8_11 rfl rfl ?_
  show ownGo _ _ _ _ _ _ _ T0 12 #[.val (.ref al), .val (.ref x), .val (.ref ed), .val (.int (Int32.ofNat k))] [(.ref ed)]
  refine own_iloadN G0 d8_12 rfl ?_
  show ownGo _ _ _ _ _ _ _ T0 13 #[.val (.ref al), .val (.ref x), .val (.ref ed), .val (.int (Int32.ofNat k))] [(.int (Int32.ofNat k)), (.ref ed)]
  refine own_aloadN G0 d8_13 rfl rfl ?_
  show ownGo _ _ _ _ _ _ _ T0 14 #[.val (.ref al), .val (.ref x), .val (.ref ed), .val (.int (Int32.ofNat k))] [(.ref x), (.int (Int32.ofNat k)), (.ref ed)]
  refine own_aastore G0 d8_14 R  (own_ixN hk (by decide)) (Or.inr ⟨_, rfl, Ins.of_exa Ix (hw _ (List.mem_of_getElem? (i := 79) rfl))⟩) gd ?_
  intro T25 h25 W25 G25
  show ownGo _ _ _ _ _ _ _ T25 15 #[.val (.ref al), .val (.ref x), .val (.ref ed), .val (.int (Int32.ofNat k))] []
  have K : Keep h0 h25 [al, ed] := (Keep.refl h0 [al, ed]).wr W25 (Or.inl (by simp))
  have z25 : h25.size = h0.size := W25.size
  replace E := E.wr W25
  replace F1 := F1.other W25 (Or.inl ne)
  replace F2 := F2.other W25 (Or.inl ne)
  replace F3 := F3.other W25 (Or.inl ne)
  replace R := R.same W25
  refine own_aloadN G25 d8_15 rfl rfl ?_
  show ownGo _ _ _ _ _ _ _ T25 16 #[.val (.ref al), .val (.ref x), .val (.ref ed), .val (.int (Int32.ofNat k))] [(.ref al)]
  refine own_iloadN G25 d8_16 rfl ?_
  show ownGo _ _ _ _ _ _ _ T25 17 #[.val (.ref al), .val (.ref x), .val (.ref ed), .val (.int (Int32.ofNat k))] [(.int (Int32.ofNat k)), (.ref al)]
  refine own_iconst G25 d8_17 ?_
  show ownGo _ _ _ _ _ _ _ T25 18 #[.val (.ref al), .val (.ref x), .val (.ref ed), .val (.int (Int32.ofNat k))] [(.int (1 : Int32)), (.int (Int32.ofNat k)), (.ref al)]
  refine own_iadd G25 d8_18 ?_
  show ownGo _ _ _ _ _ _ _ T25 19 #[.val (.ref al), .val (.ref x), .val (.ref ed), .val (.int (Int32.ofNat k))] [(.int ((Int32.ofNat k) + (1 : Int32))), (.ref al)]
  rw [own_succN k]
  show ownGo _ _ _ _ _ _ _ T25 19 #[.val (.ref al), .val (.ref x), .val (.ref ed), .val (.int (Int32.ofNat k))] [(.int (Int32.ofNat (k + 1))), (.ref al)]
  refine own_putF G25 d8_19 (hw _ (List.mem_of_getElem? (i := 56) rfl)) Via.refl F3 E (Or.inl (hw _ (List.mem_of_getElem? (i := 57) rfl))) (hw _ (List.mem_of_getElem? (i := 22) rfl)) (ty := .int) (by decide) rfl rfl g ?_
  intro T26 h26 W26 G26
  show ownGo _ _ _ _ _ _ _ T26 22 #[.val (.ref al), .val (.ref x), .val (.ref ed), .val (.int (Int32.ofNat k))] []
  have z26 : h26.size = h25.size := W26.size
  replace E := E.wr W26
  replace F1 := F1.other W26 (Or.inr (slot_ne (Or.inl (hw _ (List.mem_of_getElem? (i := 41) rfl))) (Or.inl (hw _ (List.mem_of_getElem? (i := 57) rfl))) (by decide) (t := .int) (t' := .int) (by decide) (by decide)))
  replace F2 := F2.other W26 (Or.inr (slot_ne (Or.inl (hw _ (List.mem_of_getElem? (i := 44) rfl))) (Or.inl (hw _ (List.mem_of_getElem? (i := 57) rfl))) (by decide) (t := (.array (.object "java/lang/Object"))) (t' := .int) (by decide) (by decide)))
  replace F3 := F3.same W26
  replace R := R.other W26 ne.symm
  replace K := K.wr W26 (Or.inl (by simp))
  exact own_ret G26 d8_22 rfl (by decide) (by decide) ⟨rfl, K, E, F1, F2, F3, R⟩
theorem pn_rmAdda : plainFor (⟨"java/util/ArrayList", "add", "(Ljava/lang/Object;)Z"⟩ : MethodName) = true := plainFor_of_name (by first | (simp [plainName, overriddenIn]; done) | decide +kernel)
theorem ef_rmAdda (m : MethodId) (al : Addr) (x : Addr) : entryFrame m #[(.ref al), (.ref x)] 2 = mkF m 0 #[.val (.ref al), .val (.ref x)] [] := by first | (simp [entryFrame, mkF, argsToLocals, Value.category]; done) | rfl
set_option maxRecDepth 65536 in
set_option maxHeartbeats 40000000 in
theorem rmAdda (l : Launch) (Z : State) (a0 : Array Value) (hw : ∀ d ∈ tables_1, d.before a0 Z = true) (al : Addr) (x : Addr) (dc : Addr) (mc : Int32) (h0 : Heap) (n0 : Nat) (Z0 : n0 ≤ h0.size) (A : ownA0 Z h0 dc al mc) (g : n0 ≤ al) (O : Old Z n0 h0) (SD : Sta Z Z.heap "java/util/ArrayList" "DEFAULTCAPACITY_EMPTY_ELEMENTDATA" "[Ljava/lang/Object;" (.ref dc)) (AD : ∃ f, ownArr Z Z.heap dc (.object "java/lang/Object") 0 f) (Ix : Exa Z h0 x "com/example/biomed_reranker/biomedreranker/Run$Entry") :
    ownMet l [] (⟨"java/util/ArrayList", "add", "(Ljava/lang/Object;)Z"⟩ : MethodName) jdk_38_method_25_code 2 (some .boolean) ({ frames := 4, cells := 1, slots := 10, locals := 56 } : Room) Z n0 #[(.ref al), (.ref x)] h0 (fun v h => ∃ ed, v = some (.int 1) ∧ h0.size ≤ ed ∧ h.size > ed ∧ Keep h0 h [al] ∧ ownA1 Z h al ed (mc + 1) 1 (fun j => if j = 0 then (.ref x) else .null)) := by
  refine own_body (own := "java/util/ArrayList") (nm := "add") pn_rmAdda (fun m => ef_rmAdda m al x) rfl rfl ?_
  intro p e s m below meth c T0 G0
  show ownGo _ _ _ _ _ _ _ T0 0 #[.val (.ref al), .val (.ref x)] []
  obtain ⟨E, F1, F2, F3⟩ := A
  have K : Keep h0 h0 [al] := Keep.refl _ _
  refine own_aloadN G0 d7_0 rfl rfl ?_
  show ownGo _ _ _ _ _ _ _ T0 1 #[.val (.ref al), .val (.ref x)] [(.ref al)]
  refine own_dup G0 d7_1 rfl ?_
  show ownGo _ _ _ _ _ _ _ T0 2 #[.val (.ref al), .val (.ref x)] [(.ref al), (.ref al)]
  refine own_getF G0 d7_2 (hw _ (List.mem_of_getElem? (i := 54) rfl)) (Via.of (hw _ (List.mem_of_getElem? (i := 55) rfl))) F1 ?_
  intro T27 G27
  show ownGo _ _ _ _ _ _ _ T27 5 #[.val (.ref al), .val (.ref x)] [(.int mc), (.ref al)]
  refine own_iconst G27 d7_5 ?_
  show ownGo _ _ _ _ _ _ _ T27 6 #[.val (.ref al), .val (.ref x)] [(.int (1 : Int32)), (.int mc), (.ref al)]
  refine own_iadd G27 d7_6 ?_
  show ownGo _ _ _ _ _ _ _ T27 7 #[.val (.ref al), .val (.ref x)] [(.int (mc + (1 : Int32))), (.ref al)]
  refine own_putF G27 d7_7 (hw _ (List.mem_of_getElem? (i := 54) rfl)) (Via.of (hw _ (List.mem_of_getElem? (i := 55) rfl))) F1 E (Or.inl (hw _ (List.mem_of_getElem? (i := 41) rfl))) (hw _ (List.mem_of_getElem? (i := 22) rfl)) (ty := .int) (by decide) rfl rfl g ?_
  intro T28 h28 W28 G28
  show ownGo _ _ _ _ _ _ _ T28 10 #[.val (.ref al), .val (.ref x)] []
  have z28 : h28.size = h0.size := W28.size
  replace E := E.wr W28
  replace F1 := F1.same W28
  replace F2 := F2.other W28 (Or.inr (slot_ne (Or.inl (hw _ (List.mem_of_getElem? (i := 44) rfl))) (Or.inl (hw _ (List.mem_of_getElem? (i := 41) rfl))) (by decide) (t := (.array (.object "java/lang/Object"))) (t' := .int) (by decide) (by decide)))
  replace F3 := F3.other W28 (Or.inr (slot_ne (Or.inl (hw _ (List.mem_of_getElem? (i := 57) rfl))) (Or.inl (hw _ (List.mem_of_getElem? (i := 41) rfl))) (by decide) (t := .int) (t' := .int) (by decide) (by decide)))
  replace Ix := Ix.wr W28
  replace Z0 : n0 ≤ h28.size := by rw [W28.size]; exact Z0
  replace O := O.wr W28 g
  replace K := K.wr W28 (Or.inl (by simp))
  refine own_aloadN G28 d7_10 rfl rfl ?_
  show ownGo _ _ _ _ _ _ _ T28 11 #[.val (.ref al), .val (.ref x)] [(.ref al)]
  refine own_aloadN G28 d7_11 rfl rfl ?_
  show ownGo _ _ _ _ _ _ _ T28 12 #[.val (.ref al), .val (.ref x)] [(.ref x), (.ref al)]
  refine own_aloadN G28 d7_12 rfl rfl ?_
  show ownGo _ _ _ _ _ _ _ T28 13 #[.val (.ref al), .val (.ref x)] [(.ref al), (.ref x), (.ref al)]
  refine own_getF G28 d7_13 (hw _ (List.mem_of_getElem? (i := 43) rfl)) Via.refl F2 ?_
  intro T29 G29
  show ownGo _ _ _ _ _ _ _ T29 16 #[.val (.ref al), .val (.ref x)] [(.ref dc), (.ref x), (.ref al)]
  refine own_aloadN G29 d7_16 rfl rfl ?_
  show ownGo _ _ _ _ _ _ _ T29 17 #[.val (.ref al), .val (.ref x)] [(.ref al), (.ref dc), (.ref x), (.ref al)]
  refine own_getF G29 d7_17 (hw _ (List.mem_of_getElem? (i := 56) rfl)) Via.refl F3 ?_
  intro T30 G30
  show ownGo _ _ _ _ _ _ _ T30 20 #[.val (.ref al), .val (.ref x)] [(.int (0 : Int32)), (.ref dc), (.ref x), (.ref al)]
  refine own_private G30 d7_20 (y := (⟨"java/util/ArrayList", "add", "(Ljava/lang/Object;[Ljava/lang/Object;I)V"⟩ : MethodName)) (hw _ (List.mem_of_getElem? (i := 58) rfl)) (hw _ (List.mem_of_getElem? (i := 59) rfl)) (hw _ (List.mem_of_getElem? (i := 61) rfl)) (hw _ (List.mem_of_getElem? (i := 60) rfl)) (hw _ (List.mem_of_getElem? (i := 23) rfl)) (hw _ (List.mem_of_getElem? (i := 62) rfl)) (by decide) (a := al) (argsL := [(.ref x), (.ref dc), (.int (0 : Int32))]) (rest := []) E (rmAdd3a l Z a0 hw al x dc (mc + 1) h28 n0 Z0 ⟨E, F1, F2, F3⟩ g O SD AD Ix) rfl rfl rfl (lenOf pd_4 rfl) (W := 0) (Nat.le_of_eq rfl) (by decide) (by decide) (by decide) (by decide) ?_
  intro v31 T31 h31 hq31 G31
  obtain ⟨ed, rfl, q1, q2, K', A1⟩ := hq31
  show ownGo _ _ _ _ _ _ _ T31 23 #[.val (.ref al), .val (.ref x)] []
  refine own_iconst G31 d7_23 ?_
  show ownGo _ _ _ _ _ _ _ T31 24 #[.val (.ref al), .val (.ref x)] [(.int (1 : Int32))]
  exact own_zreturn G31 d7_24 rfl (by decide) (by decide) ⟨ed, rfl, by omega, q2, K.trans K' (allS (Or.inl (by simp)) all0), A1⟩
theorem pn_rmAddb : plainFor (⟨"java/util/ArrayList", "add", "(Ljava/lang/Object;)Z"⟩ : MethodName) = true := plainFor_of_name (by first | (simp [plainName, overriddenIn]; done) | decide +kernel)
theorem ef_rmAddb (m : MethodId) (al : Addr) (x : Addr) : entryFrame m #[(.ref al), (.ref x)] 2 = mkF m 0 #[.val (.ref al), .val (.ref x)] [] := by first | (simp [entryFrame, mkF, argsToLocals, Value.category]; done) | rfl
set_option maxRecDepth 65536 in
set_option maxHeartbeats 40000000 in
theorem rmAddb (l : Launch) (Z : State) (a0 : Array Value) (hw : ∀ d ∈ tables_1, d.before a0 Z = true) (al : Addr) (x : Addr) (ed : Addr) (mc : Int32) (k : Nat) (f : Nat → Value) (h0 : Heap) (n0 : Nat) (Z0 : n0 ≤ h0.size) (A : ownA1 Z h0 al ed mc k f) (g : n0 ≤ al) (gd : n0 ≤ ed) (ne : al ≠ ed) (hk : k < 10) (Ix : Exa Z h0 x "com/example/biomed_reranker/biomedreranker/Run$Entry") :
    ownMet l [] (⟨"java/util/ArrayList", "add", "(Ljava/lang/Object;)Z"⟩ : MethodName) jdk_38_method_25_code 2 (some .boolean) ({ frames := 1, cells := 0, slots := 0, locals := 15 } : Room) Z n0 #[(.ref al), (.ref x)] h0 (fun v h => v = some (.int 1) ∧ Keep h0 h [al, ed] ∧ ownA1 Z h al ed (mc + 1) (k + 1) (fun j => if j = k then (.ref x) else f j)) := by
  refine own_body (own := "java/util/ArrayList") (nm := "add") pn_rmAddb (fun m => ef_rmAddb m al x) rfl rfl ?_
  intro p e s m below meth c T0 G0
  show ownGo _ _ _ _ _ _ _ T0 0 #[.val (.ref al), .val (.ref x)] []
  obtain ⟨E, F1, F2, F3, R⟩ := A
  have K : Keep h0 h0 [al, ed] := Keep.refl _ _
  refine own_aloadN G0 d7_0 rfl rfl ?_
  show ownGo _ _ _ _ _ _ _ T0 1 #[.val (.ref al), .val (.ref x)] [(.ref al)]
  refine own_dup G0 d7_1 rfl ?_
  show ownGo _ _ _ _ _ _ _ T0 2 #[.val (.ref al), .val (.ref x)] [(.ref al), (.ref al)]
  refine own_getF G0 d7_2 (hw _ (List.mem_of_getElem? (i := 54) rfl)) (Via.of (hw _ (List.mem_of_getElem? (i := 55) rfl))) F1 ?_
  intro T32 G32
  show ownGo _ _ _ _ _ _ _ T32 5 #[.val (.ref al), .val (.ref x)] [(.int mc), (.ref al)]
  refine own_iconst G32 d7_5 ?_
  show ownGo _ _ _ _ _ _ _ T32 6 #[.val (.ref al), .val (.ref x)] [(.int (1 : Int32)), (.int mc), (.ref al)]
  refine own_iadd G32 d7_6 ?_
  show ownGo _ _ _ _ _ _ _ T32 7 #[.val (.ref al), .val (.ref x)] [(.int (mc + (1 : Int32))), (.ref al)]
  refine own_putF G32 d7_7 (hw _ (List.mem_of_getElem? (i := 54) rfl)) (Via.of (hw _ (List.mem_of_getElem? (i := 55) rfl))) F1 E (Or.inl (hw _ (List.mem_of_getElem? (i := 41) rfl))) (hw _ (List.mem_of_getElem? (i := 22) rfl)) (ty := .int) (by decide) rfl rfl g ?_
  intro T33 h33 W33 G33
  show ownGo _ _ _ _ _ _ _ T33 10 #[.val (.ref al), .val (.ref x)] []
  have z33 : h33.size = h0.size := W33.size
  replace E := E.wr W33
  replace F1 := F1.same W33
  replace F2 := F2.other W33 (Or.inr (slot_ne (Or.inl (hw _ (List.mem_of_getElem? (i := 44) rfl))) (Or.inl (hw _ (List.mem_of_getElem? (i := 41) rfl))) (by decide) (t := (.array (.object "java/lang/Object"))) (t' := .int) (by decide) (by decide)))
  replace F3 := F3.other W33 (Or.inr (slot_ne (Or.inl (hw _ (List.mem_of_getElem? (i := 57) rfl))) (Or.inl (hw _ (List.mem_of_getElem? (i := 41) rfl))) (by decide) (t := .int) (t' := .int) (by decide) (by decide)))
  replace R := R.other W33 ne.symm
  replace Ix := Ix.wr W33
  replace Z0 : n0 ≤ h33.size := by rw [W33.size]; exact Z0
  replace K := K.wr W33 (Or.inl (by simp))
  refine own_aloadN G33 d7_10 rfl rfl ?_
  show ownGo _ _ _ _ _ _ _ T33 11 #[.val (.ref al), .val (.ref x)] [(.ref al)]
  refine own_aloadN G33 d7_11 rfl rfl ?_
  show ownGo _ _ _ _ _ _ _ T33 12 #[.val (.ref al), .val (.ref x)] [(.ref x), (.ref al)]
  refine own_aloadN G33 d7_12 rfl rfl ?_
  show ownGo _ _ _ _ _ _ _ T33 13 #[.val (.ref al), .val (.ref x)] [(.ref al), (.ref x), (.ref al)]
  refine own_getF G33 d7_13 (hw _ (List.mem_of_getElem? (i := 43) rfl)) Via.refl F2 ?_
  intro T34 G34
  show ownGo _ _ _ _ _ _ _ T34 16 #[.val (.ref al), .val (.ref x)] [(.ref ed), (.ref x), (.ref al)]
  refine own_aloadN G34 d7_16 rfl rfl ?_
  show ownGo _ _ _ _ _ _ _ T34 17 #[.val (.ref al), .val (.ref x)] [(.ref al), (.ref ed), (.ref x), (.ref al)]
  refine own_getF G34 d7_17 (hw _ (List.mem_of_getElem? (i := 56) rfl)) Via.refl F3 ?_
  intro T35 G35
  show ownGo _ _ _ _ _ _ _ T35 20 #[.val (.ref al), .val (.ref x)] [(.int (Int32.ofNat k)), (.ref ed), (.ref x), (.ref al)]
  refine own_private G35 d7_20 (y := (⟨"java/util/ArrayList", "add", "(Ljava/lang/Object;[Ljava/lang/Object;I)V"⟩ : MethodName)) (hw _ (List.mem_of_getElem? (i := 58) rfl)) (hw _ (List.mem_of_getElem? (i := 59) rfl)) (hw _ (List.mem_of_getElem? (i := 61) rfl)) (hw _ (List.mem_of_getElem? (i := 60) rfl)) (hw _ (List.mem_of_getElem? (i := 23) rfl)) (hw _ (List.mem_of_getElem? (i := 62) rfl)) (by decide) (a := al) (argsL := [(.ref x), (.ref ed), (.int (Int32.ofNat k))]) (rest := []) E (rmAdd3b l Z a0 hw al x ed _ (mc + 1) k f h33 n0 Z0 ⟨E, F1, F2, F3, R⟩ g gd ne hk Ix rfl) rfl rfl rfl (lenOf pd_4 rfl) (W := 0) (Nat.le_of_eq rfl) (by decide) (by decide) (by decide) (by decide) ?_
  intro v36 T36 h36 hq36 G36
  obtain ⟨rfl, K', A1⟩ := hq36
  show ownGo _ _ _ _ _ _ _ T36 23 #[.val (.ref al), .val (.ref x)] []
  refine own_iconst G36 d7_23 ?_
  show ownGo _ _ _ _ _ _ _ T36 24 #[.val (.ref al), .val (.ref x)] [(.int (1 : Int32))]
  exact own_zreturn G36 d7_24 rfl (by decide) (by decide) ⟨rfl, K.trans K' (allS (Or.inl (by simp)) (allS (Or.inl (by simp)) all0)), A1⟩
theorem pn_rmSz : plainFor (⟨"java/util/ArrayList", "size", "()I"⟩ : MethodName) = true := plainFor_of_name (by first | (simp [plainName, overriddenIn]; done) | decide +kernel)
theorem ef_rmSz (m : MethodId) (al : Addr) : entryFrame m #[(.ref al)] 1 = mkF m 0 #[.val (.ref al)] [] := by first | (simp [entryFrame, mkF, argsToLocals, Value.category]; done) | rfl
set_option maxRecDepth 65536 in
set_option maxHeartbeats 40000000 in
theorem rmSz (l : Launch) (Z : State) (a0 : Array Value) (hw : ∀ d ∈ tables_1, d.before a0 Z = true) (al ed : Addr) (mc : Int32) (k : Nat) (f : Nat → Value) (h0 : Heap) (n0 : Nat) (Z0 : n0 ≤ h0.size) (A : ownA1 Z h0 al ed mc k f) :
    ownMet l [] (⟨"java/util/ArrayList", "size", "()I"⟩ : MethodName) jdk_38_method_8_code 1 (some .int) ({ frames := 0, cells := 0, slots := 0, locals := 0 } : Room) Z n0 #[(.ref al)] h0 (fun v h => v = some (.int (Int32.ofNat k)) ∧ h0 = h) := by
  refine own_body (own := "java/util/ArrayList") (nm := "size") pn_rmSz (fun m => ef_rmSz m al) rfl rfl ?_
  intro p e s m below meth c T0 G0
  show ownGo _ _ _ _ _ _ _ T0 0 #[.val (.ref al)] []
  obtain ⟨E, F1, F2, F3, R⟩ := A
  refine own_aloadN G0 d14_0 rfl rfl ?_
  show ownGo _ _ _ _ _ _ _ T0 1 #[.val (.ref al)] [(.ref al)]
  refine own_getF G0 d14_1 (hw _ (List.mem_of_getElem? (i := 56) rfl)) Via.refl F3 ?_
  intro T37 G37
  show ownGo _ _ _ _ _ _ _ T37 4 #[.val (.ref al)] [(.int (Int32.ofNat k))]
  exact own_ireturn G37 d14_4 rfl (by decide) (by decide) ⟨rfl, rfl⟩
theorem ef_rmMin (m : MethodId) (p1 : Int32) (p2 : Int32) : entryFrame m #[(.int p1), (.int p2)] 2 = mkF m 0 #[.val (.int p1), .val (.int p2)] [] := by first | (simp [entryFrame, mkF, argsToLocals, Value.category]; done) | rfl
set_option maxRecDepth 65536 in
set_option maxHeartbeats 40000000 in
theorem rmMin (l : Launch) (Z : State) (a0 : Array Value) (hw : ∀ d ∈ tables_1, d.before a0 Z = true) (p1 p2 : Int32) (h0 : Heap) (n0 : Nat) (Z0 : n0 ≤ h0.size) :
    ownMet l [] (⟨"java/lang/Math", "min", "(II)I"⟩ : MethodName) jdk_29_method_69_code 2 (some .int) ({ frames := 0, cells := 0, slots := 0, locals := 0 } : Room) Z n0 #[(.int p1), (.int p2)] h0 (fun v h => v = some (.int (if p2 < p1 then p2 else p1)) ∧ h0 = h) := by
  refine own_body (own := "java/lang/Math") (nm := "min") (Jvm.Free.JP.mathPlain rfl (by decide +kernel)) (fun m => ef_rmMin m p1 p2) rfl rfl ?_
  intro p e s m below meth c T0 G0
  show ownGo _ _ _ _ _ _ _ T0 0 #[.val (.int p1), .val (.int p2)] []
  refine own_iloadN G0 d15_0 rfl ?_
  show ownGo _ _ _ _ _ _ _ T0 1 #[.val (.int p1), .val (.int p2)] [(.int p1)]
  refine own_iloadN G0 d15_1 rfl ?_
  show ownGo _ _ _ _ _ _ _ T0 2 #[.val (.int p1), .val (.int p2)] [(.int p2), (.int p1)]
  refine own_icmp_gt G0 d15_2 (pc' := 9) (by decide) (by decide) (fun hc => ?_) (fun hc => ?_)
  · show ownGo _ _ _ _ _ _ _ T0 9 #[.val (.int p1), .val (.int p2)] []
    refine own_iloadN G0 d15_9 rfl ?_
    show ownGo _ _ _ _ _ _ _ T0 10 #[.val (.int p1), .val (.int p2)] [(.int p2)]
    exact own_ireturn G0 d15_10 rfl (by decide) (by decide) ⟨by rw [if_pos hc], rfl⟩
  · show ownGo _ _ _ _ _ _ _ T0 5 #[.val (.int p1), .val (.int p2)] []
    refine own_iloadN G0 d15_5 rfl ?_
    show ownGo _ _ _ _ _ _ _ T0 6 #[.val (.int p1), .val (.int p2)] [(.int p1)]
    refine own_goto G0 d15_6 (pc' := 10) (by decide) (by decide) ?_
    show ownGo _ _ _ _ _ _ _ T0 10 #[.val (.int p1), .val (.int p2)] [(.int p1)]
    exact own_ireturn G0 d15_10 rfl (by decide) (by decide) ⟨by rw [if_neg hc], rfl⟩
theorem pn_rmEl : plainFor (⟨"java/util/ArrayList", "elementData", "(I)Ljava/lang/Object;"⟩ : MethodName) = true := plainFor_of_name (by first | (simp [plainName, overriddenIn]; done) | decide +kernel)
theorem ef_rmEl (m : MethodId) (al : Addr) (p1 : Int32) : entryFrame m #[(.ref al), (.int p1)] 2 = mkF m 0 #[.val (.ref al), .val (.int p1)] [] := by first | (simp [entryFrame, mkF, argsToLocals, Value.category]; done) | rfl
set_option maxRecDepth 65536 in
set_option maxHeartbeats 40000000 in
theorem rmEl (l : Launch) (Z : State) (a0 : Array Value) (hw : ∀ d ∈ tables_1, d.before a0 Z = true) (al : Addr) (p1 : Int32) (ed : Addr) (mc : Int32) (k : Nat) (f : Nat → Value) (j : Nat) (x : Addr) (h0 : Heap) (n0 : Nat) (Z0 : n0 ≤ h0.size) (A : ownA1 Z h0 al ed mc k f) (hj : j < 10) (e1 : p1 = Int32.ofNat j) (ex : f j = .ref x) :
    ownMet l [] (⟨"java/util/ArrayList", "elementData", "(I)Ljava/lang/Object;"⟩ : MethodName) jdk_38_method_18_code 2 (some (.object "java/lang/Object")) ({ frames := 0, cells := 0, slots := 0, locals := 0 } : Room) Z n0 #[(.ref al), (.int p1)] h0 (fun v h => v = some (.ref x) ∧ h0 = h) := by
  refine own_body (own := "java/util/ArrayList") (nm := "elementData") pn_rmEl (fun m => ef_rmEl m al p1) rfl rfl ?_
  intro p e s m below meth c T0 G0
  show ownGo _ _ _ _ _ _ _ T0 0 #[.val (.ref al), .val (.int p1)] []
  subst e1
  show ownGo _ _ _ _ _ _ _ T0 0 #[.val (.ref al), .val (.int (Int32.ofNat j))] []
  obtain ⟨E, F1, F2, F3, R⟩ := A
  refine own_aloadN G0 d24_0 rfl rfl ?_
  show ownGo _ _ _ _ _ _ _ T0 1 #[.val (.ref al), .val (.int (Int32.ofNat j))] [(.ref al)]
  refine own_getF G0 d24_1 (hw _ (List.mem_of_getElem? (i := 43) rfl)) Via.refl F2 ?_
  intro T38 G38
  show ownGo _ _ _ _ _ _ _ T38 4 #[.val (.ref al), .val (.int (Int32.ofNat j))] [(.ref ed)]
  refine own_iloadN G38 d24_4 rfl ?_
  show ownGo _ _ _ _ _ _ _ T38 5 #[.val (.ref al), .val (.int (Int32.ofNat j))] [(.int (Int32.ofNat j)), (.ref ed)]
  refine own_aaload G38 d24_5 (v := (.ref x)) R.arr rfl  (own_ixN hj (by decide)) ex ?_
  show ownGo _ _ _ _ _ _ _ T38 6 #[.val (.ref al), .val (.int (Int32.ofNat j))] [(.ref x)]
  exact own_areturn G38 d24_6 rfl rfl rfl rfl (by decide) (by decide) ⟨rfl, rfl⟩
theorem pn_rmPc : plainFor (⟨"jdk/internal/util/Preconditions", "checkIndex", "(IILjava/util/function/BiFunction;)I"⟩ : MethodName) = true := plainFor_of_name (by first | (simp [plainName, overriddenIn]; done) | decide +kernel)
theorem ef_rmPc (m : MethodId) (p1 : Int32) (p2 : Int32) : entryFrame m #[(.int p1), (.int p2), .null] 3 = mkF m 0 #[.val (.int p1), .val (.int p2), .val .null] [] := by first | (simp [entryFrame, mkF, argsToLocals, Value.category]; done) | rfl
set_option maxRecDepth 65536 in
set_option maxHeartbeats 40000000 in
theorem rmPc (l : Launch) (Z : State) (a0 : Array Value) (hw : ∀ d ∈ tables_1, d.before a0 Z = true) (p1 p2 : Int32) (j k : Nat) (h0 : Heap) (n0 : Nat) (Z0 : n0 ≤ h0.size) (hj : j < k) (hk : k ≤ 10) (e1 : p1 = Int32.ofNat j) (e2 : p2 = Int32.ofNat k) :
    ownMet l [] (⟨"jdk/internal/util/Preconditions", "checkIndex", "(IILjava/util/function/BiFunction;)I"⟩ : MethodName) jdk_41_method_11_code 3 (some .int) ({ frames := 0, cells := 0, slots := 0, locals := 0 } : Room) Z n0 #[(.int p1), (.int p2), .null] h0 (fun v h => v = some (.int p1) ∧ h0 = h) := by
  refine own_body (own := "jdk/internal/util/Preconditions") (nm := "checkIndex") pn_rmPc (fun m => ef_rmPc m p1 p2) rfl rfl ?_
  intro p e s m below meth c T0 G0
  show ownGo _ _ _ _ _ _ _ T0 0 #[.val (.int p1), .val (.int p2), .val .null] []
  refine own_iloadN G0 d23_0 rfl ?_
  show ownGo _ _ _ _ _ _ _ T0 1 #[.val (.int p1), .val (.int p2), .val .null] [(.int p1)]
  refine own_if_lt G0 d23_1 (pc' := 9) (by decide) (by decide) (fun hc => False.elim (own_nonneg (by omega) (e1 ▸ hc))) (fun hc => ?_)
  show ownGo _ _ _ _ _ _ _ T0 4 #[.val (.int p1), .val (.int p2), .val .null] []
  refine own_iloadN G0 d23_4 rfl ?_
  show ownGo _ _ _ _ _ _ _ T0 5 #[.val (.int p1), .val (.int p2), .val .null] [(.int p1)]
  refine own_iloadN G0 d23_5 rfl ?_
  show ownGo _ _ _ _ _ _ _ T0 6 #[.val (.int p1), .val (.int p2), .val .null] [(.int p2), (.int p1)]
  refine own_icmp_lt G0 d23_6 (pc' := 16) (by decide) (by decide) (fun hc => ?_) (fun hc => False.elim (hc (by rw [e1, e2]; exact (own_ltN (by omega) (by omega)).mpr hj)))
  show ownGo _ _ _ _ _ _ _ T0 16 #[.val (.int p1), .val (.int p2), .val .null] []
  refine own_iloadN G0 d23_16 rfl ?_
  show ownGo _ _ _ _ _ _ _ T0 17 #[.val (.int p1), .val (.int p2), .val .null] [(.int p1)]
  exact own_ireturn G0 d23_17 rfl (by decide) (by decide) ⟨rfl, rfl⟩
theorem pn_rmOb : plainFor (⟨"java/util/Objects", "checkIndex", "(II)I"⟩ : MethodName) = true := plainFor_of_name (by first | (simp [plainName, overriddenIn]; done) | decide +kernel)
theorem ef_rmOb (m : MethodId) (p1 : Int32) (p2 : Int32) : entryFrame m #[(.int p1), (.int p2)] 2 = mkF m 0 #[.val (.int p1), .val (.int p2)] [] := by first | (simp [entryFrame, mkF, argsToLocals, Value.category]; done) | rfl
set_option maxRecDepth 65536 in
set_option maxHeartbeats 40000000 in
theorem rmOb (l : Launch) (Z : State) (a0 : Array Value) (hw : ∀ d ∈ tables_1, d.before a0 Z = true) (p1 p2 : Int32) (j k : Nat) (h0 : Heap) (n0 : Nat) (Z0 : n0 ≤ h0.size) (hj : j < k) (hk : k ≤ 10) (e1 : p1 = Int32.ofNat j) (e2 : p2 = Int32.ofNat k) :
    ownMet l [] (⟨"java/util/Objects", "checkIndex", "(II)I"⟩ : MethodName) jdk_31_method_17_code 2 (some .int) ({ frames := 1, cells := 0, slots := 0, locals := 14 } : Room) Z n0 #[(.int p1), (.int p2)] h0 (fun v h => v = some (.int p1) ∧ h0 = h) := by
  refine own_body (own := "java/util/Objects") (nm := "checkIndex") pn_rmOb (fun m => ef_rmOb m p1 p2) rfl rfl ?_
  intro p e s m below meth c T0 G0
  show ownGo _ _ _ _ _ _ _ T0 0 #[.val (.int p1), .val (.int p2)] []
  refine own_iloadN G0 d22_0 rfl ?_
  show ownGo _ _ _ _ _ _ _ T0 1 #[.val (.int p1), .val (.int p2)] [(.int p1)]
  refine own_iloadN G0 d22_1 rfl ?_
  show ownGo _ _ _ _ _ _ _ T0 2 #[.val (.int p1), .val (.int p2)] [(.int p2), (.int p1)]
  refine own_aconst_null G0 d22_2 ?_
  show ownGo _ _ _ _ _ _ _ T0 3 #[.val (.int p1), .val (.int p2)] [.null, (.int p2), (.int p1)]
  refine own_callS G0 d22_3 (y := (⟨"jdk/internal/util/Preconditions", "checkIndex", "(IILjava/util/function/BiFunction;)I"⟩ : MethodName)) (hw _ (List.mem_of_getElem? (i := 174) rfl)) (hw _ (List.mem_of_getElem? (i := 175) rfl)) (hw _ (List.mem_of_getElem? (i := 176) rfl)) (hw _ (List.mem_of_getElem? (i := 177) rfl)) (by decide) (argsL := [(.int p1), (.int p2), .null]) (rest := []) (rmPc l Z a0 hw p1 p2 j k h0 n0 Z0 hj hk e1 e2) rfl rfl rfl (lenOf pd_5 rfl) (W := 0) (Nat.le_of_eq rfl) (by decide) (by decide) (by decide) (by decide) ?_
  intro v39 T39 h39 hq39 G39
  obtain ⟨rfl, rfl⟩ := hq39
  show ownGo _ _ _ _ _ _ _ T39 6 #[.val (.int p1), .val (.int p2)] [(.int p1)]
  exact own_ireturn G39 d22_6 rfl (by decide) (by decide) ⟨rfl, rfl⟩
def ownSub (Z : State) (h : Heap) (sb al : Addr) (mc : Int32) (j : Nat) : Prop := Exa Z h sb "java/util/ArrayList$SubList" ∧ Fld Z h sb "java/util/ArrayList$SubList" "root" "Ljava/util/ArrayList;" (.ref al) ∧ Fld Z h sb "java/util/ArrayList$SubList" "offset" "I" (.int 0) ∧ Fld Z h sb "java/util/ArrayList$SubList" "size" "I" (.int (Int32.ofNat j)) ∧ Fld Z h sb "java/util/AbstractList" "modCount" "I" (.int mc)
theorem pn_rmALs : plainFor (⟨"java/util/AbstractList", "<init>", "()V"⟩ : MethodName) = true := plainFor_of_name (by first | (simp [plainName, overriddenIn]; done) | decide +kernel)
theorem ef_rmALs (m : MethodId) (sb : Addr) : entryFrame m #[(.ref sb)] 1 = mkF m 0 #[.val (.ref sb)] [] := by first | (simp [entryFrame, mkF, argsToLocals, Value.category]; done) | rfl
set_option maxRecDepth 65536 in
set_option maxHeartbeats 40000000 in
theorem rmALs (l : Launch) (Z : State) (a0 : Array Value) (hw : ∀ d ∈ tables_1, d.before a0 Z = true) (sb : Addr) (u1 u2 u3 u4 u5 : Value) (h0 : Heap) (n0 : Nat) (Z0 : n0 ≤ h0.size) (E : Exa Z h0 sb "java/util/ArrayList$SubList") (G1 : Fld Z h0 sb "java/util/ArrayList$SubList" "root" "Ljava/util/ArrayList;" u1) (G2 : Fld Z h0 sb "java/util/ArrayList$SubList" "parent" "Ljava/util/ArrayList$SubList;" u2) (G3 : Fld Z h0 sb "java/util/ArrayList$SubList" "offset" "I" u3) (G4 : Fld Z h0 sb "java/util/ArrayList$SubList" "size" "I" u4) (G5 : Fld Z h0 sb "java/util/AbstractList" "modCount" "I" u5) (g : n0 ≤ sb) :
    ownMet l [] (⟨"java/util/AbstractList", "<init>", "()V"⟩ : MethodName) jdk_39_method_1_code 1 none ({ frames := 2, cells := 0, slots := 0, locals := 24 } : Room) Z n0 #[(.ref sb)] h0 (fun v h => v = none ∧ Keep h0 h [sb] ∧ Exa Z h sb "java/util/ArrayList$SubList" ∧ Fld Z h sb "java/util/ArrayList$SubList" "root" "Ljava/util/ArrayList;" u1 ∧ Fld Z h sb "java/util/ArrayList$SubList" "parent" "Ljava/util/ArrayList$SubList;" u2 ∧ Fld Z h sb "java/util/ArrayList$SubList" "offset" "I" u3 ∧ Fld Z h sb "java/util/ArrayList$SubList" "size" "I" u4 ∧ Fld Z h sb "java/util/AbstractList" "modCount" "I" (.int 0)) := by
  refine own_body (own := "java/util/AbstractList") (nm := "<init>") pn_rmALs (fun m => ef_rmALs m sb) rfl rfl ?_
  intro p e s m below meth c T0 G0
  show ownGo _ _ _ _ _ _ _ T0 0 #[.val (.ref sb)] []
  refine own_aloadN G0 d5_0 rfl rfl ?_
  show ownGo _ _ _ _ _ _ _ T0 1 #[.val (.ref sb)] [(.ref sb)]
  refine own_special G0 d5_1 (y := (⟨"java/util/AbstractCollection", "<init>", "()V"⟩ : MethodName)) rfl (hw _ (List.mem_of_getElem? (i := 33) rfl)) (hw _ (List.mem_of_getElem? (i := 34) rfl)) (hw _ (List.mem_of_getElem? (i := 37) rfl)) (hw _ (List.mem_of_getElem? (i := 38) rfl)) (by decide) (a := sb) (argsL := []) (rest := []) (rmAC l Z a0 hw sb h0 n0 Z0) rfl rfl rfl (lenOf pd_0 rfl) (W := 0) (Nat.le_of_eq rfl) (by decide) (by decide) (by decide) (by decide) ?_
  intro v40 T40 h40 hq40 G40
  obtain ⟨rfl, rfl⟩ := hq40
  show ownGo _ _ _ _ _ _ _ T40 4 #[.val (.ref sb)] []
  have K : Keep h0 h0 [sb] := Keep.refl _ _
  refine own_aloadN G40 d5_4 rfl rfl ?_
  show ownGo _ _ _ _ _ _ _ T40 5 #[.val (.ref sb)] [(.ref sb)]
  refine own_iconst G40 d5_5 ?_
  show ownGo _ _ _ _ _ _ _ T40 6 #[.val (.ref sb)] [(.int (0 : Int32)), (.ref sb)]
  refine own_putF G40 d5_6 (hw _ (List.mem_of_getElem? (i := 40) rfl)) Via.refl G5 E (Or.inl (hw _ (List.mem_of_getElem? (i := 137) rfl))) (hw _ (List.mem_of_getElem? (i := 128) rfl)) (ty := .int) (by decide) rfl rfl g ?_
  intro T41 h41 W41 G41
  show ownGo _ _ _ _ _ _ _ T41 9 #[.val (.ref sb)] []
  have z41 : h41.size = h0.size := W41.size
  replace E := E.wr W41
  replace G1 := G1.other W41 (Or.inr (slot_ne (Or.inr (hw _ (List.mem_of_getElem? (i := 139) rfl))) (Or.inl (hw _ (List.mem_of_getElem? (i := 137) rfl))) (by decide) (t := (.object "java/util/ArrayList")) (t' := .int) (by decide) (by decide)))
  replace G2 := G2.other W41 (Or.inr (slot_ne (Or.inr (hw _ (List.mem_of_getElem? (i := 141) rfl))) (Or.inl (hw _ (List.mem_of_getElem? (i := 137) rfl))) (by decide) (t := (.object "java/util/ArrayList$SubList")) (t' := .int) (by decide) (by decide)))
  replace G3 := G3.other W41 (Or.inr (slot_ne (Or.inr (hw _ (List.mem_of_getElem? (i := 143) rfl))) (Or.inl (hw _ (List.mem_of_getElem? (i := 137) rfl))) (by decide) (t := .int) (t' := .int) (by decide) (by decide)))
  replace G4 := G4.other W41 (Or.inr (slot_ne (Or.inl (hw _ (List.mem_of_getElem? (i := 145) rfl))) (Or.inl (hw _ (List.mem_of_getElem? (i := 137) rfl))) (by decide) (t := .int) (t' := .int) (by decide) (by decide)))
  replace G5 := G5.same W41
  replace Z0 : n0 ≤ h41.size := by rw [W41.size]; exact Z0
  replace K := K.wr W41 (Or.inl (by simp))
  exact own_ret G41 d5_9 rfl (by decide) (by decide) ⟨rfl, K, E, G1, G2, G3, G4, G5⟩
theorem pn_rmSb : plainFor (⟨"java/util/ArrayList$SubList", "<init>", "(Ljava/util/ArrayList;II)V"⟩ : MethodName) = true := plainFor_of_name (by first | (simp [plainName, overriddenIn]; done) | decide +kernel)
theorem ef_rmSb (m : MethodId) (sb : Addr) (al : Addr) (p3 : Int32) : entryFrame m #[(.ref sb), (.ref al), (.int (0 : Int32)), (.int p3)] 4 = mkF m 0 #[.val (.ref sb), .val (.ref al), .val (.int (0 : Int32)), .val (.int p3)] [] := by first | (simp [entryFrame, mkF, argsToLocals, Value.category]; done) | rfl
set_option maxRecDepth 65536 in
set_option maxHeartbeats 40000000 in
theorem rmSb (l : Launch) (Z : State) (a0 : Array Value) (hw : ∀ d ∈ tables_1, d.before a0 Z = true) (sb al : Addr) (p3 : Int32) (mc : Int32) (j : Nat) (u1 u2 u3 u4 u5 : Value) (h0 : Heap) (n0 : Nat) (Z0 : n0 ≤ h0.size) (E : Exa Z h0 sb "java/util/ArrayList$SubList") (G1 : Fld Z h0 sb "java/util/ArrayList$SubList" "root" "Ljava/util/ArrayList;" u1) (G2 : Fld Z h0 sb "java/util/ArrayList$SubList" "parent" "Ljava/util/ArrayList$SubList;" u2) (G3 : Fld Z h0 sb "java/util/ArrayList$SubList" "offset" "I" u3) (G4 : Fld Z h0 sb "java/util/ArrayList$SubList" "size" "I" u4) (G5 : Fld Z h0 sb "java/util/AbstractList" "modCount" "I" u5) (g : n0 ≤ sb) (M : Fld Z h0 al "java/util/AbstractList" "modCount" "I" (.int mc)) (ne : al ≠ sb) (e3 : p3 = Int32.ofNat j) :
    ownMet l [] (⟨"java/util/ArrayList$SubList", "<init>", "(Ljava/util/ArrayList;II)V"⟩ : MethodName) jdk_130_method_1_code 4 none ({ frames := 3, cells := 0, slots := 0, locals := 36 } : Room) Z n0 #[(.ref sb), (.ref al), (.int (0 : Int32)), (.int p3)] h0 (fun v h => v = none ∧ Keep h0 h [sb] ∧ ownSub Z h sb al mc j) := by
  refine own_body (own := "java/util/ArrayList$SubList") (nm := "<init>") pn_rmSb (fun m => ef_rmSb m sb al p3) rfl rfl ?_
  intro p e s m below meth c T0 G0
  show ownGo _ _ _ _ _ _ _ T0 0 #[.val (.ref sb), .val (.ref al), .val (.int (0 : Int32)), .val (.int p3)] []
  subst e3
  show ownGo _ _ _ _ _ _ _ T0 0 #[.val (.ref sb), .val (.ref al), .val (.int (0 : Int32)), .val (.int (Int32.ofNat j))] []
  refine own_aloadN G0 d18_0 rfl rfl ?_
  show ownGo _ _ _ _ _ _ _ T0 1 #[.val (.ref sb), .val (.ref al), .val (.int (0 : Int32)), .val (.int (Int32.ofNat j))] [(.ref sb)]
  refine own_special G0 d18_1 (y := (⟨"java/util/AbstractList", "<init>", "()V"⟩ : MethodName)) rfl (hw _ (List.mem_of_getElem? (i := 134) rfl)) (hw _ (List.mem_of_getElem? (i := 28) rfl)) (hw _ (List.mem_of_getElem? (i := 31) rfl)) (hw _ (List.mem_of_getElem? (i := 32) rfl)) (by decide) (a := sb) (argsL := []) (rest := []) (rmALs l Z a0 hw sb _ _ _ _ _ h0 n0 Z0 E G1 G2 G3 G4 G5 g) rfl rfl rfl (lenOf pd_0 rfl) (W := 0) (Nat.le_of_eq rfl) (by decide) (by decide) (by decide) (by decide) ?_
  intro v42 T42 h42 hq42 G42
  obtain ⟨rfl, K, E', H1, H2, H3, H4, H5⟩ := hq42
  show ownGo _ _ _ _ _ _ _ T42 4 #[.val (.ref sb), .val (.ref al), .val (.int (0 : Int32)), .val (.int (Int32.ofNat j))] []
  replace M := M.keep K (ninS ne nin0)
  clear E G1 G2 G3 G4 G5
  refine own_aloadN G42 d18_4 rfl rfl ?_
  show ownGo _ _ _ _ _ _ _ T42 5 #[.val (.ref sb), .val (.ref al), .val (.int (0 : Int32)), .val (.int (Int32.ofNat j))] [(.ref sb)]
  refine own_aloadN G42 d18_5 rfl rfl ?_
  show ownGo _ _ _ _ _ _ _ T42 6 #[.val (.ref sb), .val (.ref al), .val (.int (0 : Int32)), .val (.int (Int32.ofNat j))] [(.ref al), (.ref sb)]
  refine own_putF G42 d18_6 (hw _ (List.mem_of_getElem? (i := 138) rfl)) Via.refl H1 E' (Or.inr ⟨(hw _ (List.mem_of_getElem? (i := 139) rfl)), rfl, rfl⟩) (hw _ (List.mem_of_getElem? (i := 128) rfl)) (ty := (.object "java/util/ArrayList")) (by decide) rfl rfl g ?_
  intro T43 h43 W43 G43
  show ownGo _ _ _ _ _ _ _ T43 9 #[.val (.ref sb), .val (.ref al), .val (.int (0 : Int32)), .val (.int (Int32.ofNat j))] []
  have z43 : h43.size = h42.size := W43.size
  replace E' := E'.wr W43
  replace H1 := H1.same W43
  replace H2 := H2.other W43 (Or.inr (slot_ne (Or.inr (hw _ (List.mem_of_getElem? (i := 141) rfl))) (Or.inr (hw _ (List.mem_of_getElem? (i := 139) rfl))) (by decide) (t := (.object "java/util/ArrayList$SubList")) (t' := (.object "java/util/ArrayList")) (by decide) (by decide)))
  replace H3 := H3.other W43 (Or.inr (slot_ne (Or.inr (hw _ (List.mem_of_getElem? (i := 143) rfl))) (Or.inr (hw _ (List.mem_of_getElem? (i := 139) rfl))) (by decide) (t := .int) (t' := (.object "java/util/ArrayList")) (by decide) (by decide)))
  replace H4 := H4.other W43 (Or.inr (slot_ne (Or.inl (hw _ (List.mem_of_getElem? (i := 145) rfl))) (Or.inr (hw _ (List.mem_of_getElem? (i := 139) rfl))) (by decide) (t := .int) (t' := (.object "java/util/ArrayList")) (by decide) (by decide)))
  replace H5 := H5.other W43 (Or.inr (slot_ne (Or.inl (hw _ (List.mem_of_getElem? (i := 137) rfl))) (Or.inr (hw _ (List.mem_of_getElem? (i := 139) rfl))) (by decide) (t := .int) (t' := (.object "java/util/ArrayList")) (by decide) (by decide)))
  replace M := M.other W43 (Or.inl ne)
  replace K := K.wr W43 (Or.inl (by simp))
  refine own_aloadN G43 d18_9 rfl rfl ?_
  show ownGo _ _ _ _ _ _ _ T43 10 #[.val (.ref sb), .val (.ref al), .val (.int (0 : Int32)), .val (.int (Int32.ofNat j))] [(.ref sb)]
  refine own_aconst_null G43 d18_10 ?_
  show ownGo _ _ _ _ _ _ _ T43 11 #[.val (.ref sb), .val (.ref al), .val (.int (0 : Int32)), .val (.int (Int32.ofNat j))] [.null, (.ref sb)]
  refine own_putF G43 d18_11 (hw _ (List.mem_of_getElem? (i := 140) rfl)) Via.refl H2 E' (Or.inr ⟨(hw _ (List.mem_of_getElem? (i := 141) rfl)), rfl, rfl⟩) (hw _ (List.mem_of_getElem? (i := 128) rfl)) (ty := (.object "java/util/ArrayList$SubList")) (by decide) rfl rfl g ?_
  intro T44 h44 W44 G44
  show ownGo _ _ _ _ _ _ _ T44 14 #[.val (.ref sb), .val (.ref al), .val (.int (0 : Int32)), .val (.int (Int32.ofNat j))] []
  have z44 : h44.size = h43.size := W44.size
  replace E' := E'.wr W44
  replace H1 := H1.other W44 (Or.inr (slot_ne (Or.inr (hw _ (List.mem_of_getElem? (i := 139) rfl))) (Or.inr (hw _ (List.mem_of_getElem? (i := 141) rfl))) (by decide) (t := (.object "java/util/ArrayList")) (t' := (.object "java/util/ArrayList$SubList")) (by decide) (by decide)))
  replace H2 := H2.same W44
  replace H3 := H3.other W44 (Or.inr (slot_ne (Or.inr (hw _ (List.mem_of_getElem? (i := 143) rfl))) (Or.inr (hw _ (List.mem_of_getElem? (i := 141) rfl))) (by decide) (t := .int) (t' := (.object "java/util/ArrayList$SubList")) (by decide) (by decide)))
  replace H4 := H4.other W44 (Or.inr (slot_ne (Or.inl (hw _ (List.mem_of_getElem? (i := 145) rfl))) (Or.inr (hw _ (List.mem_of_getElem? (i := 141) rfl))) (by decide) (t := .int) (t' := (.object "java/util/ArrayList$SubList")) (by decide) (by decide)))
  replace H5 := H5.other W44 (Or.inr (slot_ne (Or.inl (hw _ (List.mem_of_getElem? (i := 137) rfl))) (Or.inr (hw _ (List.mem_of_getElem? (i := 141) rfl))) (by decide) (t := .int) (t' := (.object "java/util/ArrayList$SubList")) (by decide) (by decide)))
  replace M := M.other W44 (Or.inl ne)
  replace K := K.wr W44 (Or.inl (by simp))
  refine own_aloadN G44 d18_14 rfl rfl ?_
  show ownGo _ _ _ _ _ _ _ T44 15 #[.val (.ref sb), .val (.ref al), .val (.int (0 : Int32)), .val (.int (Int32.ofNat j))] [(.ref sb)]
  refine own_iloadN G44 d18_15 rfl ?_
  show ownGo _ _ _ _ _ _ _ T44 16 #[.val (.ref sb), .val (.ref al), .val (.int (0 : Int32)), .val (.int (Int32.ofNat j))] [(.int (0 : Int32)), (.ref sb)]
  refine own_putF G44 d18_16 (hw _ (List.mem_of_getElem? (i := 142) rfl)) Via.refl H3 E' (Or.inr ⟨(hw _ (List.mem_of_getElem? (i := 143) rfl)), rfl, rfl⟩) (hw _ (List.mem_of_getElem? (i := 128) rfl)) (ty := .int) (by decide) rfl rfl g ?_
  intro T45 h45 W45 G45
  show ownGo _ _ _ _ _ _ _ T45 19 #[.val (.ref sb), .val (.ref al), .val (.int (0 : Int32)), .val (.int (Int32.ofNat j))] []
  have z45 : h45.size = h44.size := W45.size
  replace E' := E'.wr W45
  replace H1 := H1.other W45 (Or.inr (slot_ne (Or.inr (hw _ (List.mem_of_getElem? (i := 139) rfl))) (Or.inr (hw _ (List.mem_of_getElem? (i := 143) rfl))) (by decide) (t := (.object "java/util/ArrayList")) (t' := .int) (by decide) (by decide)))
  replace H2 := H2.other W45 (Or.inr (slot_ne (Or.inr (hw _ (List.mem_of_getElem? (i := 141) rfl))) (Or.inr (hw _ (List.mem_of_getElem? (i := 143) rfl))) (by decide) (t := (.object "java/util/ArrayList$SubList")) (t' := .int) (by decide) (by decide)))
  replace H3 := H3.same W45
  replace H4 := H4.other W45 (Or.inr (slot_ne (Or.inl (hw _ (List.mem_of_getElem? (i := 145) rfl))) (Or.inr (hw _ (List.mem_of_getElem? (i := 143) rfl))) (by decide) (t := .int) (t' := .int) (by decide) (by decide)))
  replace H5 := H5.other W45 (Or.inr (slot_ne (Or.inl (hw _ (List.mem_of_getElem? (i := 137) rfl))) (Or.inr (hw _ (List.mem_of_getElem? (i := 143) rfl))) (by decide) (t := .int) (t' := .int) (by decide) (by decide)))
  replace M := M.other W45 (Or.inl ne)
  replace K := K.wr W45 (Or.inl (by simp))
  refine own_aloadN G45 d18_19 rfl rfl ?_
  show ownGo _ _ _ _ _ _ _ T45 20 #[.val (.ref sb), .val (.ref al), .val (.int (0 : Int32)), .val (.int (Int32.ofNat j))] [(.ref sb)]
  refine own_iloadN G45 d18_20 rfl ?_
  show ownGo _ _ _ _ _ _ _ T45 21 #[.val (.ref sb), .val (.ref al), .val (.int (0 : Int32)), .val (.int (Int32.ofNat j))] [(.int (Int32.ofNat j)), (.ref sb)]
  refine own_iloadN G45 d18_21 rfl ?_
  show ownGo _ _ _ _ _ _ _ T45 22 #[.val (.ref sb), .val (.ref al), .val (.int (0 : Int32)), .val (.int (Int32.ofNat j))] [(.int (0 : Int32)), (.int (Int32.ofNat j)), (.ref sb)]
  refine own_isub G45 d18_22 ?_
  show ownGo _ _ _ _ _ _ _ T45 23 #[.val (.ref sb), .val (.ref al), .val (.int (0 : Int32)), .val (.int (Int32.ofNat j))] [(.int ((Int32.ofNat j) - (0 : Int32))), (.ref sb)]
  rw [Int32.sub_zero _]
  show ownGo _ _ _ _ _ _ _ T45 23 #[.val (.ref sb), .val (.ref al), .val (.int (0 : Int32)), .val (.int (Int32.ofNat j))] [(.int (Int32.ofNat j)), (.ref sb)]
  refine own_putF G45 d18_23 (hw _ (List.mem_of_getElem? (i := 144) rfl)) Via.refl H4 E' (Or.inl (hw _ (List.mem_of_getElem? (i := 145) rfl))) (hw _ (List.mem_of_getElem? (i := 128) rfl)) (ty := .int) (by decide) rfl rfl g ?_
  intro T46 h46 W46 G46
  show ownGo _ _ _ _ _ _ _ T46 26 #[.val (.ref sb), .val (.ref al), .val (.int (0 : Int32)), .val (.int (Int32.ofNat j))] []
  have z46 : h46.size = h45.size := W46.size
  replace E' := E'.wr W46
  replace H1 := H1.other W46 (Or.inr (slot_ne (Or.inr (hw _ (List.mem_of_getElem? (i := 139) rfl))) (Or.inl (hw _ (List.mem_of_getElem? (i := 145) rfl))) (by decide) (t := (.object "java/util/ArrayList")) (t' := .int) (by decide) (by decide)))
  replace H2 := H2.other W46 (Or.inr (slot_ne (Or.inr (hw _ (List.mem_of_getElem? (i := 141) rfl))) (Or.inl (hw _ (List.mem_of_getElem? (i := 145) rfl))) (by decide) (t := (.object "java/util/ArrayList$SubList")) (t' := .int) (by decide) (by decide)))
  replace H3 := H3.other W46 (Or.inr (slot_ne (Or.inr (hw _ (List.mem_of_getElem? (i := 143) rfl))) (Or.inl (hw _ (List.mem_of_getElem? (i := 145) rfl))) (by decide) (t := .int) (t' := .int) (by decide) (by decide)))
  replace H4 := H4.same W46
  replace H5 := H5.other W46 (Or.inr (slot_ne (Or.inl (hw _ (List.mem_of_getElem? (i := 137) rfl))) (Or.inl (hw _ (List.mem_of_getElem? (i := 145) rfl))) (by decide) (t := .int) (t' := .int) (by decide) (by decide)))
  replace M := M.other W46 (Or.inl ne)
  replace K := K.wr W46 (Or.inl (by simp))
  refine own_aloadN G46 d18_26 rfl rfl ?_
  show ownGo _ _ _ _ _ _ _ T46 27 #[.val (.ref sb), .val (.ref al), .val (.int (0 : Int32)), .val (.int (Int32.ofNat j))] [(.ref sb)]
  refine own_aloadN G46 d18_27 rfl rfl ?_
  show ownGo _ _ _ _ _ _ _ T46 28 #[.val (.ref sb), .val (.ref al), .val (.int (0 : Int32)), .val (.int (Int32.ofNat j))] [(.ref al), (.ref sb)]
  refine own_getF G46 d18_28 (hw _ (List.mem_of_getElem? (i := 146) rfl)) (Via.of (hw _ (List.mem_of_getElem? (i := 55) rfl))) M ?_
  intro T47 G47
  show ownGo _ _ _ _ _ _ _ T47 31 #[.val (.ref sb), .val (.ref al), .val (.int (0 : Int32)), .val (.int (Int32.ofNat j))] [(.int mc), (.ref sb)]
  refine own_putF G47 d18_31 (hw _ (List.mem_of_getElem? (i := 147) rfl)) (Via.of (hw _ (List.mem_of_getElem? (i := 148) rfl))) H5 E' (Or.inl (hw _ (List.mem_of_getElem? (i := 137) rfl))) (hw _ (List.mem_of_getElem? (i := 128) rfl)) (ty := .int) (by decide) rfl rfl g ?_
  intro T48 h48 W48 G48
  show ownGo _ _ _ _ _ _ _ T48 34 #[.val (.ref sb), .val (.ref al), .val (.int (0 : Int32)), .val (.int (Int32.ofNat j))] []
  have z48 : h48.size = h46.size := W48.size
  replace E' := E'.wr W48
  replace H1 := H1.other W48 (Or.inr (slot_ne (Or.inr (hw _ (List.mem_of_getElem? (i := 139) rfl))) (Or.inl (hw _ (List.mem_of_getElem? (i := 137) rfl))) (by decide) (t := (.object "java/util/ArrayList")) (t' := .int) (by decide) (by decide)))
  replace H2 := H2.other W48 (Or.inr (slot_ne (Or.inr (hw _ (List.mem_of_getElem? (i := 141) rfl))) (Or.inl (hw _ (List.mem_of_getElem? (i := 137) rfl))) (by decide) (t := (.object "java/util/ArrayList$SubList")) (t' := .int) (by decide) (by decide)))
  replace H3 := H3.other W48 (Or.inr (slot_ne (Or.inr (hw _ (List.mem_of_getElem? (i := 143) rfl))) (Or.inl (hw _ (List.mem_of_getElem? (i := 137) rfl))) (by decide) (t := .int) (t' := .int) (by decide) (by decide)))
  replace H4 := H4.other W48 (Or.inr (slot_ne (Or.inl (hw _ (List.mem_of_getElem? (i := 145) rfl))) (Or.inl (hw _ (List.mem_of_getElem? (i := 137) rfl))) (by decide) (t := .int) (t' := .int) (by decide) (by decide)))
  replace H5 := H5.same W48
  replace M := M.other W48 (Or.inl ne)
  replace K := K.wr W48 (Or.inl (by simp))
  exact own_ret G48 d18_34 rfl (by decide) (by decide) ⟨rfl, K, E', H1, H3, H4, H5⟩
theorem pn_rmRc : plainFor (⟨"java/util/AbstractList", "subListRangeCheck", "(III)V"⟩ : MethodName) = true := plainFor_of_name (by first | (simp [plainName, overriddenIn]; done) | decide +kernel)
theorem ef_rmRc (m : MethodId) (p2 : Int32) (p3 : Int32) : entryFrame m #[(.int (0 : Int32)), (.int p2), (.int p3)] 3 = mkF m 0 #[.val (.int (0 : Int32)), .val (.int p2), .val (.int p3)] [] := by first | (simp [entryFrame, mkF, argsToLocals, Value.category]; done) | rfl
set_option maxRecDepth 65536 in
set_option maxHeartbeats 40000000 in
theorem rmRc (l : Launch) (Z : State) (a0 : Array Value) (hw : ∀ d ∈ tables_1, d.before a0 Z = true) (p2 p3 : Int32) (j k : Nat) (h0 : Heap) (n0 : Nat) (Z0 : n0 ≤ h0.size) (hj : j ≤ k) (hk : k ≤ 10) (e2 : p2 = Int32.ofNat j) (e3 : p3 = Int32.ofNat k) :
    ownMet l [] (⟨"java/util/AbstractList", "subListRangeCheck", "(III)V"⟩ : MethodName) jdk_39_method_15_code 3 none ({ frames := 0, cells := 0, slots := 0, locals := 0 } : Room) Z n0 #[(.int (0 : Int32)), (.int p2), (.int p3)] h0 (fun v h => v = none ∧ h0 = h) := by
  refine own_body (own := "java/util/AbstractList") (nm := "subListRangeCheck") pn_rmRc (fun m => ef_rmRc m p2 p3) rfl rfl ?_
  intro p e s m below meth c T0 G0
  show ownGo _ _ _ _ _ _ _ T0 0 #[.val (.int (0 : Int32)), .val (.int p2), .val (.int p3)] []
  refine own_iloadN G0 d17_0 rfl ?_
  show ownGo _ _ _ _ _ _ _ T0 1 #[.val (.int (0 : Int32)), .val (.int p2), .val (.int p3)] [(.int (0 : Int32))]
  refine own_if_ge G0 d17_1 (pc' := 31) (by decide) (by decide) (fun hc => ?_) (fun hc => False.elim (absurd hc (by decide)))
  show ownGo _ _ _ _ _ _ _ T0 31 #[.val (.int (0 : Int32)), .val (.int p2), .val (.int p3)] []
  refine own_iloadN G0 d17_31 rfl ?_
  show ownGo _ _ _ _ _ _ _ T0 32 #[.val (.int (0 : Int32)), .val (.int p2), .val (.int p3)] [(.int p2)]
  refine own_iloadN G0 d17_32 rfl ?_
  show ownGo _ _ _ _ _ _ _ T0 33 #[.val (.int (0 : Int32)), .val (.int p2), .val (.int p3)] [(.int p3), (.int p2)]
  refine own_icmp_le G0 d17_33 (pc' := 63) (by decide) (by decide) (fun hc => ?_) (fun hc => False.elim (absurd ((own_ltN (by omega) (by omega)).mp (e2 ▸ e3 ▸ hc)) (by omega)))
  show ownGo _ _ _ _ _ _ _ T0 63 #[.val (.int (0 : Int32)), .val (.int p2), .val (.int p3)] []
  refine own_iloadN G0 d17_63 rfl ?_
  show ownGo _ _ _ _ _ _ _ T0 64 #[.val (.int (0 : Int32)), .val (.int p2), .val (.int p3)] [(.int (0 : Int32))]
  refine own_iloadN G0 d17_64 rfl ?_
  show ownGo _ _ _ _ _ _ _ T0 65 #[.val (.int (0 : Int32)), .val (.int p2), .val (.int p3)] [(.int p2), (.int (0 : Int32))]
  refine own_icmp_le G0 d17_65 (pc' := 109) (by decide) (by decide) (fun hc => ?_) (fun hc => False.elim (own_nonneg (i := j) (by omega) (e2 ▸ hc)))
  show ownGo _ _ _ _ _ _ _ T0 109 #[.val (.int (0 : Int32)), .val (.int p2), .val (.int p3)] []
  exact own_ret G0 d17_109 rfl (by decide) (by decide) ⟨rfl, rfl⟩
theorem pn_rmSl : plainFor (⟨"java/util/ArrayList", "subList", "(II)Ljava/util/List;"⟩ : MethodName) = true := plainFor_of_name (by first | (simp [plainName, overriddenIn]; done) | decide +kernel)
theorem ef_rmSl (m : MethodId) (al : Addr) (p2 : Int32) : entryFrame m #[(.ref al), (.int (0 : Int32)), (.int p2)] 3 = mkF m 0 #[.val (.ref al), .val (.int (0 : Int32)), .val (.int p2)] [] := by first | (simp [entryFrame, mkF, argsToLocals, Value.category]; done) | rfl
set_option maxRecDepth 65536 in
set_option maxHeartbeats 40000000 in
theorem rmSl (l : Launch) (Z : State) (a0 : Array Value) (hw : ∀ d ∈ tables_1, d.before a0 Z = true) (al : Addr) (p2 : Int32) (ed : Addr) (mc : Int32) (k : Nat) (f : Nat → Value) (j : Nat) (h0 : Heap) (n0 : Nat) (Z0 : n0 ≤ h0.size) (A : ownA1 Z h0 al ed mc k f) (hj : j ≤ k) (hk : k ≤ 10) (e2 : p2 = Int32.ofNat j) :
    ownMet l [] (⟨"java/util/ArrayList", "subList", "(II)Ljava/util/List;"⟩ : MethodName) jdk_38_method_56_code 3 (some (.object "java/util/List")) ({ frames := 4, cells := 1, slots := 5, locals := 52 } : Room) Z n0 #[(.ref al), (.int (0 : Int32)), (.int p2)] h0 (fun v h => ∃ sb, v = some (.ref sb) ∧ h0.size ≤ sb ∧ h.size > sb ∧ Keep h0 h [] ∧ ownSub Z h sb al mc j) := by
  refine own_body (own := "java/util/ArrayList") (nm := "subList") pn_rmSl (fun m => ef_rmSl m al p2) rfl rfl ?_
  intro p e s m below meth c T0 G0
  show ownGo _ _ _ _ _ _ _ T0 0 #[.val (.ref al), .val (.int (0 : Int32)), .val (.int p2)] []
  subst e2
  show ownGo _ _ _ _ _ _ _ T0 0 #[.val (.ref al), .val (.int (0 : Int32)), .val (.int (Int32.ofNat j))] []
  obtain ⟨E, F1, F2, F3, R⟩ := A
  refine own_iloadN G0 d16_0 rfl ?_
  show ownGo _ _ _ _ _ _ _ T0 1 #[.val (.ref al), .val (.int (0 : Int32)), .val (.int (Int32.ofNat j))] [(.int (0 : Int32))]
  refine own_iloadN G0 d16_1 rfl ?_
  show ownGo _ _ _ _ _ _ _ T0 2 #[.val (.ref al), .val (.int (0 : Int32)), .val (.int (Int32.ofNat j))] [(.int (Int32.ofNat j)), (.int (0 : Int32))]
  refine own_aloadN G0 d16_2 rfl rfl ?_
  show ownGo _ _ _ _ _ _ _ T0 3 #[.val (.ref al), .val (.int (0 : Int32)), .val (.int (Int32.ofNat j))] [(.ref al), (.int (Int32.ofNat j)), (.int (0 : Int32))]
  refine own_getF G0 d16_3 (hw _ (List.mem_of_getElem? (i := 56) rfl)) Via.refl F3 ?_
  intro T49 G49
  show ownGo _ _ _ _ _ _ _ T49 6 #[.val (.ref al), .val (.int (0 : Int32)), .val (.int (Int32.ofNat j))] [(.int (Int32.ofNat k)), (.int (Int32.ofNat j)), (.int (0 : Int32))]
  refine own_callSUp G49 d16_6 (owner := "java/util/AbstractList") (x := (⟨"java/util/ArrayList", "subListRangeCheck", "(III)V"⟩ : MethodName)) (hw _ (List.mem_of_getElem? (i := 123) rfl)) (hw _ (List.mem_of_getElem? (i := 124) rfl)) (hw _ (List.mem_of_getElem? (i := 125) rfl)) (hw _ (List.mem_of_getElem? (i := 31) rfl)) (hw _ (List.mem_of_getElem? (i := 126) rfl)) (by decide) (argsL := [(.int (0 : Int32)), (.int (Int32.ofNat j)), (.int (Int32.ofNat k))]) (rest := []) (rmRc l Z a0 hw _ _ j k h0 n0 Z0 hj hk rfl rfl) rfl rfl rfl (lenOf pd_6 rfl) (W := 0) (Nat.le_of_eq rfl) (by decide) (by decide) (by decide) (by decide) ?_
  intro v50 T50 h50 hq50 G50
  obtain ⟨rfl, rfl⟩ := hq50
  show ownGo _ _ _ _ _ _ _ T50 9 #[.val (.ref al), .val (.int (0 : Int32)), .val (.int (Int32.ofNat j))] []
  refine own_new G50 d16_9 (hw _ (List.mem_of_getElem? (i := 127) rfl)) (hw _ (List.mem_of_getElem? (i := 128) rfl)) (hw _ (List.mem_of_getElem? (i := 129) rfl)) (by decide) (by decide) ?_
  intro T51 h51 b51 g51 E51 A51 D51 G51
  show ownGo _ _ _ _ _ _ _ T51 12 #[.val (.ref al), .val (.int (0 : Int32)), .val (.int (Int32.ofNat j))] [(.ref b51)]
  have F_modCount_b51 : Fld Z h51 b51 "java/util/AbstractList" "modCount" "I" (.int (0 : Int32)) := D51 (Or.inl (hw _ (List.mem_of_getElem? (i := 137) rfl))) (ty := .int) (by decide)
  have F_root_b51 : Fld Z h51 b51 "java/util/ArrayList$SubList" "root" "Ljava/util/ArrayList;" .null := D51 (Or.inr (hw _ (List.mem_of_getElem? (i := 139) rfl))) (ty := (.object "java/util/ArrayList")) (by decide)
  have F_parent_b51 : Fld Z h51 b51 "java/util/ArrayList$SubList" "parent" "Ljava/util/ArrayList$SubList;" .null := D51 (Or.inr (hw _ (List.mem_of_getElem? (i := 141) rfl))) (ty := (.object "java/util/ArrayList$SubList")) (by decide)
  have F_offset_b51 : Fld Z h51 b51 "java/util/ArrayList$SubList" "offset" "I" (.int (0 : Int32)) := D51 (Or.inr (hw _ (List.mem_of_getElem? (i := 143) rfl))) (ty := .int) (by decide)
  have F_size_b51 : Fld Z h51 b51 "java/util/ArrayList$SubList" "size" "I" (.int (0 : Int32)) := D51 (Or.inl (hw _ (List.mem_of_getElem? (i := 145) rfl))) (ty := .int) (by decide)
  have lt : h0.size > al := F1.lt
  have g : n0 ≤ b51 := by omega
  have z1 := E51.1
  have lb : h51.size > b51 := A51.lt
  have Y : n0 ≤ h51.size := by omega
  refine own_dup G51 d16_12 rfl ?_
  show ownGo _ _ _ _ _ _ _ T51 13 #[.val (.ref al), .val (.int (0 : Int32)), .val (.int (Int32.ofNat j))] [(.ref b51), (.ref b51)]
  refine own_aloadN G51 d16_13 rfl rfl ?_
  show ownGo _ _ _ _ _ _ _ T51 14 #[.val (.ref al), .val (.int (0 : Int32)), .val (.int (Int32.ofNat j))] [(.ref al), (.ref b51), (.ref b51)]
  refine own_iloadN G51 d16_14 rfl ?_
  show ownGo _ _ _ _ _ _ _ T51 15 #[.val (.ref al), .val (.int (0 : Int32)), .val (.int (Int32.ofNat j))] [(.int (0 : Int32)), (.ref al), (.ref b51), (.ref b51)]
  refine own_iloadN G51 d16_15 rfl ?_
  show ownGo _ _ _ _ _ _ _ T51 16 #[.val (.ref al), .val (.int (0 : Int32)), .val (.int (Int32.ofNat j))] [(.int (Int32.ofNat j)), (.int (0 : Int32)), (.ref al), (.ref b51), (.ref b51)]
  refine own_special G51 d16_16 (y := (⟨"java/util/ArrayList$SubList", "<init>", "(Ljava/util/ArrayList;II)V"⟩ : MethodName)) rfl (hw _ (List.mem_of_getElem? (i := 130) rfl)) (hw _ (List.mem_of_getElem? (i := 131) rfl)) (hw _ (List.mem_of_getElem? (i := 129) rfl)) (hw _ (List.mem_of_getElem? (i := 133) rfl)) (by decide) (a := b51) (argsL := [(.ref al), (.int (0 : Int32)), (.int (Int32.ofNat j))]) (rest := [(.ref b51)]) (rmSb l Z a0 hw b51 al _ mc j _ _ _ _ _ h51 n0 Y A51 F_root_b51 F_parent_b51 F_offset_b51 F_size_b51 F_modCount_b51 g (F1.ext E51) (own_neA (by omega)) rfl) rfl rfl rfl (lenOf pd_7 rfl) (W := 1) (Nat.le_of_eq rfl) (by decide) (by decide) (by decide) (by decide) ?_
  intro v52 T52 h52 hq52 G52
  obtain ⟨rfl, K, S⟩ := hq52
  show ownGo _ _ _ _ _ _ _ T52 19 #[.val (.ref al), .val (.int (0 : Int32)), .val (.int (Int32.ofNat j))] [(.ref b51)]
  have z2 := K.1
  exact own_areturn G52 d16_19 rfl rfl rfl rfl (by decide) (by decide) ⟨b51, rfl, by omega, by omega, ((Keep.refl h0 []).ext E51).trans K (allS (Or.inr (by omega)) all0), S⟩
theorem pn_rmTop : plainFor (⟨"com/example/biomed_reranker/biomedreranker/Run$Topic", "top", "(I)Ljava/util/List;"⟩ : MethodName) = true := plainFor_of_name (by first | (simp [plainName, overriddenIn]; done) | decide +kernel)
theorem ef_rmTop (m : MethodId) (tp : Addr) (p1 : Int32) : entryFrame m #[(.ref tp), (.int p1)] 2 = mkF m 0 #[.val (.ref tp), .val (.int p1)] [] := by first | (simp [entryFrame, mkF, argsToLocals, Value.category]; done) | rfl
set_option maxRecDepth 65536 in
set_option maxHeartbeats 40000000 in
theorem rmTop (l : Launch) (Z : State) (a0 : Array Value) (hw : ∀ d ∈ tables_1, d.before a0 Z = true) (tp : Addr) (p1 : Int32) (al ed : Addr) (mc : Int32) (k : Nat) (f : Nat → Value) (j : Nat) (h0 : Heap) (n0 : Nat) (Z0 : n0 ≤ h0.size) (FE : Fld Z h0 tp "com/example/biomed_reranker/biomedreranker/Run$Topic" "entries" "Ljava/util/List;" (.ref al)) (A : ownA1 Z h0 al ed mc k f) (hj : j ≤ k) (hk : k ≤ 10) (em : (if Int32.ofNat k < p1 then Int32.ofNat k else p1) = Int32.ofNat j) :
    ownMet l [] (⟨"com/example/biomed_reranker/biomedreranker/Run$Topic", "top", "(I)Ljava/util/List;"⟩ : MethodName) prog_19_method_2_code 2 (some (.object "java/util/List")) ({ frames := 5, cells := 1, slots := 5, locals := 66 } : Room) Z n0 #[(.ref tp), (.int p1)] h0 (fun v h => ∃ sb, v = some (.ref sb) ∧ h0.size ≤ sb ∧ h.size > sb ∧ Keep h0 h [] ∧ ownSub Z h sb al mc j) := by
  refine own_body (own := "com/example/biomed_reranker/biomedreranker/Run$Topic") (nm := "top") pn_rmTop (fun m => ef_rmTop m tp p1) rfl rfl ?_
  intro p e s m below meth c T0 G0
  show ownGo _ _ _ _ _ _ _ T0 0 #[.val (.ref tp), .val (.int p1)] []
  refine own_aloadN G0 d13_0 rfl rfl ?_
  show ownGo _ _ _ _ _ _ _ T0 1 #[.val (.ref tp), .val (.int p1)] [(.ref tp)]
  refine own_getF G0 d13_1 (hw _ (List.mem_of_getElem? (i := 97) rfl)) Via.refl FE ?_
  intro T53 G53
  show ownGo _ _ _ _ _ _ _ T53 4 #[.val (.ref tp), .val (.int p1)] [(.ref al)]
  refine own_iconst G53 d13_4 ?_
  show ownGo _ _ _ _ _ _ _ T53 5 #[.val (.ref tp), .val (.int p1)] [(.int (0 : Int32)), (.ref al)]
  refine own_iloadN G53 d13_5 rfl ?_
  show ownGo _ _ _ _ _ _ _ T53 6 #[.val (.ref tp), .val (.int p1)] [(.int p1), (.int (0 : Int32)), (.ref al)]
  refine own_aloadN G53 d13_6 rfl rfl ?_
  show ownGo _ _ _ _ _ _ _ T53 7 #[.val (.ref tp), .val (.int p1)] [(.ref tp), (.int p1), (.int (0 : Int32)), (.ref al)]
  refine own_getF G53 d13_7 (hw _ (List.mem_of_getElem? (i := 97) rfl)) Via.refl FE ?_
  intro T54 G54
  show ownGo _ _ _ _ _ _ _ T54 10 #[.val (.ref tp), .val (.int p1)] [(.ref al), (.int p1), (.int (0 : Int32)), (.ref al)]
  refine own_interface G54 d13_10 (xi := (⟨"java/util/List", "size", "()I"⟩ : MethodName)) (y := (⟨"java/util/ArrayList", "size", "()I"⟩ : MethodName)) (hw _ (List.mem_of_getElem? (i := 104) rfl)) (hw _ (List.mem_of_getElem? (i := 105) rfl)) (hw _ (List.mem_of_getElem? (i := 106) rfl)) (hw _ (List.mem_of_getElem? (i := 107) rfl)) (hw _ (List.mem_of_getElem? (i := 108) rfl)) (hw _ (List.mem_of_getElem? (i := 109) rfl)) (hw _ (List.mem_of_getElem? (i := 110) rfl)) (hw _ (List.mem_of_getElem? (i := 52) rfl)) (hw _ (List.mem_of_getElem? (i := 23) rfl)) (hw _ (List.mem_of_getElem? (i := 111) rfl)) (by decide) (a := al) (argsL := []) (rest := [(.int p1), (.int (0 : Int32)), (.ref al)]) A.exa (rmSz l Z a0 hw al ed mc k f h0 n0 Z0 A) rfl rfl rfl (lenOf pd_8 rfl) (W := 3) (Nat.le_of_eq rfl) (by decide) (by decide) (by decide) (by decide) ?_
  intro v55 T55 h55 hq55 G55
  obtain ⟨rfl, rfl⟩ := hq55
  show ownGo _ _ _ _ _ _ _ T55 15 #[.val (.ref tp), .val (.int p1)] [(.int (Int32.ofNat k)), (.int p1), (.int (0 : Int32)), (.ref al)]
  refine own_callS G55 d13_15 (y := (⟨"java/lang/Math", "min", "(II)I"⟩ : MethodName)) (hw _ (List.mem_of_getElem? (i := 112) rfl)) (hw _ (List.mem_of_getElem? (i := 113) rfl)) (hw _ (List.mem_of_getElem? (i := 75) rfl)) (hw _ (List.mem_of_getElem? (i := 114) rfl)) (by decide) (argsL := [(.int p1), (.int (Int32.ofNat k))]) (rest := [(.int (0 : Int32)), (.ref al)]) (rmMin l Z a0 hw p1 _ h0 n0 Z0) rfl rfl rfl (lenOf pd_1 rfl) (W := 2) (Nat.le_of_eq rfl) (by decide) (by decide) (by decide) (by decide) ?_
  intro v56 T56 h56 hq56 G56
  obtain ⟨rfl, rfl⟩ := hq56
  show ownGo _ _ _ _ _ _ _ T56 18 #[.val (.ref tp), .val (.int p1)] [(.int (if Int32.ofNat k < p1 then Int32.ofNat k else p1)), (.int (0 : Int32)), (.ref al)]
  rw [em]
  show ownGo _ _ _ _ _ _ _ T56 18 #[.val (.ref tp), .val (.int p1)] [(.int (Int32.ofNat j)), (.int (0 : Int32)), (.ref al)]
  refine own_interface G56 d13_18 (xi := (⟨"java/util/List", "subList", "(II)Ljava/util/List;"⟩ : MethodName)) (y := (⟨"java/util/ArrayList", "subList", "(II)Ljava/util/List;"⟩ : MethodName)) (hw _ (List.mem_of_getElem? (i := 115) rfl)) (hw _ (List.mem_of_getElem? (i := 116) rfl)) (hw _ (List.mem_of_getElem? (i := 117) rfl)) (hw _ (List.mem_of_getElem? (i := 118) rfl)) (hw _ (List.mem_of_getElem? (i := 119) rfl)) (hw _ (List.mem_of_getElem? (i := 120) rfl)) (hw _ (List.mem_of_getElem? (i := 121) rfl)) (hw _ (List.mem_of_getElem? (i := 52) rfl)) (hw _ (List.mem_of_getElem? (i := 23) rfl)) (hw _ (List.mem_of_getElem? (i := 122) rfl)) (by decide) (a := al) (argsL := [(.int (0 : Int32)), (.int (Int32.ofNat j))]) (rest := []) A.exa (rmSl l Z a0 hw al _ ed mc k f j h0 n0 Z0 A hj hk rfl) rfl rfl rfl (lenOf pd_9 rfl) (W := 0) (Nat.le_of_eq rfl) (by decide) (by decide) (by decide) (by decide) ?_
  intro v57 T57 h57 hq57 G57
  obtain ⟨sb, rfl, q1, q2, K, S⟩ := hq57
  show ownGo _ _ _ _ _ _ _ T57 23 #[.val (.ref tp), .val (.int p1)] [(.ref sb)]
  exact own_areturn G57 d13_23 rfl rfl rfl rfl (by decide) (by decide) ⟨sb, rfl, q1, q2, K, S⟩
theorem pn_rmCk : plainFor (⟨"java/util/ArrayList$SubList", "checkForComodification", "()V"⟩ : MethodName) = true := plainFor_of_name (by first | (simp [plainName, overriddenIn]; done) | decide +kernel)
theorem ef_rmCk (m : MethodId) (sb : Addr) : entryFrame m #[(.ref sb)] 1 = mkF m 0 #[.val (.ref sb)] [] := by first | (simp [entryFrame, mkF, argsToLocals, Value.category]; done) | rfl
set_option maxRecDepth 65536 in
set_option maxHeartbeats 40000000 in
theorem rmCk (l : Launch) (Z : State) (a0 : Array Value) (hw : ∀ d ∈ tables_1, d.before a0 Z = true) (sb al ed : Addr) (mc : Int32) (k : Nat) (f : Nat → Value) (j : Nat) (h0 : Heap) (n0 : Nat) (Z0 : n0 ≤ h0.size) (S : ownSub Z h0 sb al mc j) (A : ownA1 Z h0 al ed mc k f) :
    ownMet l [] (⟨"java/util/ArrayList$SubList", "checkForComodification", "()V"⟩ : MethodName) jdk_130_method_28_code 1 none ({ frames := 0, cells := 0, slots := 0, locals := 0 } : Room) Z n0 #[(.ref sb)] h0 (fun v h => v = none ∧ h0 = h) := by
  refine own_body (own := "java/util/ArrayList$SubList") (nm := "checkForComodification") pn_rmCk (fun m => ef_rmCk m sb) rfl rfl ?_
  intro p e s m below meth c T0 G0
  show ownGo _ _ _ _ _ _ _ T0 0 #[.val (.ref sb)] []
  obtain ⟨E, G1, G3, G4, G5⟩ := S
  obtain ⟨E', F1, F2, F3, R⟩ := A
  refine own_aloadN G0 d20_0 rfl rfl ?_
  show ownGo _ _ _ _ _ _ _ T0 1 #[.val (.ref sb)] [(.ref sb)]
  refine own_getF G0 d20_1 (hw _ (List.mem_of_getElem? (i := 138) rfl)) Via.refl G1 ?_
  intro T58 G58
  show ownGo _ _ _ _ _ _ _ T58 4 #[.val (.ref sb)] [(.ref al)]
  refine own_getF G58 d20_4 (hw _ (List.mem_of_getElem? (i := 146) rfl)) (Via.of (hw _ (List.mem_of_getElem? (i := 55) rfl))) F1 ?_
  intro T59 G59
  show ownGo _ _ _ _ _ _ _ T59 7 #[.val (.ref sb)] [(.int mc)]
  refine own_aloadN G59 d20_7 rfl rfl ?_
  show ownGo _ _ _ _ _ _ _ T59 8 #[.val (.ref sb)] [(.ref sb), (.int mc)]
  refine own_getF G59 d20_8 (hw _ (List.mem_of_getElem? (i := 147) rfl)) (Via.of (hw _ (List.mem_of_getElem? (i := 148) rfl))) G5 ?_
  intro T60 G60
  show ownGo _ _ _ _ _ _ _ T60 11 #[.val (.ref sb)] [(.int mc), (.int mc)]
  refine own_icmp_eq G60 d20_11 (pc' := 22) (by decide) (by decide) (fun hc => ?_) (fun hc => False.elim (hc rfl))
  show ownGo _ _ _ _ _ _ _ T60 22 #[.val (.ref sb)] []
  exact own_ret G60 d20_22 rfl (by decide) (by decide) ⟨rfl, rfl⟩
theorem pn_rmSs : plainFor (⟨"java/util/ArrayList$SubList", "size", "()I"⟩ : MethodName) = true := plainFor_of_name (by first | (simp [plainName, overriddenIn]; done) | decide +kernel)
theorem ef_rmSs (m : MethodId) (sb : Addr) : entryFrame m #[(.ref sb)] 1 = mkF m 0 #[.val (.ref sb)] [] := by first | (simp [entryFrame, mkF, argsToLocals, Value.category]; done) | rfl
set_option maxRecDepth 65536 in
set_option maxHeartbeats 40000000 in
theorem rmSs (l : Launch) (Z : State) (a0 : Array Value) (hw : ∀ d ∈ tables_1, d.before a0 Z = true) (sb al ed : Addr) (mc : Int32) (k : Nat) (f : Nat → Value) (j : Nat) (h0 : Heap) (n0 : Nat) (Z0 : n0 ≤ h0.size) (S : ownSub Z h0 sb al mc j) (A : ownA1 Z h0 al ed mc k f) :
    ownMet l [] (⟨"java/util/ArrayList$SubList", "size", "()I"⟩ : MethodName) jdk_130_method_5_code 1 (some .int) ({ frames := 1, cells := 0, slots := 0, locals := 12 } : Room) Z n0 #[(.ref sb)] h0 (fun v h => v = some (.int (Int32.ofNat j)) ∧ h0 = h) := by
  refine own_body (own := "java/util/ArrayList$SubList") (nm := "size") pn_rmSs (fun m => ef_rmSs m sb) rfl rfl ?_
  intro p e s m below meth c T0 G0
  show ownGo _ _ _ _ _ _ _ T0 0 #[.val (.ref sb)] []
  have S' := S
  obtain ⟨E, G1, G3, G4, G5⟩ := S'
  refine own_aloadN G0 d19_0 rfl rfl ?_
  show ownGo _ _ _ _ _ _ _ T0 1 #[.val (.ref sb)] [(.ref sb)]
  refine own_private G0 d19_1 (y := (⟨"java/util/ArrayList$SubList", "checkForComodification", "()V"⟩ : MethodName)) (hw _ (List.mem_of_getElem? (i := 157) rfl)) (hw _ (List.mem_of_getElem? (i := 158) rfl)) (hw _ (List.mem_of_getElem? (i := 160) rfl)) (hw _ (List.mem_of_getElem? (i := 159) rfl)) (hw _ (List.mem_of_getElem? (i := 129) rfl)) (hw _ (List.mem_of_getElem? (i := 161) rfl)) (by decide) (a := sb) (argsL := []) (rest := []) E (rmCk l Z a0 hw sb al ed mc k f j h0 n0 Z0 S A) rfl rfl rfl (lenOf pd_0 rfl) (W := 0) (Nat.le_of_eq rfl) (by decide) (by decide) (by decide) (by decide) ?_
  intro v61 T61 h61 hq61 G61
  obtain ⟨rfl, rfl⟩ := hq61
  show ownGo _ _ _ _ _ _ _ T61 4 #[.val (.ref sb)] []
  refine own_aloadN G61 d19_4 rfl rfl ?_
  show ownGo _ _ _ _ _ _ _ T61 5 #[.val (.ref sb)] [(.ref sb)]
  refine own_getF G61 d19_5 (hw _ (List.mem_of_getElem? (i := 144) rfl)) Via.refl G4 ?_
  intro T62 G62
  show ownGo _ _ _ _ _ _ _ T62 8 #[.val (.ref sb)] [(.int (Int32.ofNat j))]
  exact own_ireturn G62 d19_8 rfl (by decide) (by decide) ⟨rfl, rfl⟩
theorem pn_rmGet : plainFor (⟨"java/util/ArrayList$SubList", "get", "(I)Ljava/lang/Object;"⟩ : MethodName) = true := plainFor_of_name (by first | (simp [plainName, overriddenIn]; done) | decide +kernel)
theorem ef_rmGet (m : MethodId) (sb : Addr) (p1 : Int32) : entryFrame m #[(.ref sb), (.int p1)] 2 = mkF m 0 #[.val (.ref sb), .val (.int p1)] [] := by first | (simp [entryFrame, mkF, argsToLocals, Value.category]; done) | rfl
set_option maxRecDepth 65536 in
set_option maxHeartbeats 40000000 in
theorem rmGet (l : Launch) (Z : State) (a0 : Array Value) (hw : ∀ d ∈ tables_1, d.before a0 Z = true) (sb : Addr) (p1 : Int32) (al ed : Addr) (mc : Int32) (k : Nat) (f : Nat → Value) (j i : Nat) (x : Addr) (h0 : Heap) (n0 : Nat) (Z0 : n0 ≤ h0.size) (S : ownSub Z h0 sb al mc j) (A : ownA1 Z h0 al ed mc k f) (hi : i < j) (hj : j ≤ 10) (e1 : p1 = Int32.ofNat i) (ex : f i = .ref x) :
    ownMet l [] (⟨"java/util/ArrayList$SubList", "get", "(I)Ljava/lang/Object;"⟩ : MethodName) jdk_130_method_4_code 2 (some (.object "java/lang/Object")) ({ frames := 2, cells := 0, slots := 0, locals := 27 } : Room) Z n0 #[(.ref sb), (.int p1)] h0 (fun v h => v = some (.ref x) ∧ h0 = h) := by
  refine own_body (own := "java/util/ArrayList$SubList") (nm := "get") pn_rmGet (fun m => ef_rmGet m sb p1) rfl rfl ?_
  intro p e s m below meth c T0 G0
  show ownGo _ _ _ _ _ _ _ T0 0 #[.val (.ref sb), .val (.int p1)] []
  subst e1
  show ownGo _ _ _ _ _ _ _ T0 0 #[.val (.ref sb), .val (.int (Int32.ofNat i))] []
  have S' := S
  obtain ⟨E, G1, G3, G4, G5⟩ := S'
  refine own_iloadN G0 d21_0 rfl ?_
  show ownGo _ _ _ _ _ _ _ T0 1 #[.val (.ref sb), .val (.int (Int32.ofNat i))] [(.int (Int32.ofNat i))]
  refine own_aloadN G0 d21_1 rfl rfl ?_
  show ownGo _ _ _ _ _ _ _ T0 2 #[.val (.ref sb), .val (.int (Int32.ofNat i))] [(.ref sb), (.int (Int32.ofNat i))]
  refine own_getF G0 d21_2 (hw _ (List.mem_of_getElem? (i := 144) rfl)) Via.refl G4 ?_
  intro T63 G63
  show ownGo _ _ _ _ _ _ _ T63 5 #[.val (.ref sb), .val (.int (Int32.ofNat i))] [(.int (Int32.ofNat j)), (.int (Int32.ofNat i))]
  refine own_callS G63 d21_5 (y := (⟨"java/util/Objects", "checkIndex", "(II)I"⟩ : MethodName)) (hw _ (List.mem_of_getElem? (i := 170) rfl)) (hw _ (List.mem_of_getElem? (i := 171) rfl)) (hw _ (List.mem_of_getElem? (i := 172) rfl)) (hw _ (List.mem_of_getElem? (i := 173) rfl)) (by decide) (argsL := [(.int (Int32.ofNat i)), (.int (Int32.ofNat j))]) (rest := []) (rmOb l Z a0 hw _ _ i j h0 n0 Z0 hi hj rfl rfl) rfl rfl rfl (lenOf pd_1 rfl) (W := 0) (Nat.le_of_eq rfl) (by decide) (by decide) (by decide) (by decide) ?_
  intro v64 T64 h64 hq64 G64
  obtain ⟨rfl, rfl⟩ := hq64
  show ownGo _ _ _ _ _ _ _ T64 8 #[.val (.ref sb), .val (.int (Int32.ofNat i))] [(.int (Int32.ofNat i))]
  refine own_pop G64 d21_8 rfl ?_
  show ownGo _ _ _ _ _ _ _ T64 9 #[.val (.ref sb), .val (.int (Int32.ofNat i))] []
  refine own_aloadN G64 d21_9 rfl rfl ?_
  show ownGo _ _ _ _ _ _ _ T64 10 #[.val (.ref sb), .val (.int (Int32.ofNat i))] [(.ref sb)]
  refine own_private G64 d21_10 (y := (⟨"java/util/ArrayList$SubList", "checkForComodification", "()V"⟩ : MethodName)) (hw _ (List.mem_of_getElem? (i := 157) rfl)) (hw _ (List.mem_of_getElem? (i := 158) rfl)) (hw _ (List.mem_of_getElem? (i := 160) rfl)) (hw _ (List.mem_of_getElem? (i := 159) rfl)) (hw _ (List.mem_of_getElem? (i := 129) rfl)) (hw _ (List.mem_of_getElem? (i := 161) rfl)) (by decide) (a := sb) (argsL := []) (rest := []) E (rmCk l Z a0 hw sb al ed mc k f j h0 n0 Z0 S A) rfl rfl rfl (lenOf pd_0 rfl) (W := 0) (Nat.le_of_eq rfl) (by decide) (by decide) (by decide) (by decide) ?_
  intro v65 T65 h65 hq65 G65
  obtain ⟨rfl, rfl⟩ := hq65
  show ownGo _ _ _ _ _ _ _ T65 13 #[.val (.ref sb), .val (.int (Int32.ofNat i))] []
  refine own_aloadN G65 d21_13 rfl rfl ?_
  show ownGo _ _ _ _ _ _ _ T65 14 #[.val (.ref sb), .val (.int (Int32.ofNat i))] [(.ref sb)]
  refine own_getF G65 d21_14 (hw _ (List.mem_of_getElem? (i := 138) rfl)) Via.refl G1 ?_
  intro T66 G66
  show ownGo _ _ _ _ _ _ _ T66 17 #[.val (.ref sb), .val (.int (Int32.ofNat i))] [(.ref al)]
  refine own_aloadN G66 d21_17 rfl rfl ?_
  show ownGo _ _ _ _ _ _ _ T66 18 #[.val (.ref sb), .val (.int (Int32.ofNat i))] [(.ref sb), (.ref al)]
  refine own_getF G66 d21_18 (hw _ (List.mem_of_getElem? (i := 142) rfl)) Via.refl G3 ?_
  intro T67 G67
  show ownGo _ _ _ _ _ _ _ T67 21 #[.val (.ref sb), .val (.int (Int32.ofNat i))] [(.int (0 : Int32)), (.ref al)]
  refine own_iloadN G67 d21_21 rfl ?_
  show ownGo _ _ _ _ _ _ _ T67 22 #[.val (.ref sb), .val (.int (Int32.ofNat i))] [(.int (Int32.ofNat i)), (.int (0 : Int32)), (.ref al)]
  refine own_iadd G67 d21_22 ?_
  show ownGo _ _ _ _ _ _ _ T67 23 #[.val (.ref sb), .val (.int (Int32.ofNat i))] [(.int ((0 : Int32) + (Int32.ofNat i))), (.ref al)]
  rw [Int32.zero_add _]
  show ownGo _ _ _ _ _ _ _ T67 23 #[.val (.ref sb), .val (.int (Int32.ofNat i))] [(.int (Int32.ofNat i)), (.ref al)]
  refine own_virtual G67 d21_23 (y := (⟨"java/util/ArrayList", "elementData", "(I)Ljava/lang/Object;"⟩ : MethodName)) (hw _ (List.mem_of_getElem? (i := 178) rfl)) (hw _ (List.mem_of_getElem? (i := 179) rfl)) (hw _ (List.mem_of_getElem? (i := 181) rfl)) (hw _ (List.mem_of_getElem? (i := 180) rfl)) (hw _ (List.mem_of_getElem? (i := 23) rfl)) (hw _ (List.mem_of_getElem? (i := 182) rfl)) (by decide) (a := al) (argsL := [(.int (Int32.ofNat i))]) (rest := []) A.exa (rmEl l Z a0 hw al _ ed mc k f i x h0 n0 Z0 A (by omega) rfl ex) rfl rfl rfl (lenOf pd_10 rfl) (W := 0) (Nat.le_of_eq rfl) (by decide) (by decide) (by decide) (by decide) ?_
  intro v68 T68 h68 hq68 G68
  obtain ⟨rfl, rfl⟩ := hq68
  show ownGo _ _ _ _ _ _ _ T68 26 #[.val (.ref sb), .val (.int (Int32.ofNat i))] [(.ref x)]
  exact own_areturn G68 d21_26 rfl rfl rfl rfl (by decide) (by decide) ⟨rfl, rfl⟩
theorem own_m3 (x : Int32) : ∃ n, 1 ≤ n ∧ n ≤ 4 ∧ ((x &&& (3 : Int32)) + (1 : Int32)) = Int32.ofNat n := by
  have h1 : (x &&& (3 : Int32)).toInt = x.toInt % 2 ^ 2 := Jvm.Kit.i32_mask x 3 (k := 2) (by decide) (by decide)
  have h2 : ((x &&& (3 : Int32)) + (1 : Int32)).toInt = (x &&& (3 : Int32)).toInt + 1 := Jvm.Kit.i32_add (by show _ ≤ _ + (1 : Int); omega) (by show _ + (1 : Int) < _; omega)
  refine ⟨((x &&& (3 : Int32)) + (1 : Int32)).toInt.toNat, by omega, by omega, ?_⟩
  apply Int32.toInt_inj.mp
  rw [own_n32 (by omega)]; omega
theorem own_min {n : Nat} (x : Int32) (h4 : n ≤ 4) : ∃ j, j ≤ n ∧ (if Int32.ofNat n < (x &&& (2147483647 : Int32)) then Int32.ofNat n else (x &&& (2147483647 : Int32))) = Int32.ofNat j := by
  have h1 : (x &&& (2147483647 : Int32)).toInt = x.toInt % 2 ^ 31 := Jvm.Kit.i32_mask x 2147483647 (k := 31) (by decide) (by decide)
  have e : (Int32.ofNat n).toInt = (n : Int) := own_n32 (by omega)
  by_cases q : Int32.ofNat n < (x &&& (2147483647 : Int32))
  · exact ⟨n, Nat.le_refl _, by rw [if_pos q]⟩
  · rw [if_neg q]
    rw [Int32.lt_iff_toInt_lt, e] at q
    refine ⟨(x &&& (2147483647 : Int32)).toInt.toNat, by omega, ?_⟩
    apply Int32.toInt_inj.mp
    rw [own_n32 (by omega)]; omega
def ownE (e0 e1 e2 e3 : Addr) : Nat → Addr
  | 0 => e0
  | 1 => e1
  | 2 => e2
  | _ => e3
theorem pn_rm0 : plainFor (⟨"com/example/biomed_reranker/biomedreranker/TopicTopPinLaw", "law", "(IIJ)Z"⟩ : MethodName) = true := plainFor_of_name (by first | (simp [plainName, overriddenIn]; done) | decide +kernel)
theorem ef_rm0 (m : MethodId) (p1 : Int32) (p2 : Int32) (q3 : Int64) : entryFrame m #[(.int p1), (.int p2), (.long q3)] maxLocals = mkF m 0 #[.val (.int p1), .val (.int p2), .val (.long q3), .second, .unset, .unset, .unset, .unset, .unset, .unset, .unset, .unset, .unset, .unset] [] := by first | (simp [entryFrame, mkF, argsToLocals, Value.category, maxLocals]; done) | rfl
set_option maxRecDepth 65536 in
set_option maxHeartbeats 40000000 in
theorem rm0 (l : Launch) (Z : State) (a0 : Array Value) (hw : ∀ d ∈ tables_1, d.before a0 Z = true) (p1 p2 : Int32) (q3 : Int64) (dc : Addr) (h0 : Heap) (n0 : Nat) (Z0 : n0 ≤ h0.size) (O : Old Z n0 h0) (SD : Sta Z Z.heap "java/util/ArrayList" "DEFAULTCAPACITY_EMPTY_ELEMENTDATA" "[Ljava/lang/Object;" (.ref dc)) (AD : ∃ f, ownArr Z Z.heap dc (.object "java/lang/Object") 0 f) :
    ownMetW l tables_1 x code maxLocals ret room_1 Z n0 #[(.int p1), (.int p2), (.long q3)] h0 (fun v h => v = some (.int 1)) := by
  refine own_bodyW (own := "com/example/biomed_reranker/biomedreranker/TopicTopPinLaw") (nm := "law") pn_rm0 (fun m => ef_rm0 m p1 p2 q3) rfl rfl ?_
  intro p e s m below meth c T0 G0
  show ownGo _ _ _ _ _ _ _ T0 0 #[.val (.int p1), .val (.int p2), .val (.long q3), .second, .unset, .unset, .unset, .unset, .unset, .unset, .unset, .unset, .unset, .unset] []
  refine own_iloadN G0 at_0 rfl ?_
  show ownGo _ _ _ _ _ _ _ T0 1 #[.val (.int p1), .val (.int p2), .val (.long q3), .second, .unset, .unset, .unset, .unset, .unset, .unset, .unset, .unset, .unset, .unset] [(.int p1)]
  refine own_iconst G0 at_1 ?_
  show ownGo _ _ _ _ _ _ _ T0 2 #[.val (.int p1), .val (.int p2), .val (.long q3), .second, .unset, .unset, .unset, .unset, .unset, .unset, .unset, .unset, .unset, .unset] [(.int (3 : Int32)), (.int p1)]
  refine own_iand G0 at_2 ?_
  show ownGo _ _ _ _ _ _ _ T0 3 #[.val (.int p1), .val (.int p2), .val (.long q3), .second, .unset, .unset, .unset, .unset, .unset, .unset, .unset, .unset, .unset, .unset] [(.int (p1 &&& (3 : Int32)))]
  refine own_iconst G0 at_3 ?_
  show ownGo _ _ _ _ _ _ _ T0 4 #[.val (.int p1), .val (.int p2), .val (.long q3), .second, .unset, .unset, .unset, .unset, .unset, .unset, .unset, .unset, .unset, .unset] [(.int (1 : Int32)), (.int (p1 &&& (3 : Int32)))]
  refine own_iadd G0 at_4 ?_
  show ownGo _ _ _ _ _ _ _ T0 5 #[.val (.int p1), .val (.int p2), .val (.long q3), .second, .unset, .unset, .unset, .unset, .unset, .unset, .unset, .unset, .unset, .unset] [(.int ((p1 &&& (3 : Int32)) + (1 : Int32)))]
  obtain ⟨n, h1', h4, en⟩ := own_m3 p1
  rw [en]
  show ownGo _ _ _ _ _ _ _ T0 5 #[.val (.int p1), .val (.int p2), .val (.long q3), .second, .unset, .unset, .unset, .unset, .unset, .unset, .unset, .unset, .unset, .unset] [(.int (Int32.ofNat n))]
  refine own_istore G0 at_5 (L' := #[.val (.int p1), .val (.int p2), .val (.long q3), .second, .val (.int (Int32.ofNat n)), .unset, .unset, .unset, .unset, .unset, .unset, .unset, .unset, .unset]) rfl ?_
  show ownGo _ _ _ _ _ _ _ T0 7 #[.val (.int p1), .val (.int p2), .val (.long q3), .second, .val (.int (Int32.ofNat n)), .unset, .unset, .unset, .unset, .unset, .unset, .unset, .unset, .unset] []
  refine own_iloadN G0 at_7 rfl ?_
  show ownGo _ _ _ _ _ _ _ T0 8 #[.val (.int p1), .val (.int p2), .val (.long q3), .second, .val (.int (Int32.ofNat n)), .unset, .unset, .unset, .unset, .unset, .unset, .unset, .unset, .unset] [(.int p2)]
  refine own_ldcInt G0 at_8 (hw _ (List.mem_of_getElem? (i := 0) rfl)) ?_
  show ownGo _ _ _ _ _ _ _ T0 10 #[.val (.int p1), .val (.int p2), .val (.long q3), .second, .val (.int (Int32.ofNat n)), .unset, .unset, .unset, .unset, .unset, .unset, .unset, .unset, .unset] [(.int (2147483647 : Int32)), (.int p2)]
  refine own_iand G0 at_10 ?_
  show ownGo _ _ _ _ _ _ _ T0 11 #[.val (.int p1), .val (.int p2), .val (.long q3), .second, .val (.int (Int32.ofNat n)), .unset, .unset, .unset, .unset, .unset, .unset, .unset, .unset, .unset] [(.int (p2 &&& (2147483647 : Int32)))]
  obtain ⟨jm, hjm, ejm⟩ := own_min p2 h4
  obtain ⟨dp, edp⟩ : ∃ z : Int32, z = (p2 &&& (2147483647 : Int32)) := ⟨_, rfl⟩
  rw [← edp]
  show ownGo _ _ _ _ _ _ _ T0 11 #[.val (.int p1), .val (.int p2), .val (.long q3), .second, .val (.int (Int32.ofNat n)), .unset, .unset, .unset, .unset, .unset, .unset, .unset, .unset, .unset] [(.int dp)]
  rw [← edp] at ejm
  refine own_istore G0 at_11 (L' := #[.val (.int p1), .val (.int p2), .val (.long q3), .second, .val (.int (Int32.ofNat n)), .val (.int dp), .unset, .unset, .unset, .unset, .unset, .unset, .unset, .unset]) rfl ?_
  show ownGo _ _ _ _ _ _ _ T0 13 #[.val (.int p1), .val (.int p2), .val (.long q3), .second, .val (.int (Int32.ofNat n)), .val (.int dp), .unset, .unset, .unset, .unset, .unset, .unset, .unset, .unset] []
  refine own_new G0 at_13 (hw _ (List.mem_of_getElem? (i := 1) rfl)) (hw _ (List.mem_of_getElem? (i := 2) rfl)) (hw _ (List.mem_of_getElem? (i := 3) rfl)) (by decide) (by decide) ?_
  intro T69 h69 b69 g69 E69 A69 D69 G69
  show ownGo _ _ _ _ _ _ _ T69 16 #[.val (.int p1), .val (.int p2), .val (.long q3), .second, .val (.int (Int32.ofNat n)), .val (.int dp), .unset, .unset, .unset, .unset, .unset, .unset, .unset, .unset] [(.ref b69)]
  have F_line_b69 : Fld Z h69 b69 "com/example/biomed_reranker/biomedreranker/Run$Entry" "line" "Lcom/example/biomed_reranker/biomedreranker/RunLine;" .null := D69 (Or.inr (hw _ (List.mem_of_getElem? (i := 16) rfl))) (ty := (.object "com/example/biomed_reranker/biomedreranker/RunLine")) (by decide)
  have F_lineNumber_b69 : Fld Z h69 b69 "com/example/biomed_reranker/biomedreranker/Run$Entry" "lineNumber" "J" (.long (0 : Int64)) := D69 (Or.inr (hw _ (List.mem_of_getElem? (i := 18) rfl))) (ty := .long) (by decide)
  have lb69 : h69.size > b69 := A69.lt
  have ge0 : n0 ≤ b69 := by omega
  have z69 : h0.size ≤ h69.size := E69.1
  replace Z0 : n0 ≤ h69.size := Nat.le_trans Z0 E69.1
  replace O := O.ext E69
  refine own_dup G69 at_16 rfl ?_
  show ownGo _ _ _ _ _ _ _ T69 17 #[.val (.int p1), .val (.int p2), .val (.long q3), .second, .val (.int (Int32.ofNat n)), .val (.int dp), .unset, .unset, .unset, .unset, .unset, .unset, .unset, .unset] [(.ref b69), (.ref b69)]
  refine own_aconst_null G69 at_17 ?_
  show ownGo _ _ _ _ _ _ _ T69 18 #[.val (.int p1), .val (.int p2), .val (.long q3), .second, .val (.int (Int32.ofNat n)), .val (.int dp), .unset, .unset, .unset, .unset, .unset, .unset, .unset, .unset] [.null, (.ref b69), (.ref b69)]
  refine own_lloadN G69 at_18 rfl ?_
  show ownGo _ _ _ _ _ _ _ T69 19 #[.val (.int p1), .val (.int p2), .val (.long q3), .second, .val (.int (Int32.ofNat n)), .val (.int dp), .unset, .unset, .unset, .unset, .unset, .unset, .unset, .unset] [(.long q3), .null, (.ref b69), (.ref b69)]
  refine own_special G69 at_19 (y := (⟨"com/example/biomed_reranker/biomedreranker/Run$Entry", "<init>", "(Lcom/example/biomed_reranker/biomedreranker/RunLine;J)V"⟩ : MethodName)) rfl (hw _ (List.mem_of_getElem? (i := 4) rfl)) (hw _ (List.mem_of_getElem? (i := 5) rfl)) (hw _ (List.mem_of_getElem? (i := 3) rfl)) (hw _ (List.mem_of_getElem? (i := 6) rfl)) (by decide) (a := b69) (argsL := [.null, (.long q3)]) (rest := [(.ref b69)]) (rmEn l Z a0 hw b69 q3 _ _ h69 n0 Z0 A69 F_line_b69 F_lineNumber_b69 ge0) rfl rfl rfl (lenOf pd_11 rfl) (W := 1) (Nat.le_of_eq rfl) (by decide) (by decide) (by decide) (by decide) ?_
  intro v70 T70 h70 hq70 G70
  obtain ⟨rfl, K0, X0⟩ := hq70
  show ownGo _ _ _ _ _ _ _ T70 22 #[.val (.int p1), .val (.int p2), .val (.long q3), .second, .val (.int (Int32.ofNat n)), .val (.int dp), .unset, .unset, .unset, .unset, .unset, .unset, .unset, .unset] [(.ref b69)]
  have z_K0 : h69.size ≤ h70.size := K0.1
  replace Z0 : n0 ≤ h70.size := Nat.le_trans Z0 K0.1
  replace O := O.keep K0 (allS (by omega) all0)
  refine own_astore G70 at_22 (L' := #[.val (.int p1), .val (.int p2), .val (.long q3), .second, .val (.int (Int32.ofNat n)), .val (.int dp), .val (.ref b69), .unset, .unset, .unset, .unset, .unset, .unset, .unset]) rfl rfl ?_
  show ownGo _ _ _ _ _ _ _ T70 24 #[.val (.int p1), .val (.int p2), .val (.long q3), .second, .val (.int (Int32.ofNat n)), .val (.int dp), .val (.ref b69), .unset, .unset, .unset, .unset, .unset, .unset, .unset] []
  refine own_new G70 at_24 (hw _ (List.mem_of_getElem? (i := 1) rfl)) (hw _ (List.mem_of_getElem? (i := 2) rfl)) (hw _ (List.mem_of_getElem? (i := 3) rfl)) (by decide) (by decide) ?_
  intro T71 h71 b71 g71 E71 A71 D71 G71
  show ownGo _ _ _ _ _ _ _ T71 27 #[.val (.int p1), .val (.int p2), .val (.long q3), .second, .val (.int (Int32.ofNat n)), .val (.int dp), .val (.ref b69), .unset, .unset, .unset, .unset, .unset, .unset, .unset] [(.ref b71)]
  have F_line_b71 : Fld Z h71 b71 "com/example/biomed_reranker/biomedreranker/Run$Entry" "line" "Lcom/example/biomed_reranker/biomedreranker/RunLine;" .null := D71 (Or.inr (hw _ (List.mem_of_getElem? (i := 16) rfl))) (ty := (.object "com/example/biomed_reranker/biomedreranker/RunLine")) (by decide)
  have F_lineNumber_b71 : Fld Z h71 b71 "com/example/biomed_reranker/biomedreranker/Run$Entry" "lineNumber" "J" (.long (0 : Int64)) := D71 (Or.inr (hw _ (List.mem_of_getElem? (i := 18) rfl))) (ty := .long) (by decide)
  have lb71 : h71.size > b71 := A71.lt
  have ge1 : n0 ≤ b71 := by omega
  have z71 : h70.size ≤ h71.size := E71.1
  replace X0 := X0.ext E71
  replace Z0 : n0 ≤ h71.size := Nat.le_trans Z0 E71.1
  replace O := O.ext E71
  refine own_dup G71 at_27 rfl ?_
  show ownGo _ _ _ _ _ _ _ T71 28 #[.val (.int p1), .val (.int p2), .val (.long q3), .second, .val (.int (Int32.ofNat n)), .val (.int dp), .val (.ref b69), .unset, .unset, .unset, .unset, .unset, .unset, .unset] [(.ref b71), (.ref b71)]
  refine own_aconst_null G71 at_28 ?_
  show ownGo _ _ _ _ _ _ _ T71 29 #[.val (.int p1), .val (.int p2), .val (.long q3), .second, .val (.int (Int32.ofNat n)), .val (.int dp), .val (.ref b69), .unset, .unset, .unset, .unset, .unset, .unset, .unset] [.null, (.ref b71), (.ref b71)]
  refine own_lloadN G71 at_29 rfl ?_
  show ownGo _ _ _ _ _ _ _ T71 30 #[.val (.int p1), .val (.int p2), .val (.long q3), .second, .val (.int (Int32.ofNat n)), .val (.int dp), .val (.ref b69), .unset, .unset, .unset, .unset, .unset, .unset, .unset] [(.long q3), .null, (.ref b71), (.ref b71)]
  refine own_lconst G71 at_30 ?_
  show ownGo _ _ _ _ _ _ _ T71 31 #[.val (.int p1), .val (.int p2), .val (.long q3), .second, .val (.int (Int32.ofNat n)), .val (.int dp), .val (.ref b69), .unset, .unset, .unset, .unset, .unset, .unset, .unset] [(.long (1 : Int64)), (.long q3), .null, (.ref b71), (.ref b71)]
  refine own_ladd G71 at_31 ?_
  show ownGo _ _ _ _ _ _ _ T71 32 #[.val (.int p1), .val (.int p2), .val (.long q3), .second, .val (.int (Int32.ofNat n)), .val (.int dp), .val (.ref b69), .unset, .unset, .unset, .unset, .unset, .unset, .unset] [(.long (q3 + (1 : Int64))), .null, (.ref b71), (.ref b71)]
  refine own_special G71 at_32 (y := (⟨"com/example/biomed_reranker/biomedreranker/Run$Entry", "<init>", "(Lcom/example/biomed_reranker/biomedreranker/RunLine;J)V"⟩ : MethodName)) rfl (hw _ (List.mem_of_getElem? (i := 4) rfl)) (hw _ (List.mem_of_getElem? (i := 5) rfl)) (hw _ (List.mem_of_getElem? (i := 3) rfl)) (hw _ (List.mem_of_getElem? (i := 6) rfl)) (by decide) (a := b71) (argsL := [.null, (.long (q3 + (1 : Int64)))]) (rest := [(.ref b71)]) (rmEn l Z a0 hw b71 (q3 + (1 : Int64)) _ _ h71 n0 Z0 A71 F_line_b71 F_lineNumber_b71 ge1) rfl rfl rfl (lenOf pd_11 rfl) (W := 1) (Nat.le_of_eq rfl) (by decide) (by decide) (by decide) (by decide) ?_
  intro v72 T72 h72 hq72 G72
  obtain ⟨rfl, K1, X1⟩ := hq72
  show ownGo _ _ _ _ _ _ _ T72 35 #[.val (.int p1), .val (.int p2), .val (.long q3), .second, .val (.int (Int32.ofNat n)), .val (.int dp), .val (.ref b69), .unset, .unset, .unset, .unset, .unset, .unset, .unset] [(.ref b71)]
  have z_K1 : h71.size ≤ h72.size := K1.1
  replace X0 := X0.keep K1
  replace Z0 : n0 ≤ h72.size := Nat.le_trans Z0 K1.1
  replace O := O.keep K1 (allS (by omega) all0)
  refine own_astore G72 at_35 (L' := #[.val (.int p1), .val (.int p2), .val (.long q3), .second, .val (.int (Int32.ofNat n)), .val (.int dp), .val (.ref b69), .val (.ref b71), .unset, .unset, .unset, .unset, .unset, .unset]) rfl rfl ?_
  show ownGo _ _ _ _ _ _ _ T72 37 #[.val (.int p1), .val (.int p2), .val (.long q3), .second, .val (.int (Int32.ofNat n)), .val (.int dp), .val (.ref b69), .val (.ref b71), .unset, .unset, .unset, .unset, .unset, .unset] []
  refine own_new G72 at_37 (hw _ (List.mem_of_getElem? (i := 1) rfl)) (hw _ (List.mem_of_getElem? (i := 2) rfl)) (hw _ (List.mem_of_getElem? (i := 3) rfl)) (by decide) (by decide) ?_
  intro T73 h73 b73 g73 E73 A73 D73 G73
  show ownGo _ _ _ _ _ _ _ T73 40 #[.val (.int p1), .val (.int p2), .val (.long q3), .second, .val (.int (Int32.ofNat n)), .val (.int dp), .val (.ref b69), .val (.ref b71), .unset, .unset, .unset, .unset, .unset, .unset] [(.ref b73)]
  have F_line_b73 : Fld Z h73 b73 "com/example/biomed_reranker/biomedreranker/Run$Entry" "line" "Lcom/example/biomed_reranker/biomedreranker/RunLine;" .null := D73 (Or.inr (hw _ (List.mem_of_getElem? (i := 16) rfl))) (ty := (.object "com/example/biomed_reranker/biomedreranker/RunLine")) (by decide)
  have F_lineNumber_b73 : Fld Z h73 b73 "com/example/biomed_reranker/biomedreranker/Run$Entry" "lineNumber" "J" (.long (0 : Int64)) := D73 (Or.inr (hw _ (List.mem_of_getElem? (i := 18) rfl))) (ty := .long) (by decide)
  have lb73 : h73.size > b73 := A73.lt
  have ge2 : n0 ≤ b73 := by omega
  have z73 : h72.size ≤ h73.size := E73.1
  replace X0 := X0.ext E73
  replace X1 := X1.ext E73
  replace Z0 : n0 ≤ h73.size := Nat.le_trans Z0 E73.1
  replace O := O.ext E73
  refine own_dup G73 at_40 rfl ?_
  show ownGo _ _ _ _ _ _ _ T73 41 #[.val (.int p1), .val (.int p2), .val (.long q3), .second, .val (.int (Int32.ofNat n)), .val (.int dp), .val (.ref b69), .val (.ref b71), .unset, .unset, .unset, .unset, .unset, .unset] [(.ref b73), (.ref b73)]
  refine own_aconst_null G73 at_41 ?_
  show ownGo _ _ _ _ _ _ _ T73 42 #[.val (.int p1), .val (.int p2), .val (.long q3), .second, .val (.int (Int32.ofNat n)), .val (.int dp), .val (.ref b69), .val (.ref b71), .unset, .unset, .unset, .unset, .unset, .unset] [.null, (.ref b73), (.ref b73)]
  refine own_lloadN G73 at_42 rfl ?_
  show ownGo _ _ _ _ _ _ _ T73 43 #[.val (.int p1), .val (.int p2), .val (.long q3), .second, .val (.int (Int32.ofNat n)), .val (.int dp), .val (.ref b69), .val (.ref b71), .unset, .unset, .unset, .unset, .unset, .unset] [(.long q3), .null, (.ref b73), (.ref b73)]
  refine own_ldc2 G73 at_43 (hw _ (List.mem_of_getElem? (i := 19) rfl)) ?_
  show ownGo _ _ _ _ _ _ _ T73 46 #[.val (.int p1), .val (.int p2), .val (.long q3), .second, .val (.int (Int32.ofNat n)), .val (.int dp), .val (.ref b69), .val (.ref b71), .unset, .unset, .unset, .unset, .unset, .unset] [(.long (2 : Int64)), (.long q3), .null, (.ref b73), (.ref b73)]
  refine own_ladd G73 at_46 ?_
  show ownGo _ _ _ _ _ _ _ T73 47 #[.val (.int p1), .val (.int p2), .val (.long q3), .second, .val (.int (Int32.ofNat n)), .val (.int dp), .val (.ref b69), .val (.ref b71), .unset, .unset, .unset, .unset, .unset, .unset] [(.long (q3 + (2 : Int64))), .null, (.ref b73), (.ref b73)]
  refine own_special G73 at_47 (y := (⟨"com/example/biomed_reranker/biomedreranker/Run$Entry", "<init>", "(Lcom/example/biomed_reranker/biomedreranker/RunLine;J)V"⟩ : MethodName)) rfl (hw _ (List.mem_of_getElem? (i := 4) rfl)) (hw _ (List.mem_of_getElem? (i := 5) rfl)) (hw _ (List.mem_of_getElem? (i := 3) rfl)) (hw _ (List.mem_of_getElem? (i := 6) rfl)) (by decide) (a := b73) (argsL := [.null, (.long (q3 + (2 : Int64)))]) (rest := [(.ref b73)]) (rmEn l Z a0 hw b73 (q3 + (2 : Int64)) _ _ h73 n0 Z0 A73 F_line_b73 F_lineNumber_b73 ge2) rfl rfl rfl (lenOf pd_11 rfl) (W := 1) (Nat.le_of_eq rfl) (by decide) (by decide) (by decide) (by decide) ?_
  intro v74 T74 h74 hq74 G74
  obtain ⟨rfl, K2, X2⟩ := hq74
  show ownGo _ _ _ _ _ _ _ T74 50 #[.val (.int p1), .val (.int p2), .val (.long q3), .second, .val (.int (Int32.ofNat n)), .val (.int dp), .val (.ref b69), .val (.ref b71), .unset, .unset, .unset, .unset, .unset, .unset] [(.ref b73)]
  have z_K2 : h73.size ≤ h74.size := K2.1
  replace X0 := X0.keep K2
  replace X1 := X1.keep K2
  replace Z0 : n0 ≤ h74.size := Nat.le_trans Z0 K2.1
  replace O := O.keep K2 (allS (by omega) all0)
  refine own_astore G74 at_50 (L' := #[.val (.int p1), .val (.int p2), .val (.long q3), .second, .val (.int (Int32.ofNat n)), .val (.int dp), .val (.ref b69), .val (.ref b71), .val (.ref b73), .unset, .unset, .unset, .unset, .unset]) rfl rfl ?_
  show ownGo _ _ _ _ _ _ _ T74 52 #[.val (.int p1), .val (.int p2), .val (.long q3), .second, .val (.int (Int32.ofNat n)), .val (.int dp), .val (.ref b69), .val (.ref b71), .val (.ref b73), .unset, .unset, .unset, .unset, .unset] []
  refine own_new G74 at_52 (hw _ (List.mem_of_getElem? (i := 1) rfl)) (hw _ (List.mem_of_getElem? (i := 2) rfl)) (hw _ (List.mem_of_getElem? (i := 3) rfl)) (by decide) (by decide) ?_
  intro T75 h75 b75 g75 E75 A75 D75 G75
  show ownGo _ _ _ _ _ _ _ T75 55 #[.val (.int p1), .val (.int p2), .val (.long q3), .second, .val (.int (Int32.ofNat n)), .val (.int dp), .val (.ref b69), .val (.ref b71), .val (.ref b73), .unset, .unset, .unset, .unset, .unset] [(.ref b75)]
  have F_line_b75 : Fld Z h75 b75 "com/example/biomed_reranker/biomedreranker/Run$Entry" "line" "Lcom/example/biomed_reranker/biomedreranker/RunLine;" .null := D75 (Or.inr (hw _ (List.mem_of_getElem? (i := 16) rfl))) (ty := (.object "com/example/biomed_reranker/biomedreranker/RunLine")) (by decide)
  have F_lineNumber_b75 : Fld Z h75 b75 "com/example/biomed_reranker/biomedreranker/Run$Entry" "lineNumber" "J" (.long (0 : Int64)) := D75 (Or.inr (hw _ (List.mem_of_getElem? (i := 18) rfl))) (ty := .long) (by decide)
  have lb75 : h75.size > b75 := A75.lt
  have ge3 : n0 ≤ b75 := by omega
  have z75 : h74.size ≤ h75.size := E75.1
  replace X0 := X0.ext E75
  replace X1 := X1.ext E75
  replace X2 := X2.ext E75
  replace Z0 : n0 ≤ h75.size := Nat.le_trans Z0 E75.1
  replace O := O.ext E75
  refine own_dup G75 at_55 rfl ?_
  show ownGo _ _ _ _ _ _ _ T75 56 #[.val (.int p1), .val (.int p2), .val (.long q3), .second, .val (.int (Int32.ofNat n)), .val (.int dp), .val (.ref b69), .val (.ref b71), .val (.ref b73), .unset, .unset, .unset, .unset, .unset] [(.ref b75), (.ref b75)]
  refine own_aconst_null G75 at_56 ?_
  show ownGo _ _ _ _ _ _ _ T75 57 #[.val (.int p1), .val (.int p2), .val (.long q3), .second, .val (.int (Int32.ofNat n)), .val (.int dp), .val (.ref b69), .val (.ref b71), .val (.ref b73), .unset, .unset, .unset, .unset, .unset] [.null, (.ref b75), (.ref b75)]
  refine own_lloadN G75 at_57 rfl ?_
  show ownGo _ _ _ _ _ _ _ T75 58 #[.val (.int p1), .val (.int p2), .val (.long q3), .second, .val (.int (Int32.ofNat n)), .val (.int dp), .val (.ref b69), .val (.ref b71), .val (.ref b73), .unset, .unset, .unset, .unset, .unset] [(.long q3), .null, (.ref b75), (.ref b75)]
  refine own_ldc2 G75 at_58 (hw _ (List.mem_of_getElem? (i := 20) rfl)) ?_
  show ownGo _ _ _ _ _ _ _ T75 61 #[.val (.int p1), .val (.int p2), .val (.long q3), .second, .val (.int (Int32.ofNat n)), .val (.int dp), .val (.ref b69), .val (.ref b71), .val (.ref b73), .unset, .unset, .unset, .unset, .unset] [(.long (3 : Int64)), (.long q3), .null, (.ref b75), (.ref b75)]
  refine own_ladd G75 at_61 ?_
  show ownGo _ _ _ _ _ _ _ T75 62 #[.val (.int p1), .val (.int p2), .val (.long q3), .second, .val (.int (Int32.ofNat n)), .val (.int dp), .val (.ref b69), .val (.ref b71), .val (.ref b73), .unset, .unset, .unset, .unset, .unset] [(.long (q3 + (3 : Int64))), .null, (.ref b75), (.ref b75)]
  refine own_special G75 at_62 (y := (⟨"com/example/biomed_reranker/biomedreranker/Run$Entry", "<init>", "(Lcom/example/biomed_reranker/biomedreranker/RunLine;J)V"⟩ : MethodName)) rfl (hw _ (List.mem_of_getElem? (i := 4) rfl)) (hw _ (List.mem_of_getElem? (i := 5) rfl)) (hw _ (List.mem_of_getElem? (i := 3) rfl)) (hw _ (List.mem_of_getElem? (i := 6) rfl)) (by decide) (a := b75) (argsL := [.null, (.long (q3 + (3 : Int64)))]) (rest := [(.ref b75)]) (rmEn l Z a0 hw b75 (q3 + (3 : Int64)) _ _ h75 n0 Z0 A75 F_line_b75 F_lineNumber_b75 ge3) rfl rfl rfl (lenOf pd_11 rfl) (W := 1) (Nat.le_of_eq rfl) (by decide) (by decide) (by decide) (by decide) ?_
  intro v76 T76 h76 hq76 G76
  obtain ⟨rfl, K3, X3⟩ := hq76
  show ownGo _ _ _ _ _ _ _ T76 65 #[.val (.int p1), .val (.int p2), .val (.long q3), .second, .val (.int (Int32.ofNat n)), .val (.int dp), .val (.ref b69), .val (.ref b71), .val (.ref b73), .unset, .unset, .unset, .unset, .unset] [(.ref b75)]
  have z_K3 : h75.size ≤ h76.size := K3.1
  replace X0 := X0.keep K3
  replace X1 := X1.keep K3
  replace X2 := X2.keep K3
  replace Z0 : n0 ≤ h76.size := Nat.le_trans Z0 K3.1
  replace O := O.keep K3 (allS (by omega) all0)
  refine own_astore G76 at_65 (L' := #[.val (.int p1), .val (.int p2), .val (.long q3), .second, .val (.int (Int32.ofNat n)), .val (.int dp), .val (.ref b69), .val (.ref b71), .val (.ref b73), .val (.ref b75), .unset, .unset, .unset, .unset]) rfl rfl ?_
  show ownGo _ _ _ _ _ _ _ T76 67 #[.val (.int p1), .val (.int p2), .val (.long q3), .second, .val (.int (Int32.ofNat n)), .val (.int dp), .val (.ref b69), .val (.ref b71), .val (.ref b73), .val (.ref b75), .unset, .unset, .unset, .unset] []
  refine own_new G76 at_67 (hw _ (List.mem_of_getElem? (i := 21) rfl)) (hw _ (List.mem_of_getElem? (i := 22) rfl)) (hw _ (List.mem_of_getElem? (i := 23) rfl)) (by decide) (by decide) ?_
  intro T77 h77 b77 g77 E77 A77 D77 G77
  show ownGo _ _ _ _ _ _ _ T77 70 #[.val (.int p1), .val (.int p2), .val (.long q3), .second, .val (.int (Int32.ofNat n)), .val (.int dp), .val (.ref b69), .val (.ref b71), .val (.ref b73), .val (.ref b75), .unset, .unset, .unset, .unset] [(.ref b77)]
  have F_modCount_b77 : Fld Z h77 b77 "java/util/AbstractList" "modCount" "I" (.int (0 : Int32)) := D77 (Or.inl (hw _ (List.mem_of_getElem? (i := 41) rfl))) (ty := .int) (by decide)
  have F_elementData_b77 : Fld Z h77 b77 "java/util/ArrayList" "elementData" "[Ljava/lang/Object;" .null := D77 (Or.inl (hw _ (List.mem_of_getElem? (i := 44) rfl))) (ty := (.array (.object "java/lang/Object"))) (by decide)
  have F_size_b77 : Fld Z h77 b77 "java/util/ArrayList" "size" "I" (.int (0 : Int32)) := D77 (Or.inl (hw _ (List.mem_of_getElem? (i := 57) rfl))) (ty := .int) (by decide)
  have lb77 : h77.size > b77 := A77.lt
  have gl : n0 ≤ b77 := by omega
  have z77 : h76.size ≤ h77.size := E77.1
  replace X0 := X0.ext E77
  replace X1 := X1.ext E77
  replace X2 := X2.ext E77
  replace X3 := X3.ext E77
  replace Z0 : n0 ≤ h77.size := Nat.le_trans Z0 E77.1
  replace O := O.ext E77
  refine own_dup G77 at_70 rfl ?_
  show ownGo _ _ _ _ _ _ _ T77 71 #[.val (.int p1), .val (.int p2), .val (.long q3), .second, .val (.int (Int32.ofNat n)), .val (.int dp), .val (.ref b69), .val (.ref b71), .val (.ref b73), .val (.ref b75), .unset, .unset, .unset, .unset] [(.ref b77), (.ref b77)]
  refine own_special G77 at_71 (y := (⟨"java/util/ArrayList", "<init>", "()V"⟩ : MethodName)) rfl (hw _ (List.mem_of_getElem? (i := 24) rfl)) (hw _ (List.mem_of_getElem? (i := 25) rfl)) (hw _ (List.mem_of_getElem? (i := 23) rfl)) (hw _ (List.mem_of_getElem? (i := 26) rfl)) (by decide) (a := b77) (argsL := []) (rest := [(.ref b77)]) (rmNewAL l Z a0 hw b77 dc _ _ h77 n0 Z0 A77 F_modCount_b77 F_elementData_b77 F_size_b77 gl O SD) rfl rfl rfl (lenOf pd_0 rfl) (W := 1) (Nat.le_of_eq rfl) (by decide) (by decide) (by decide) (by decide) ?_
  intro v78 T78 h78 hq78 G78
  obtain ⟨rfl, KL, L0⟩ := hq78
  show ownGo _ _ _ _ _ _ _ T78 74 #[.val (.int p1), .val (.int p2), .val (.long q3), .second, .val (.int (Int32.ofNat n)), .val (.int dp), .val (.ref b69), .val (.ref b71), .val (.ref b73), .val (.ref b75), .unset, .unset, .unset, .unset] [(.ref b77)]
  have z_KL : h77.size ≤ h78.size := KL.1
  replace X0 := X0.keep KL
  replace X1 := X1.keep KL
  replace X2 := X2.keep KL
  replace X3 := X3.keep KL
  replace Z0 : n0 ≤ h78.size := Nat.le_trans Z0 KL.1
  replace O := O.keep KL (allS (by omega) all0)
  refine own_astore G78 at_74 (L' := #[.val (.int p1), .val (.int p2), .val (.long q3), .second, .val (.int (Int32.ofNat n)), .val (.int dp), .val (.ref b69), .val (.ref b71), .val (.ref b73), .val (.ref b75), .val (.ref b77), .unset, .unset, .unset]) rfl rfl ?_
  show ownGo _ _ _ _ _ _ _ T78 76 #[.val (.int p1), .val (.int p2), .val (.long q3), .second, .val (.int (Int32.ofNat n)), .val (.int dp), .val (.ref b69), .val (.ref b71), .val (.ref b73), .val (.ref b75), .val (.ref b77), .unset, .unset, .unset] []
  refine own_aload G78 at_76 rfl rfl ?_
  show ownGo _ _ _ _ _ _ _ T78 78 #[.val (.int p1), .val (.int p2), .val (.long q3), .second, .val (.int (Int32.ofNat n)), .val (.int dp), .val (.ref b69), .val (.ref b71), .val (.ref b73), .val (.ref b75), .val (.ref b77), .unset, .unset, .unset] [(.ref b77)]
  refine own_aload G78 at_78 rfl rfl ?_
  show ownGo _ _ _ _ _ _ _ T78 80 #[.val (.int p1), .val (.int p2), .val (.long q3), .second, .val (.int (Int32.ofNat n)), .val (.int dp), .val (.ref b69), .val (.ref b71), .val (.ref b73), .val (.ref b75), .val (.ref b77), .unset, .unset, .unset] [(.ref b69), (.ref b77)]
  refine own_interface G78 at_80 (xi := (⟨"java/util/List", "add", "(Ljava/lang/Object;)Z"⟩ : MethodName)) (y := (⟨"java/util/ArrayList", "add", "(Ljava/lang/Object;)Z"⟩ : MethodName)) (hw _ (List.mem_of_getElem? (i := 45) rfl)) (hw _ (List.mem_of_getElem? (i := 46) rfl)) (hw _ (List.mem_of_getElem? (i := 47) rfl)) (hw _ (List.mem_of_getElem? (i := 48) rfl)) (hw _ (List.mem_of_getElem? (i := 49) rfl)) (hw _ (List.mem_of_getElem? (i := 50) rfl)) (hw _ (List.mem_of_getElem? (i := 51) rfl)) (hw _ (List.mem_of_getElem? (i := 52) rfl)) (hw _ (List.mem_of_getElem? (i := 23) rfl)) (hw _ (List.mem_of_getElem? (i := 53) rfl)) (by decide) (a := b77) (argsL := [(.ref b69)]) (rest := []) L0.exa (rmAdda l Z a0 hw b77 b69 dc 0 h78 n0 Z0 L0 gl O SD AD X0) rfl rfl rfl (lenOf pd_12 rfl) (W := 0) (Nat.le_of_eq rfl) (by decide) (by decide) (by decide) (by decide) ?_
  intro v79 T79 h79 hq79 G79
  obtain ⟨ed, rfl, y1, y2, KA, L1⟩ := hq79
  show ownGo _ _ _ _ _ _ _ T79 85 #[.val (.int p1), .val (.int p2), .val (.long q3), .second, .val (.int (Int32.ofNat n)), .val (.int dp), .val (.ref b69), .val (.ref b71), .val (.ref b73), .val (.ref b75), .val (.ref b77), .unset, .unset, .unset] [(.int (1 : Int32))]
  have z_KA : h78.size ≤ h79.size := KA.1
  replace X0 := X0.keep KA
  replace X1 := X1.keep KA
  replace X2 := X2.keep KA
  replace X3 := X3.keep KA
  replace Z0 : n0 ≤ h79.size := Nat.le_trans Z0 KA.1
  replace O := O.keep KA (allS (by omega) all0)
  refine own_pop G79 at_85 rfl ?_
  show ownGo _ _ _ _ _ _ _ T79 86 #[.val (.int p1), .val (.int p2), .val (.long q3), .second, .val (.int (Int32.ofNat n)), .val (.int dp), .val (.ref b69), .val (.ref b71), .val (.ref b73), .val (.ref b75), .val (.ref b77), .unset, .unset, .unset] []
  have tail : ∀ (T : State) (h : Heap) (mc : Int32) (f : Nat → Value), ownSt p l e room_1 s m #[(.int p1), (.int p2), (.long q3)] below meth c Z n0 "com/example/biomed_reranker/biomedreranker/TopicTopPinLaw" code maxLocals ret "law" T h 6 21 → n0 ≤ h.size → @LT.lt Nat instLTNat b77 ed → h.size > ed → ownA1 Z h b77 ed mc n f → (∀ j, j < n → f j = .ref (ownE b69 b71 b73 b75 j)) → ownGo p e m below n0 (fun o t L => ReturnedEndW s o t L (room_1).cells (room_1).slots) (fun v h => v = some (.int 1)) T 134 #[.val (.int p1), .val (.int p2), .val (.long q3), .second, .val (.int (Int32.ofNat n)), .val (.int dp), .val (.ref b69), .val (.ref b71), .val (.ref b73), .val (.ref b75), .val (.ref b77), .unset, .unset, .unset] [] := by
    intro T h mc f G Y lo le L hf
    show ownGo _ _ _ _ _ _ _ T 134 #[.val (.int p1), .val (.int p2), .val (.long q3), .second, .val (.int (Int32.ofNat n)), .val (.int dp), .val (.ref b69), .val (.ref b71), .val (.ref b73), .val (.ref b75), .val (.ref b77), .unset, .unset, .unset] []
    refine own_new G at_134 (hw _ (List.mem_of_getElem? (i := 80) rfl)) (hw _ (List.mem_of_getElem? (i := 81) rfl)) (hw _ (List.mem_of_getElem? (i := 82) rfl)) (by decide) (by decide) ?_
    intro T80 h80 b80 g80 E80 A80 D80 G80
    show ownGo _ _ _ _ _ _ _ T80 137 #[.val (.int p1), .val (.int p2), .val (.long q3), .second, .val (.int (Int32.ofNat n)), .val (.int dp), .val (.ref b69), .val (.ref b71), .val (.ref b73), .val (.ref b75), .val (.ref b77), .unset, .unset, .unset] [(.ref b80)]
    have F_id_b80 : Fld Z h80 b80 "com/example/biomed_reranker/biomedreranker/Run$Topic" "id" "Ljava/lang/String;" .null := D80 (Or.inr (hw _ (List.mem_of_getElem? (i := 96) rfl))) (ty := (.object "java/lang/String")) (by decide)
    have F_entries_b80 : Fld Z h80 b80 "com/example/biomed_reranker/biomedreranker/Run$Topic" "entries" "Ljava/util/List;" .null := D80 (Or.inr (hw _ (List.mem_of_getElem? (i := 98) rfl))) (ty := (.object "java/util/List")) (by decide)
    have lt80 : h80.size > b80 := A80.lt
    have gt : n0 ≤ b80 := by omega
    have z80 : h.size ≤ h80.size := E80.1
    replace L := L.ext E80
    replace Y : n0 ≤ h80.size := Nat.le_trans Y E80.1
    refine own_dup G80 at_137 rfl ?_
    show ownGo _ _ _ _ _ _ _ T80 138 #[.val (.int p1), .val (.int p2), .val (.long q3), .second, .val (.int (Int32.ofNat n)), .val (.int dp), .val (.ref b69), .val (.ref b71), .val (.ref b73), .val (.ref b75), .val (.ref b77), .unset, .unset, .unset] [(.ref b80), (.ref b80)]
    have wS : ∀ a ∈ Bundle.stringAtoms, a.before a0 Z = true := by
      intro a ha
      simp only [Bundle.stringAtoms, List.mem_cons, List.not_mem_nil, or_false] at ha
      rcases ha with rfl | rfl | rfl | rfl | rfl | rfl | rfl
      · exact (hw _ (List.mem_of_getElem? (i := 84) rfl))
      · exact (hw _ (List.mem_of_getElem? (i := 85) rfl))
      · exact (hw _ (List.mem_of_getElem? (i := 86) rfl))
      · exact (hw _ (List.mem_of_getElem? (i := 87) rfl))
      · exact (hw _ (List.mem_of_getElem? (i := 88) rfl))
      · exact (hw _ (List.mem_of_getElem? (i := 89) rfl))
      · exact (hw _ (List.mem_of_getElem? (i := 90) rfl))
    refine own_ldcStr G80 at_138 (hw _ (List.mem_of_getElem? (i := 83) rfl)) wS (nn := 4) (by decide) (by decide) (by decide) (by decide) ?_
    intro st T81 h81 vm1 k1 hk1 E81 G81
    show ownGo _ _ _ _ _ _ _ T81 140 #[.val (.int p1), .val (.int p2), .val (.long q3), .second, .val (.int (Int32.ofNat n)), .val (.int dp), .val (.ref b69), .val (.ref b71), .val (.ref b73), .val (.ref b75), .val (.ref b77), .unset, .unset, .unset] [(.ref st), (.ref b80), (.ref b80)]
    have z81 : h80.size ≤ h81.size := E81.1
    replace L := L.ext E81
    replace A80 := A80.ext E81
    replace F_id_b80 := F_id_b80.ext E81
    replace F_entries_b80 := F_entries_b80.ext E81
    replace Y : n0 ≤ h81.size := Nat.le_trans Y E81.1
    refine own_aload G81 at_140 rfl rfl ?_
    show ownGo _ _ _ _ _ _ _ T81 142 #[.val (.int p1), .val (.int p2), .val (.long q3), .second, .val (.int (Int32.ofNat n)), .val (.int dp), .val (.ref b69), .val (.ref b71), .val (.ref b73), .val (.ref b75), .val (.ref b77), .unset, .unset, .unset] [(.ref b77), (.ref st), (.ref b80), (.ref b80)]
    refine own_special G81 at_142 (y := (⟨"com/example/biomed_reranker/biomedreranker/Run$Topic", "<init>", "(Ljava/lang/String;Ljava/util/List;)V"⟩ : MethodName)) rfl (hw _ (List.mem_of_getElem? (i := 91) rfl)) (hw _ (List.mem_of_getElem? (i := 92) rfl)) (hw _ (List.mem_of_getElem? (i := 82) rfl)) (hw _ (List.mem_of_getElem? (i := 93) rfl)) (by decide) (a := b80) (argsL := [(.ref st), (.ref b77)]) (rest := [(.ref b80)]) (rmTp l Z a0 hw b80 st b77 _ _ h81 n0 Y A80 F_id_b80 F_entries_b80 gt) rfl rfl rfl (lenOf pd_13 rfl) (W := 1) (Nat.le_of_eq rfl) (by decide) (by decide) (by decide) (by decide) ?_
    intro v82 T82 h82 hq82 G82
    obtain ⟨rfl, KT, ET, FT⟩ := hq82
    show ownGo _ _ _ _ _ _ _ T82 145 #[.val (.int p1), .val (.int p2), .val (.long q3), .second, .val (.int (Int32.ofNat n)), .val (.int dp), .val (.ref b69), .val (.ref b71), .val (.ref b73), .val (.ref b75), .val (.ref b77), .unset, .unset, .unset] [(.ref b80)]
    have zT := KT.1
    replace Y : n0 ≤ h82.size := by omega
    replace L := L.keep KT (ninS (own_neA (by omega)) nin0) (ninS (own_neA (by omega)) nin0)
    refine own_astore G82 at_145 (L' := #[.val (.int p1), .val (.int p2), .val (.long q3), .second, .val (.int (Int32.ofNat n)), .val (.int dp), .val (.ref b69), .val (.ref b71), .val (.ref b73), .val (.ref b75), .val (.ref b77), .val (.ref b80), .unset, .unset]) rfl rfl ?_
    show ownGo _ _ _ _ _ _ _ T82 147 #[.val (.int p1), .val (.int p2), .val (.long q3), .second, .val (.int (Int32.ofNat n)), .val (.int dp), .val (.ref b69), .val (.ref b71), .val (.ref b73), .val (.ref b75), .val (.ref b77), .val (.ref b80), .unset, .unset] []
    refine own_aload G82 at_147 rfl rfl ?_
    show ownGo _ _ _ _ _ _ _ T82 149 #[.val (.int p1), .val (.int p2), .val (.long q3), .second, .val (.int (Int32.ofNat n)), .val (.int dp), .val (.ref b69), .val (.ref b71), .val (.ref b73), .val (.ref b75), .val (.ref b77), .val (.ref b80), .unset, .unset] [(.ref b80)]
    refine own_iload G82 at_149 rfl ?_
    show ownGo _ _ _ _ _ _ _ T82 151 #[.val (.int p1), .val (.int p2), .val (.long q3), .second, .val (.int (Int32.ofNat n)), .val (.int dp), .val (.ref b69), .val (.ref b71), .val (.ref b73), .val (.ref b75), .val (.ref b77), .val (.ref b80), .unset, .unset] [(.int dp), (.ref b80)]
    refine own_virtual G82 at_151 (y := (⟨"com/example/biomed_reranker/biomedreranker/Run$Topic", "top", "(I)Ljava/util/List;"⟩ : MethodName)) (hw _ (List.mem_of_getElem? (i := 99) rfl)) (hw _ (List.mem_of_getElem? (i := 100) rfl)) (hw _ (List.mem_of_getElem? (i := 102) rfl)) (hw _ (List.mem_of_getElem? (i := 101) rfl)) (hw _ (List.mem_of_getElem? (i := 82) rfl)) (hw _ (List.mem_of_getElem? (i := 103) rfl)) (by decide) (a := b80) (argsL := [(.int dp)]) (rest := []) ET (rmTop l Z a0 hw b80 _ b77 ed mc n f jm h82 n0 Y FT L hjm (by omega) ejm) rfl rfl rfl (lenOf pd_14 rfl) (W := 0) (Nat.le_of_eq rfl) (by decide) (by decide) (by decide) (by decide) ?_
    intro v83 T83 h83 hq83 G83
    obtain ⟨sb, rfl, s1, s2, KS, S⟩ := hq83
    show ownGo _ _ _ _ _ _ _ T83 154 #[.val (.int p1), .val (.int p2), .val (.long q3), .second, .val (.int (Int32.ofNat n)), .val (.int dp), .val (.ref b69), .val (.ref b71), .val (.ref b73), .val (.ref b75), .val (.ref b77), .val (.ref b80), .unset, .unset] [(.ref sb)]
    have zS := KS.1
    replace Y : n0 ≤ h83.size := by omega
    replace L := L.keep KS nin0 nin0
    have hk2 : k1 ≤ h83.size := by omega
    refine own_astore G83 at_154 (L' := #[.val (.int p1), .val (.int p2), .val (.long q3), .second, .val (.int (Int32.ofNat n)), .val (.int dp), .val (.ref b69), .val (.ref b71), .val (.ref b73), .val (.ref b75), .val (.ref b77), .val (.ref b80), .val (.ref sb), .unset]) rfl rfl ?_
    show ownGo _ _ _ _ _ _ _ T83 156 #[.val (.int p1), .val (.int p2), .val (.long q3), .second, .val (.int (Int32.ofNat n)), .val (.int dp), .val (.ref b69), .val (.ref b71), .val (.ref b73), .val (.ref b75), .val (.ref b77), .val (.ref b80), .val (.ref sb), .unset] []
    refine own_iload G83 at_156 rfl ?_
    show ownGo _ _ _ _ _ _ _ T83 158 #[.val (.int p1), .val (.int p2), .val (.long q3), .second, .val (.int (Int32.ofNat n)), .val (.int dp), .val (.ref b69), .val (.ref b71), .val (.ref b73), .val (.ref b75), .val (.ref b77), .val (.ref b80), .val (.ref sb), .unset] [(.int dp)]
    refine own_iload G83 at_158 rfl ?_
    show ownGo _ _ _ _ _ _ _ T83 160 #[.val (.int p1), .val (.int p2), .val (.long q3), .second, .val (.int (Int32.ofNat n)), .val (.int dp), .val (.ref b69), .val (.ref b71), .val (.ref b73), .val (.ref b75), .val (.ref b77), .val (.ref b80), .val (.ref sb), .unset] [(.int (Int32.ofNat n)), (.int dp)]
    refine own_callS G83 at_160 (y := (⟨"java/lang/Math", "min", "(II)I"⟩ : MethodName)) (hw _ (List.mem_of_getElem? (i := 149) rfl)) (hw _ (List.mem_of_getElem? (i := 113) rfl)) (hw _ (List.mem_of_getElem? (i := 75) rfl)) (hw _ (List.mem_of_getElem? (i := 114) rfl)) (by decide) (argsL := [(.int dp), (.int (Int32.ofNat n))]) (rest := []) (rmMin l Z a0 hw dp _ h83 n0 Y) rfl rfl rfl (lenOf pd_1 rfl) (W := 0) (Nat.le_of_eq rfl) (by decide) (by decide) (by decide) (by decide) ?_
    intro v84 T84 h84 hq84 G84
    obtain ⟨rfl, rfl⟩ := hq84
    show ownGo _ _ _ _ _ _ _ T84 163 #[.val (.int p1), .val (.int p2), .val (.long q3), .second, .val (.int (Int32.ofNat n)), .val (.int dp), .val (.ref b69), .val (.ref b71), .val (.ref b73), .val (.ref b75), .val (.ref b77), .val (.ref b80), .val (.ref sb), .unset] [(.int (if Int32.ofNat n < dp then Int32.ofNat n else dp))]
    rw [ejm]
    show ownGo _ _ _ _ _ _ _ T84 163 #[.val (.int p1), .val (.int p2), .val (.long q3), .second, .val (.int (Int32.ofNat n)), .val (.int dp), .val (.ref b69), .val (.ref b71), .val (.ref b73), .val (.ref b75), .val (.ref b77), .val (.ref b80), .val (.ref sb), .unset] [(.int (Int32.ofNat jm))]
    refine own_istore G84 at_163 (L' := #[.val (.int p1), .val (.int p2), .val (.long q3), .second, .val (.int (Int32.ofNat n)), .val (.int dp), .val (.ref b69), .val (.ref b71), .val (.ref b73), .val (.ref b75), .val (.ref b77), .val (.ref b80), .val (.ref sb), .val (.int (Int32.ofNat jm))]) rfl ?_
    show ownGo _ _ _ _ _ _ _ T84 165 #[.val (.int p1), .val (.int p2), .val (.long q3), .second, .val (.int (Int32.ofNat n)), .val (.int dp), .val (.ref b69), .val (.ref b71), .val (.ref b73), .val (.ref b75), .val (.ref b77), .val (.ref b80), .val (.ref sb), .val (.int (Int32.ofNat jm))] []
    refine own_aload G84 at_165 rfl rfl ?_
    show ownGo _ _ _ _ _ _ _ T84 167 #[.val (.int p1), .val (.int p2), .val (.long q3), .second, .val (.int (Int32.ofNat n)), .val (.int dp), .val (.ref b69), .val (.ref b71), .val (.ref b73), .val (.ref b75), .val (.ref b77), .val (.ref b80), .val (.ref sb), .val (.int (Int32.ofNat jm))] [(.ref sb)]
    refine own_interface G84 at_167 (xi := (⟨"java/util/List", "size", "()I"⟩ : MethodName)) (y := (⟨"java/util/ArrayList$SubList", "size", "()I"⟩ : MethodName)) (hw _ (List.mem_of_getElem? (i := 150) rfl)) (hw _ (List.mem_of_getElem? (i := 105) rfl)) (hw _ (List.mem_of_getElem? (i := 106) rfl)) (hw _ (List.mem_of_getElem? (i := 151) rfl)) (hw _ (List.mem_of_getElem? (i := 152) rfl)) (hw _ (List.mem_of_getElem? (i := 153) rfl)) (hw _ (List.mem_of_getElem? (i := 154) rfl)) (hw _ (List.mem_of_getElem? (i := 155) rfl)) (hw _ (List.mem_of_getElem? (i := 129) rfl)) (hw _ (List.mem_of_getElem? (i := 156) rfl)) (by decide) (a := sb) (argsL := []) (rest := []) S.1 (rmSs l Z a0 hw sb b77 ed mc n f jm h83 n0 Y S L) rfl rfl rfl (lenOf pd_8 rfl) (W := 0) (Nat.le_of_eq rfl) (by decide) (by decide) (by decide) (by decide) ?_
    intro v85 T85 h85 hq85 G85
    obtain ⟨rfl, rfl⟩ := hq85
    show ownGo _ _ _ _ _ _ _ T85 172 #[.val (.int p1), .val (.int p2), .val (.long q3), .second, .val (.int (Int32.ofNat n)), .val (.int dp), .val (.ref b69), .val (.ref b71), .val (.ref b73), .val (.ref b75), .val (.ref b77), .val (.ref b80), .val (.ref sb), .val (.int (Int32.ofNat jm))] [(.int (Int32.ofNat jm))]
    refine own_iload G85 at_172 rfl ?_
    show ownGo _ _ _ _ _ _ _ T85 174 #[.val (.int p1), .val (.int p2), .val (.long q3), .second, .val (.int (Int32.ofNat n)), .val (.int dp), .val (.ref b69), .val (.ref b71), .val (.ref b73), .val (.ref b75), .val (.ref b77), .val (.ref b80), .val (.ref sb), .val (.int (Int32.ofNat jm))] [(.int (Int32.ofNat jm)), (.int (Int32.ofNat jm))]
    refine own_icmp_eq G85 at_174 (pc' := 179) (by decide) (by decide) (fun hc => ?_) (fun hc => False.elim (hc rfl))
    show ownGo _ _ _ _ _ _ _ T85 179 #[.val (.int p1), .val (.int p2), .val (.long q3), .second, .val (.int (Int32.ofNat n)), .val (.int dp), .val (.ref b69), .val (.ref b71), .val (.ref b73), .val (.ref b75), .val (.ref b77), .val (.ref b80), .val (.ref sb), .val (.int (Int32.ofNat jm))] []
    have st4 : ∀ (T : State), ownSt p l e room_1 (s.setVm vm1) m #[(.int p1), (.int p2), (.long q3)] below meth c Z n0 "com/example/biomed_reranker/biomedreranker/TopicTopPinLaw" code maxLocals ret "law" T h83 10 36 → ownGo p e m below n0 (ownEnd (s.setVm vm1) room_1) (fun v h => (v = some (.int 1)) ∧ k1 ≤ h.size) T 262 #[.val (.int p1), .val (.int p2), .val (.long q3), .second, .val (.int (Int32.ofNat n)), .val (.int dp), .val (.ref b69), .val (.ref b71), .val (.ref b73), .val (.ref b75), .val (.ref b77), .val (.ref b80), .val (.ref sb), .val (.int (Int32.ofNat jm))] [] := by
      intro T G
      show ownGo _ _ _ _ _ _ _ T 262 #[.val (.int p1), .val (.int p2), .val (.long q3), .second, .val (.int (Int32.ofNat n)), .val (.int dp), .val (.ref b69), .val (.ref b71), .val (.ref b73), .val (.ref b75), .val (.ref b77), .val (.ref b80), .val (.ref sb), .val (.int (Int32.ofNat jm))] []
      refine own_aload G at_262 rfl rfl ?_
      show ownGo _ _ _ _ _ _ _ T 264 #[.val (.int p1), .val (.int p2), .val (.long q3), .second, .val (.int (Int32.ofNat n)), .val (.int dp), .val (.ref b69), .val (.ref b71), .val (.ref b73), .val (.ref b75), .val (.ref b77), .val (.ref b80), .val (.ref sb), .val (.int (Int32.ofNat jm))] [(.ref b77)]
      refine own_interface G at_264 (xi := (⟨"java/util/List", "size", "()I"⟩ : MethodName)) (y := (⟨"java/util/ArrayList", "size", "()I"⟩ : MethodName)) (hw _ (List.mem_of_getElem? (i := 150) rfl)) (hw _ (List.mem_of_getElem? (i := 105) rfl)) (hw _ (List.mem_of_getElem? (i := 106) rfl)) (hw _ (List.mem_of_getElem? (i := 107) rfl)) (hw _ (List.mem_of_getElem? (i := 108) rfl)) (hw _ (List.mem_of_getElem? (i := 109) rfl)) (hw _ (List.mem_of_getElem? (i := 110) rfl)) (hw _ (List.mem_of_getElem? (i := 52) rfl)) (hw _ (List.mem_of_getElem? (i := 23) rfl)) (hw _ (List.mem_of_getElem? (i := 111) rfl)) (by decide) (a := b77) (argsL := []) (rest := []) L.exa (rmSz l Z a0 hw b77 ed mc n f h83 n0 Y L) rfl rfl rfl (lenOf pd_8 rfl) (W := 0) (Nat.le_of_eq rfl) (by decide) (by decide) (by decide) (by decide) ?_
      intro v86 T86 h86 hq86 G86
      obtain ⟨rfl, rfl⟩ := hq86
      show ownGo _ _ _ _ _ _ _ T86 269 #[.val (.int p1), .val (.int p2), .val (.long q3), .second, .val (.int (Int32.ofNat n)), .val (.int dp), .val (.ref b69), .val (.ref b71), .val (.ref b73), .val (.ref b75), .val (.ref b77), .val (.ref b80), .val (.ref sb), .val (.int (Int32.ofNat jm))] [(.int (Int32.ofNat n))]
      refine own_iload G86 at_269 rfl ?_
      show ownGo _ _ _ _ _ _ _ T86 271 #[.val (.int p1), .val (.int p2), .val (.long q3), .second, .val (.int (Int32.ofNat n)), .val (.int dp), .val (.ref b69), .val (.ref b71), .val (.ref b73), .val (.ref b75), .val (.ref b77), .val (.ref b80), .val (.ref sb), .val (.int (Int32.ofNat jm))] [(.int (Int32.ofNat n)), (.int (Int32.ofNat n))]
      refine own_icmp_ne G86 at_271 (pc' := 278) (by decide) (by decide) (fun hc => False.elim (hc rfl)) (fun hc => ?_)
      show ownGo _ _ _ _ _ _ _ T86 274 #[.val (.int p1), .val (.int p2), .val (.long q3), .second, .val (.int (Int32.ofNat n)), .val (.int dp), .val (.ref b69), .val (.ref b71), .val (.ref b73), .val (.ref b75), .val (.ref b77), .val (.ref b80), .val (.ref sb), .val (.int (Int32.ofNat jm))] []
      refine own_iconst G86 at_274 ?_
      show ownGo _ _ _ _ _ _ _ T86 275 #[.val (.int p1), .val (.int p2), .val (.long q3), .second, .val (.int (Int32.ofNat n)), .val (.int dp), .val (.ref b69), .val (.ref b71), .val (.ref b73), .val (.ref b75), .val (.ref b77), .val (.ref b80), .val (.ref sb), .val (.int (Int32.ofNat jm))] [(.int (1 : Int32))]
      refine own_goto G86 at_275 (pc' := 279) (by decide) (by decide) ?_
      show ownGo _ _ _ _ _ _ _ T86 279 #[.val (.int p1), .val (.int p2), .val (.long q3), .second, .val (.int (Int32.ofNat n)), .val (.int dp), .val (.ref b69), .val (.ref b71), .val (.ref b73), .val (.ref b75), .val (.ref b77), .val (.ref b80), .val (.ref sb), .val (.int (Int32.ofNat jm))] [(.int (1 : Int32))]
      exact own_zreturn G86 at_279 rfl (by decide) (by decide) ⟨rfl, hk2⟩
    have st3 : ∀ (T : State), ownSt p l e room_1 (s.setVm vm1) m #[(.int p1), (.int p2), (.long q3)] below meth c Z n0 "com/example/biomed_reranker/biomedreranker/TopicTopPinLaw" code maxLocals ret "law" T h83 10 36 → ownGo p e m below n0 (ownEnd (s.setVm vm1) room_1) (fun v h => (v = some (.int 1)) ∧ k1 ≤ h.size) T 241 #[.val (.int p1), .val (.int p2), .val (.long q3), .second, .val (.int (Int32.ofNat n)), .val (.int dp), .val (.ref b69), .val (.ref b71), .val (.ref b73), .val (.ref b75), .val (.ref b77), .val (.ref b80), .val (.ref sb), .val (.int (Int32.ofNat jm))] [] := by
      intro T G
      show ownGo _ _ _ _ _ _ _ T 241 #[.val (.int p1), .val (.int p2), .val (.long q3), .second, .val (.int (Int32.ofNat n)), .val (.int dp), .val (.ref b69), .val (.ref b71), .val (.ref b73), .val (.ref b75), .val (.ref b77), .val (.ref b80), .val (.ref sb), .val (.int (Int32.ofNat jm))] []
      refine own_iload G at_241 rfl ?_
      show ownGo _ _ _ _ _ _ _ T 243 #[.val (.int p1), .val (.int p2), .val (.long q3), .second, .val (.int (Int32.ofNat n)), .val (.int dp), .val (.ref b69), .val (.ref b71), .val (.ref b73), .val (.ref b75), .val (.ref b77), .val (.ref b80), .val (.ref sb), .val (.int (Int32.ofNat jm))] [(.int (Int32.ofNat jm))]
      refine own_iconst G at_243 ?_
      show ownGo _ _ _ _ _ _ _ T 244 #[.val (.int p1), .val (.int p2), .val (.long q3), .second, .val (.int (Int32.ofNat n)), .val (.int dp), .val (.ref b69), .val (.ref b71), .val (.ref b73), .val (.ref b75), .val (.ref b77), .val (.ref b80), .val (.ref sb), .val (.int (Int32.ofNat jm))] [(.int (3 : Int32)), (.int (Int32.ofNat jm))]
      refine own_icmp_le G at_244 (pc' := 262) (by decide) (by decide) (fun hc => ?_) (fun hc => ?_)
      · show ownGo _ _ _ _ _ _ _ T 262 #[.val (.int p1), .val (.int p2), .val (.long q3), .second, .val (.int (Int32.ofNat n)), .val (.int dp), .val (.ref b69), .val (.ref b71), .val (.ref b73), .val (.ref b75), .val (.ref b77), .val (.ref b80), .val (.ref sb), .val (.int (Int32.ofNat jm))] []
        exact st4 _ G
      · show ownGo _ _ _ _ _ _ _ T 247 #[.val (.int p1), .val (.int p2), .val (.long q3), .second, .val (.int (Int32.ofNat n)), .val (.int dp), .val (.ref b69), .val (.ref b71), .val (.ref b73), .val (.ref b75), .val (.ref b77), .val (.ref b80), .val (.ref sb), .val (.int (Int32.ofNat jm))] []
        have hi : 3 < jm := (own_ltN (i := 3) (by decide) (by omega)).mp hc
        refine own_aload G at_247 rfl rfl ?_
        show ownGo _ _ _ _ _ _ _ T 249 #[.val (.int p1), .val (.int p2), .val (.long q3), .second, .val (.int (Int32.ofNat n)), .val (.int dp), .val (.ref b69), .val (.ref b71), .val (.ref b73), .val (.ref b75), .val (.ref b77), .val (.ref b80), .val (.ref sb), .val (.int (Int32.ofNat jm))] [(.ref sb)]
        refine own_iconst G at_249 ?_
        show ownGo _ _ _ _ _ _ _ T 250 #[.val (.int p1), .val (.int p2), .val (.long q3), .second, .val (.int (Int32.ofNat n)), .val (.int dp), .val (.ref b69), .val (.ref b71), .val (.ref b73), .val (.ref b75), .val (.ref b77), .val (.ref b80), .val (.ref sb), .val (.int (Int32.ofNat jm))] [(.int (3 : Int32)), (.ref sb)]
        refine own_interface G at_250 (xi := (⟨"java/util/List", "get", "(I)Ljava/lang/Object;"⟩ : MethodName)) (y := (⟨"java/util/ArrayList$SubList", "get", "(I)Ljava/lang/Object;"⟩ : MethodName)) (hw _ (List.mem_of_getElem? (i := 162) rfl)) (hw _ (List.mem_of_getElem? (i := 163) rfl)) (hw _ (List.mem_of_getElem? (i := 164) rfl)) (hw _ (List.mem_of_getElem? (i := 165) rfl)) (hw _ (List.mem_of_getElem? (i := 166) rfl)) (hw _ (List.mem_of_getElem? (i := 167) rfl)) (hw _ (List.mem_of_getElem? (i := 168) rfl)) (hw _ (List.mem_of_getElem? (i := 155) rfl)) (hw _ (List.mem_of_getElem? (i := 129) rfl)) (hw _ (List.mem_of_getElem? (i := 169) rfl)) (by decide) (a := sb) (argsL := [(.int (3 : Int32))]) (rest := []) S.1 (rmGet l Z a0 hw sb _ b77 ed mc n f jm 3 b75 h83 n0 Y S L hi (by omega) rfl (hf 3 (by omega))) rfl rfl rfl (lenOf pd_10 rfl) (W := 0) (Nat.le_of_eq rfl) (by decide) (by decide) (by decide) (by decide) ?_
        intro v87 T87 h87 hq87 G87
        obtain ⟨rfl, rfl⟩ := hq87
        show ownGo _ _ _ _ _ _ _ T87 255 #[.val (.int p1), .val (.int p2), .val (.long q3), .second, .val (.int (Int32.ofNat n)), .val (.int dp), .val (.ref b69), .val (.ref b71), .val (.ref b73), .val (.ref b75), .val (.ref b77), .val (.ref b80), .val (.ref sb), .val (.int (Int32.ofNat jm))] [(.ref b75)]
        refine own_aload G87 at_255 rfl rfl ?_
        show ownGo _ _ _ _ _ _ _ T87 257 #[.val (.int p1), .val (.int p2), .val (.long q3), .second, .val (.int (Int32.ofNat n)), .val (.int dp), .val (.ref b69), .val (.ref b71), .val (.ref b73), .val (.ref b75), .val (.ref b77), .val (.ref b80), .val (.ref sb), .val (.int (Int32.ofNat jm))] [(.ref b75), (.ref b75)]
        refine own_acmp G87 at_257 (pc' := 262) (same := true) rfl rfl (decide_eq_true rfl) (by decide) (by decide) ?_
        show ownGo _ _ _ _ _ _ _ T87 262 #[.val (.int p1), .val (.int p2), .val (.long q3), .second, .val (.int (Int32.ofNat n)), .val (.int dp), .val (.ref b69), .val (.ref b71), .val (.ref b73), .val (.ref b75), .val (.ref b77), .val (.ref b80), .val (.ref sb), .val (.int (Int32.ofNat jm))] []
        exact st4 _ (own_more G87 (by decide) (by decide))
    have st2 : ∀ (T : State), ownSt p l e room_1 (s.setVm vm1) m #[(.int p1), (.int p2), (.long q3)] below meth c Z n0 "com/example/biomed_reranker/biomedreranker/TopicTopPinLaw" code maxLocals ret "law" T h83 10 36 → ownGo p e m below n0 (ownEnd (s.setVm vm1) room_1) (fun v h => (v = some (.int 1)) ∧ k1 ≤ h.size) T 220 #[.val (.int p1), .val (.int p2), .val (.long q3), .second, .val (.int (Int32.ofNat n)), .val (.int dp), .val (.ref b69), .val (.ref b71), .val (.ref b73), .val (.ref b75), .val (.ref b77), .val (.ref b80), .val (.ref sb), .val (.int (Int32.ofNat jm))] [] := by
      intro T G
      show ownGo _ _ _ _ _ _ _ T 220 #[.val (.int p1), .val (.int p2), .val (.long q3), .second, .val (.int (Int32.ofNat n)), .val (.int dp), .val (.ref b69), .val (.ref b71), .val (.ref b73), .val (.ref b75), .val (.ref b77), .val (.ref b80), .val (.ref sb), .val (.int (Int32.ofNat jm))] []
      refine own_iload G at_220 rfl ?_
      show ownGo _ _ _ _ _ _ _ T 222 #[.val (.int p1), .val (.int p2), .val (.long q3), .second, .val (.int (Int32.ofNat n)), .val (.int dp), .val (.ref b69), .val (.ref b71), .val (.ref b73), .val (.ref b75), .val (.ref b77), .val (.ref b80), .val (.ref sb), .val (.int (Int32.ofNat jm))] [(.int (Int32.ofNat jm))]
      refine own_iconst G at_222 ?_
      show ownGo _ _ _ _ _ _ _ T 223 #[.val (.int p1), .val (.int p2), .val (.long q3), .second, .val (.int (Int32.ofNat n)), .val (.int dp), .val (.ref b69), .val (.ref b71), .val (.ref b73), .val (.ref b75), .val (.ref b77), .val (.ref b80), .val (.ref sb), .val (.int (Int32.ofNat jm))] [(.int (2 : Int32)), (.int (Int32.ofNat jm))]
      refine own_icmp_le G at_223 (pc' := 241) (by decide) (by decide) (fun hc => ?_) (fun hc => ?_)
      · show ownGo _ _ _ _ _ _ _ T 241 #[.val (.int p1), .val (.int p2), .val (.long q3), .second, .val (.int (Int32.ofNat n)), .val (.int dp), .val (.ref b69), .val (.ref b71), .val (.ref b73), .val (.ref b75), .val (.ref b77), .val (.ref b80), .val (.ref sb), .val (.int (Int32.ofNat jm))] []
        exact st3 _ G
      · show ownGo _ _ _ _ _ _ _ T 226 #[.val (.int p1), .val (.int p2), .val (.long q3), .second, .val (.int (Int32.ofNat n)), .val (.int dp), .val (.ref b69), .val (.ref b71), .val (.ref b73), .val (.ref b75), .val (.ref b77), .val (.ref b80), .val (.ref sb), .val (.int (Int32.ofNat jm))] []
        have hi : 2 < jm := (own_ltN (i := 2) (by decide) (by omega)).mp hc
        refine own_aload G at_226 rfl rfl ?_
        show ownGo _ _ _ _ _ _ _ T 228 #[.val (.int p1), .val (.int p2), .val (.long q3), .second, .val (.int (Int32.ofNat n)), .val (.int dp), .val (.ref b69), .val (.ref b71), .val (.ref b73), .val (.ref b75), .val (.ref b77), .val (.ref b80), .val (.ref sb), .val (.int (Int32.ofNat jm))] [(.ref sb)]
        refine own_iconst G at_228 ?_
        show ownGo _ _ _ _ _ _ _ T 229 #[.val (.int p1), .val (.int p2), .val (.long q3), .second, .val (.int (Int32.ofNat n)), .val (.int dp), .val (.ref b69), .val (.ref b71), .val (.ref b73), .val (.ref b75), .val (.ref b77), .val (.ref b80), .val (.ref sb), .val (.int (Int32.ofNat jm))] [(.int (2 : Int32)), (.ref sb)]
        refine own_interface G at_229 (xi := (⟨"java/util/List", "get", "(I)Ljava/lang/Object;"⟩ : MethodName)) (y := (⟨"java/util/ArrayList$SubList", "get", "(I)Ljava/lang/Object;"⟩ : MethodName)) (hw _ (List.mem_of_getElem? (i := 162) rfl)) (hw _ (List.mem_of_getElem? (i := 163) rfl)) (hw _ (List.mem_of_getElem? (i := 164) rfl)) (hw _ (List.mem_of_getElem? (i := 165) rfl)) (hw _ (List.mem_of_getElem? (i := 166) rfl)) (hw _ (List.mem_of_getElem? (i := 167) rfl)) (hw _ (List.mem_of_getElem? (i := 168) rfl)) (hw _ (List.mem_of_getElem? (i := 155) rfl)) (hw _ (List.mem_of_getElem? (i := 129) rfl)) (hw _ (List.mem_of_getElem? (i := 169) rfl)) (by decide) (a := sb) (argsL := [(.int (2 : Int32))]) (rest := []) S.1 (rmGet l Z a0 hw sb _ b77 ed mc n f jm 2 b73 h83 n0 Y S L hi (by omega) rfl (hf 2 (by omega))) rfl rfl rfl (lenOf pd_10 rfl) (W := 0) (Nat.le_of_eq rfl) (by decide) (by decide) (by decide) (by decide) ?_
        intro v88 T88 h88 hq88 G88
        obtain ⟨rfl, rfl⟩ := hq88
        show ownGo _ _ _ _ _ _ _ T88 234 #[.val (.int p1), .val (.int p2), .val (.long q3), .second, .val (.int (Int32.ofNat n)), .val (.int dp), .val (.ref b69), .val (.ref b71), .val (.ref b73), .val (.ref b75), .val (.ref b77), .val (.ref b80), .val (.ref sb), .val (.int (Int32.ofNat jm))] [(.ref b73)]
        refine own_aload G88 at_234 rfl rfl ?_
        show ownGo _ _ _ _ _ _ _ T88 236 #[.val (.int p1), .val (.int p2), .val (.long q3), .second, .val (.int (Int32.ofNat n)), .val (.int dp), .val (.ref b69), .val (.ref b71), .val (.ref b73), .val (.ref b75), .val (.ref b77), .val (.ref b80), .val (.ref sb), .val (.int (Int32.ofNat jm))] [(.ref b73), (.ref b73)]
        refine own_acmp G88 at_236 (pc' := 241) (same := true) rfl rfl (decide_eq_true rfl) (by decide) (by decide) ?_
        show ownGo _ _ _ _ _ _ _ T88 241 #[.val (.int p1), .val (.int p2), .val (.long q3), .second, .val (.int (Int32.ofNat n)), .val (.int dp), .val (.ref b69), .val (.ref b71), .val (.ref b73), .val (.ref b75), .val (.ref b77), .val (.ref b80), .val (.ref sb), .val (.int (Int32.ofNat jm))] []
        exact st3 _ (own_more G88 (by decide) (by decide))
    have st1 : ∀ (T : State), ownSt p l e room_1 (s.setVm vm1) m #[(.int p1), (.int p2), (.long q3)] below meth c Z n0 "com/example/biomed_reranker/biomedreranker/TopicTopPinLaw" code maxLocals ret "law" T h83 10 36 → ownGo p e m below n0 (ownEnd (s.setVm vm1) room_1) (fun v h => (v = some (.int 1)) ∧ k1 ≤ h.size) T 199 #[.val (.int p1), .val (.int p2), .val (.long q3), .second, .val (.int (Int32.ofNat n)), .val (.int dp), .val (.ref b69), .val (.ref b71), .val (.ref b73), .val (.ref b75), .val (.ref b77), .val (.ref b80), .val (.ref sb), .val (.int (Int32.ofNat jm))] [] := by
      intro T G
      show ownGo _ _ _ _ _ _ _ T 199 #[.val (.int p1), .val (.int p2), .val (.long q3), .second, .val (.int (Int32.ofNat n)), .val (.int dp), .val (.ref b69), .val (.ref b71), .val (.ref b73), .val (.ref b75), .val (.ref b77), .val (.ref b80), .val (.ref sb), .val (.int (Int32.ofNat jm))] []
      refine own_iload G at_199 rfl ?_
      show ownGo _ _ _ _ _ _ _ T 201 #[.val (.int p1), .val (.int p2), .val (.long q3), .second, .val (.int (Int32.ofNat n)), .val (.int dp), .val (.ref b69), .val (.ref b71), .val (.ref b73), .val (.ref b75), .val (.ref b77), .val (.ref b80), .val (.ref sb), .val (.int (Int32.ofNat jm))] [(.int (Int32.ofNat jm))]
      refine own_iconst G at_201 ?_
      show ownGo _ _ _ _ _ _ _ T 202 #[.val (.int p1), .val (.int p2), .val (.long q3), .second, .val (.int (Int32.ofNat n)), .val (.int dp), .val (.ref b69), .val (.ref b71), .val (.ref b73), .val (.ref b75), .val (.ref b77), .val (.ref b80), .val (.ref sb), .val (.int (Int32.ofNat jm))] [(.int (1 : Int32)), (.int (Int32.ofNat jm))]
      refine own_icmp_le G at_202 (pc' := 220) (by decide) (by decide) (fun hc => ?_) (fun hc => ?_)
      · show ownGo _ _ _ _ _ _ _ T 220 #[.val (.int p1), .val (.int p2), .val (.long q3), .second, .val (.int (Int32.ofNat n)), .val (.int dp), .val (.ref b69), .val (.ref b71), .val (.ref b73), .val (.ref b75), .val (.ref b77), .val (.ref b80), .val (.ref sb), .val (.int (Int32.ofNat jm))] []
        exact st2 _ G
      · show ownGo _ _ _ _ _ _ _ T 205 #[.val (.int p1), .val (.int p2), .val (.long q3), .second, .val (.int (Int32.ofNat n)), .val (.int dp), .val (.ref b69), .val (.ref b71), .val (.ref b73), .val (.ref b75), .val (.ref b77), .val (.ref b80), .val (.ref sb), .val (.int (Int32.ofNat jm))] []
        have hi : 1 < jm := (own_ltN (i := 1) (by decide) (by omega)).mp hc
        refine own_aload G at_205 rfl rfl ?_
        show ownGo _ _ _ _ _ _ _ T 207 #[.val (.int p1), .val (.int p2), .val (.long q3), .second, .val (.int (Int32.ofNat n)), .val (.int dp), .val (.ref b69), .val (.ref b71), .val (.ref b73), .val (.ref b75), .val (.ref b77), .val (.ref b80), .val (.ref sb), .val (.int (Int32.ofNat jm))] [(.ref sb)]
        refine own_iconst G at_207 ?_
        show ownGo _ _ _ _ _ _ _ T 208 #[.val (.int p1), .val (.int p2), .val (.long q3), .second, .val (.int (Int32.ofNat n)), .val (.int dp), .val (.ref b69), .val (.ref b71), .val (.ref b73), .val (.ref b75), .val (.ref b77), .val (.ref b80), .val (.ref sb), .val (.int (Int32.ofNat jm))] [(.int (1 : Int32)), (.ref sb)]
        refine own_interface G at_208 (xi := (⟨"java/util/List", "get", "(I)Ljava/lang/Object;"⟩ : MethodName)) (y := (⟨"java/util/ArrayList$SubList", "get", "(I)Ljava/lang/Object;"⟩ : MethodName)) (hw _ (List.mem_of_getElem? (i := 162) rfl)) (hw _ (List.mem_of_getElem? (i := 163) rfl)) (hw _ (List.mem_of_getElem? (i := 164) rfl)) (hw _ (List.mem_of_getElem? (i := 165) rfl)) (hw _ (List.mem_of_getElem? (i := 166) rfl)) (hw _ (List.mem_of_getElem? (i := 167) rfl)) (hw _ (List.mem_of_getElem? (i := 168) rfl)) (hw _ (List.mem_of_getElem? (i := 155) rfl)) (hw _ (List.mem_of_getElem? (i := 129) rfl)) (hw _ (List.mem_of_getElem? (i := 169) rfl)) (by decide) (a := sb) (argsL := [(.int (1 : Int32))]) (rest := []) S.1 (rmGet l Z a0 hw sb _ b77 ed mc n f jm 1 b71 h83 n0 Y S L hi (by omega) rfl (hf 1 (by omega))) rfl rfl rfl (lenOf pd_10 rfl) (W := 0) (Nat.le_of_eq rfl) (by decide) (by decide) (by decide) (by decide) ?_
        intro v89 T89 h89 hq89 G89
        obtain ⟨rfl, rfl⟩ := hq89
        show ownGo _ _ _ _ _ _ _ T89 213 #[.val (.int p1), .val (.int p2), .val (.long q3), .second, .val (.int (Int32.ofNat n)), .val (.int dp), .val (.ref b69), .val (.ref b71), .val (.ref b73), .val (.ref b75), .val (.ref b77), .val (.ref b80), .val (.ref sb), .val (.int (Int32.ofNat jm))] [(.ref b71)]
        refine own_aload G89 at_213 rfl rfl ?_
        show ownGo _ _ _ _ _ _ _ T89 215 #[.val (.int p1), .val (.int p2), .val (.long q3), .second, .val (.int (Int32.ofNat n)), .val (.int dp), .val (.ref b69), .val (.ref b71), .val (.ref b73), .val (.ref b75), .val (.ref b77), .val (.ref b80), .val (.ref sb), .val (.int (Int32.ofNat jm))] [(.ref b71), (.ref b71)]
        refine own_acmp G89 at_215 (pc' := 220) (same := true) rfl rfl (decide_eq_true rfl) (by decide) (by decide) ?_
        show ownGo _ _ _ _ _ _ _ T89 220 #[.val (.int p1), .val (.int p2), .val (.long q3), .second, .val (.int (Int32.ofNat n)), .val (.int dp), .val (.ref b69), .val (.ref b71), .val (.ref b73), .val (.ref b75), .val (.ref b77), .val (.ref b80), .val (.ref sb), .val (.int (Int32.ofNat jm))] []
        exact st2 _ (own_more G89 (by decide) (by decide))
    have st0 : ∀ (T : State), ownSt p l e room_1 (s.setVm vm1) m #[(.int p1), (.int p2), (.long q3)] below meth c Z n0 "com/example/biomed_reranker/biomedreranker/TopicTopPinLaw" code maxLocals ret "law" T h83 10 36 → ownGo p e m below n0 (ownEnd (s.setVm vm1) room_1) (fun v h => (v = some (.int 1)) ∧ k1 ≤ h.size) T 179 #[.val (.int p1), .val (.int p2), .val (.long q3), .second, .val (.int (Int32.ofNat n)), .val (.int dp), .val (.ref b69), .val (.ref b71), .val (.ref b73), .val (.ref b75), .val (.ref b77), .val (.ref b80), .val (.ref sb), .val (.int (Int32.ofNat jm))] [] := by
      intro T G
      show ownGo _ _ _ _ _ _ _ T 179 #[.val (.int p1), .val (.int p2), .val (.long q3), .second, .val (.int (Int32.ofNat n)), .val (.int dp), .val (.ref b69), .val (.ref b71), .val (.ref b73), .val (.ref b75), .val (.ref b77), .val (.ref b80), .val (.ref sb), .val (.int (Int32.ofNat jm))] []
      refine own_iload G at_179 rfl ?_
      show ownGo _ _ _ _ _ _ _ T 181 #[.val (.int p1), .val (.int p2), .val (.long q3), .second, .val (.int (Int32.ofNat n)), .val (.int dp), .val (.ref b69), .val (.ref b71), .val (.ref b73), .val (.ref b75), .val (.ref b77), .val (.ref b80), .val (.ref sb), .val (.int (Int32.ofNat jm))] [(.int (Int32.ofNat jm))]
      refine own_if_le G at_181 (pc' := 199) (by decide) (by decide) (fun hc => ?_) (fun hc => ?_)
      · show ownGo _ _ _ _ _ _ _ T 199 #[.val (.int p1), .val (.int p2), .val (.long q3), .second, .val (.int (Int32.ofNat n)), .val (.int dp), .val (.ref b69), .val (.ref b71), .val (.ref b73), .val (.ref b75), .val (.ref b77), .val (.ref b80), .val (.ref sb), .val (.int (Int32.ofNat jm))] []
        exact st1 _ G
      · show ownGo _ _ _ _ _ _ _ T 184 #[.val (.int p1), .val (.int p2), .val (.long q3), .second, .val (.int (Int32.ofNat n)), .val (.int dp), .val (.ref b69), .val (.ref b71), .val (.ref b73), .val (.ref b75), .val (.ref b77), .val (.ref b80), .val (.ref sb), .val (.int (Int32.ofNat jm))] []
        have hi : 0 < jm := (own_ltN (i := 0) (by decide) (by omega)).mp hc
        refine own_aload G at_184 rfl rfl ?_
        show ownGo _ _ _ _ _ _ _ T 186 #[.val (.int p1), .val (.int p2), .val (.long q3), .second, .val (.int (Int32.ofNat n)), .val (.int dp), .val (.ref b69), .val (.ref b71), .val (.ref b73), .val (.ref b75), .val (.ref b77), .val (.ref b80), .val (.ref sb), .val (.int (Int32.ofNat jm))] [(.ref sb)]
        refine own_iconst G at_186 ?_
        show ownGo _ _ _ _ _ _ _ T 187 #[.val (.int p1), .val (.int p2), .val (.long q3), .second, .val (.int (Int32.ofNat n)), .val (.int dp), .val (.ref b69), .val (.ref b71), .val (.ref b73), .val (.ref b75), .val (.ref b77), .val (.ref b80), .val (.ref sb), .val (.int (Int32.ofNat jm))] [(.int (0 : Int32)), (.ref sb)]
        refine own_interface G at_187 (xi := (⟨"java/util/List", "get", "(I)Ljava/lang/Object;"⟩ : MethodName)) (y := (⟨"java/util/ArrayList$SubList", "get", "(I)Ljava/lang/Object;"⟩ : MethodName)) (hw _ (List.mem_of_getElem? (i := 162) rfl)) (hw _ (List.mem_of_getElem? (i := 163) rfl)) (hw _ (List.mem_of_getElem? (i := 164) rfl)) (hw _ (List.mem_of_getElem? (i := 165) rfl)) (hw _ (List.mem_of_getElem? (i := 166) rfl)) (hw _ (List.mem_of_getElem? (i := 167) rfl)) (hw _ (List.mem_of_getElem? (i := 168) rfl)) (hw _ (List.mem_of_getElem? (i := 155) rfl)) (hw _ (List.mem_of_getElem? (i := 129) rfl)) (hw _ (List.mem_of_getElem? (i := 169) rfl)) (by decide) (a := sb) (argsL := [(.int (0 : Int32))]) (rest := []) S.1 (rmGet l Z a0 hw sb _ b77 ed mc n f jm 0 b69 h83 n0 Y S L hi (by omega) rfl (hf 0 (by omega))) rfl rfl rfl (lenOf pd_10 rfl) (W := 0) (Nat.le_of_eq rfl) (by decide) (by decide) (by decide) (by decide) ?_
        intro v90 T90 h90 hq90 G90
        obtain ⟨rfl, rfl⟩ := hq90
        show ownGo _ _ _ _ _ _ _ T90 192 #[.val (.int p1), .val (.int p2), .val (.long q3), .second, .val (.int (Int32.ofNat n)), .val (.int dp), .val (.ref b69), .val (.ref b71), .val (.ref b73), .val (.ref b75), .val (.ref b77), .val (.ref b80), .val (.ref sb), .val (.int (Int32.ofNat jm))] [(.ref b69)]
        refine own_aload G90 at_192 rfl rfl ?_
        show ownGo _ _ _ _ _ _ _ T90 194 #[.val (.int p1), .val (.int p2), .val (.long q3), .second, .val (.int (Int32.ofNat n)), .val (.int dp), .val (.ref b69), .val (.ref b71), .val (.ref b73), .val (.ref b75), .val (.ref b77), .val (.ref b80), .val (.ref sb), .val (.int (Int32.ofNat jm))] [(.ref b69), (.ref b69)]
        refine own_acmp G90 at_194 (pc' := 199) (same := true) rfl rfl (decide_eq_true rfl) (by decide) (by decide) ?_
        show ownGo _ _ _ _ _ _ _ T90 199 #[.val (.int p1), .val (.int p2), .val (.long q3), .second, .val (.int (Int32.ofNat n)), .val (.int dp), .val (.ref b69), .val (.ref b71), .val (.ref b73), .val (.ref b75), .val (.ref b77), .val (.ref b80), .val (.ref sb), .val (.int (Int32.ofNat jm))] []
        exact st1 _ (own_more G90 (by decide) (by decide))
    exact st0 _ (own_more G85 (by decide) (by decide))
  obtain hn | hn | hn | hn : n = 1 ∨ n = 2 ∨ n = 3 ∨ n = 4 := by omega
  · subst hn
    show ownGo _ _ _ _ _ _ _ T79 86 #[.val (.int p1), .val (.int p2), .val (.long q3), .second, .val (.int (Int32.ofNat 1)), .val (.int dp), .val (.ref b69), .val (.ref b71), .val (.ref b73), .val (.ref b75), .val (.ref b77), .unset, .unset, .unset] []
    refine own_iload G79 at_86 rfl ?_
    show ownGo _ _ _ _ _ _ _ T79 88 #[.val (.int p1), .val (.int p2), .val (.long q3), .second, .val (.int (Int32.ofNat 1)), .val (.int dp), .val (.ref b69), .val (.ref b71), .val (.ref b73), .val (.ref b75), .val (.ref b77), .unset, .unset, .unset] [(.int (Int32.ofNat 1))]
    refine own_iconst G79 at_88 ?_
    show ownGo _ _ _ _ _ _ _ T79 89 #[.val (.int p1), .val (.int p2), .val (.long q3), .second, .val (.int (Int32.ofNat 1)), .val (.int dp), .val (.ref b69), .val (.ref b71), .val (.ref b73), .val (.ref b75), .val (.ref b77), .unset, .unset, .unset] [(.int (1 : Int32)), (.int (Int32.ofNat 1))]
    refine own_icmp_le G79 at_89 (pc' := 102) (by decide) (by decide) (fun hc => ?_) (fun hc => False.elim (absurd hc (by decide)))
    show ownGo _ _ _ _ _ _ _ T79 102 #[.val (.int p1), .val (.int p2), .val (.long q3), .second, .val (.int (Int32.ofNat 1)), .val (.int dp), .val (.ref b69), .val (.ref b71), .val (.ref b73), .val (.ref b75), .val (.ref b77), .unset, .unset, .unset] []
    refine own_iload G79 at_102 rfl ?_
    show ownGo _ _ _ _ _ _ _ T79 104 #[.val (.int p1), .val (.int p2), .val (.long q3), .second, .val (.int (Int32.ofNat 1)), .val (.int dp), .val (.ref b69), .val (.ref b71), .val (.ref b73), .val (.ref b75), .val (.ref b77), .unset, .unset, .unset] [(.int (Int32.ofNat 1))]
    refine own_iconst G79 at_104 ?_
    show ownGo _ _ _ _ _ _ _ T79 105 #[.val (.int p1), .val (.int p2), .val (.long q3), .second, .val (.int (Int32.ofNat 1)), .val (.int dp), .val (.ref b69), .val (.ref b71), .val (.ref b73), .val (.ref b75), .val (.ref b77), .unset, .unset, .unset] [(.int (2 : Int32)), (.int (Int32.ofNat 1))]
    refine own_icmp_le G79 at_105 (pc' := 118) (by decide) (by decide) (fun hc => ?_) (fun hc => False.elim (absurd hc (by decide)))
    show ownGo _ _ _ _ _ _ _ T79 118 #[.val (.int p1), .val (.int p2), .val (.long q3), .second, .val (.int (Int32.ofNat 1)), .val (.int dp), .val (.ref b69), .val (.ref b71), .val (.ref b73), .val (.ref b75), .val (.ref b77), .unset, .unset, .unset] []
    refine own_iload G79 at_118 rfl ?_
    show ownGo _ _ _ _ _ _ _ T79 120 #[.val (.int p1), .val (.int p2), .val (.long q3), .second, .val (.int (Int32.ofNat 1)), .val (.int dp), .val (.ref b69), .val (.ref b71), .val (.ref b73), .val (.ref b75), .val (.ref b77), .unset, .unset, .unset] [(.int (Int32.ofNat 1))]
    refine own_iconst G79 at_120 ?_
    show ownGo _ _ _ _ _ _ _ T79 121 #[.val (.int p1), .val (.int p2), .val (.long q3), .second, .val (.int (Int32.ofNat 1)), .val (.int dp), .val (.ref b69), .val (.ref b71), .val (.ref b73), .val (.ref b75), .val (.ref b77), .unset, .unset, .unset] [(.int (3 : Int32)), (.int (Int32.ofNat 1))]
    refine own_icmp_le G79 at_121 (pc' := 134) (by decide) (by decide) (fun hc => ?_) (fun hc => False.elim (absurd hc (by decide)))
    show ownGo _ _ _ _ _ _ _ T79 134 #[.val (.int p1), .val (.int p2), .val (.long q3), .second, .val (.int (Int32.ofNat 1)), .val (.int dp), .val (.ref b69), .val (.ref b71), .val (.ref b73), .val (.ref b75), .val (.ref b77), .unset, .unset, .unset] []
    exact tail _ _ _ _ (own_more G79 (by decide) (by decide)) Z0 (by omega) (by omega) L1 (fun j hj => by
      rcases j with _ | j
      · rfl
      · omega)
  · subst hn
    show ownGo _ _ _ _ _ _ _ T79 86 #[.val (.int p1), .val (.int p2), .val (.long q3), .second, .val (.int (Int32.ofNat 2)), .val (.int dp), .val (.ref b69), .val (.ref b71), .val (.ref b73), .val (.ref b75), .val (.ref b77), .unset, .unset, .unset] []
    refine own_iload G79 at_86 rfl ?_
    show ownGo _ _ _ _ _ _ _ T79 88 #[.val (.int p1), .val (.int p2), .val (.long q3), .second, .val (.int (Int32.ofNat 2)), .val (.int dp), .val (.ref b69), .val (.ref b71), .val (.ref b73), .val (.ref b75), .val (.ref b77), .unset, .unset, .unset] [(.int (Int32.ofNat 2))]
    refine own_iconst G79 at_88 ?_
    show ownGo _ _ _ _ _ _ _ T79 89 #[.val (.int p1), .val (.int p2), .val (.long q3), .second, .val (.int (Int32.ofNat 2)), .val (.int dp), .val (.ref b69), .val (.ref b71), .val (.ref b73), .val (.ref b75), .val (.ref b77), .unset, .unset, .unset] [(.int (1 : Int32)), (.int (Int32.ofNat 2))]
    refine own_icmp_le G79 at_89 (pc' := 102) (by decide) (by decide) (fun hc => False.elim (hc (by decide))) (fun hc => ?_)
    show ownGo _ _ _ _ _ _ _ T79 92 #[.val (.int p1), .val (.int p2), .val (.long q3), .second, .val (.int (Int32.ofNat 2)), .val (.int dp), .val (.ref b69), .val (.ref b71), .val (.ref b73), .val (.ref b75), .val (.ref b77), .unset, .unset, .unset] []
    refine own_aload G79 at_92 rfl rfl ?_
    show ownGo _ _ _ _ _ _ _ T79 94 #[.val (.int p1), .val (.int p2), .val (.long q3), .second, .val (.int (Int32.ofNat 2)), .val (.int dp), .val (.ref b69), .val (.ref b71), .val (.ref b73), .val (.ref b75), .val (.ref b77), .unset, .unset, .unset] [(.ref b77)]
    refine own_aload G79 at_94 rfl rfl ?_
    show ownGo _ _ _ _ _ _ _ T79 96 #[.val (.int p1), .val (.int p2), .val (.long q3), .second, .val (.int (Int32.ofNat 2)), .val (.int dp), .val (.ref b69), .val (.ref b71), .val (.ref b73), .val (.ref b75), .val (.ref b77), .unset, .unset, .unset] [(.ref b71), (.ref b77)]
    refine own_interface G79 at_96 (xi := (⟨"java/util/List", "add", "(Ljava/lang/Object;)Z"⟩ : MethodName)) (y := (⟨"java/util/ArrayList", "add", "(Ljava/lang/Object;)Z"⟩ : MethodName)) (hw _ (List.mem_of_getElem? (i := 45) rfl)) (hw _ (List.mem_of_getElem? (i := 46) rfl)) (hw _ (List.mem_of_getElem? (i := 47) rfl)) (hw _ (List.mem_of_getElem? (i := 48) rfl)) (hw _ (List.mem_of_getElem? (i := 49) rfl)) (hw _ (List.mem_of_getElem? (i := 50) rfl)) (hw _ (List.mem_of_getElem? (i := 51) rfl)) (hw _ (List.mem_of_getElem? (i := 52) rfl)) (hw _ (List.mem_of_getElem? (i := 23) rfl)) (hw _ (List.mem_of_getElem? (i := 53) rfl)) (by decide) (a := b77) (argsL := [(.ref b71)]) (rest := []) L1.exa (rmAddb l Z a0 hw b77 b71 ed (0 + 1) 1 (fun j => if j = 0 then .ref b69 else .null) h79 n0 Z0 L1 gl (by omega) (own_neA (by omega)) (by decide) X1) rfl rfl rfl (lenOf pd_12 rfl) (W := 0) (Nat.le_of_eq rfl) (by decide) (by decide) (by decide) (by decide) ?_
    intro v91 T91 h91 hq91 G91
    obtain ⟨rfl, KB1, M1⟩ := hq91
    show ownGo _ _ _ _ _ _ _ T91 101 #[.val (.int p1), .val (.int p2), .val (.long q3), .second, .val (.int (Int32.ofNat 2)), .val (.int dp), .val (.ref b69), .val (.ref b71), .val (.ref b73), .val (.ref b75), .val (.ref b77), .unset, .unset, .unset] [(.int (1 : Int32))]
    have z_KB1 : h79.size ≤ h91.size := KB1.1
    replace X0 := X0.keep KB1
    replace X1 := X1.keep KB1
    replace X2 := X2.keep KB1
    replace X3 := X3.keep KB1
    replace Z0 : n0 ≤ h91.size := Nat.le_trans Z0 KB1.1
    replace O := O.keep KB1 (allS (by omega) (allS (by omega) all0))
    refine own_pop G91 at_101 rfl ?_
    show ownGo _ _ _ _ _ _ _ T91 102 #[.val (.int p1), .val (.int p2), .val (.long q3), .second, .val (.int (Int32.ofNat 2)), .val (.int dp), .val (.ref b69), .val (.ref b71), .val (.ref b73), .val (.ref b75), .val (.ref b77), .unset, .unset, .unset] []
    refine own_iload G91 at_102 rfl ?_
    show ownGo _ _ _ _ _ _ _ T91 104 #[.val (.int p1), .val (.int p2), .val (.long q3), .second, .val (.int (Int32.ofNat 2)), .val (.int dp), .val (.ref b69), .val (.ref b71), .val (.ref b73), .val (.ref b75), .val (.ref b77), .unset, .unset, .unset] [(.int (Int32.ofNat 2))]
    refine own_iconst G91 at_104 ?_
    show ownGo _ _ _ _ _ _ _ T91 105 #[.val (.int p1), .val (.int p2), .val (.long q3), .second, .val (.int (Int32.ofNat 2)), .val (.int dp), .val (.ref b69), .val (.ref b71), .val (.ref b73), .val (.ref b75), .val (.ref b77), .unset, .unset, .unset] [(.int (2 : Int32)), (.int (Int32.ofNat 2))]
    refine own_icmp_le G91 at_105 (pc' := 118) (by decide) (by decide) (fun hc => ?_) (fun hc => False.elim (absurd hc (by decide)))
    show ownGo _ _ _ _ _ _ _ T91 118 #[.val (.int p1), .val (.int p2), .val (.long q3), .second, .val (.int (Int32.ofNat 2)), .val (.int dp), .val (.ref b69), .val (.ref b71), .val (.ref b73), .val (.ref b75), .val (.ref b77), .unset, .unset, .unset] []
    refine own_iload G91 at_118 rfl ?_
    show ownGo _ _ _ _ _ _ _ T91 120 #[.val (.int p1), .val (.int p2), .val (.long q3), .second, .val (.int (Int32.ofNat 2)), .val (.int dp), .val (.ref b69), .val (.ref b71), .val (.ref b73), .val (.ref b75), .val (.ref b77), .unset, .unset, .unset] [(.int (Int32.ofNat 2))]
    refine own_iconst G91 at_120 ?_
    show ownGo _ _ _ _ _ _ _ T91 121 #[.val (.int p1), .val (.int p2), .val (.long q3), .second, .val (.int (Int32.ofNat 2)), .val (.int dp), .val (.ref b69), .val (.ref b71), .val (.ref b73), .val (.ref b75), .val (.ref b77), .unset, .unset, .unset] [(.int (3 : Int32)), (.int (Int32.ofNat 2))]
    refine own_icmp_le G91 at_121 (pc' := 134) (by decide) (by decide) (fun hc => ?_) (fun hc => False.elim (absurd hc (by decide)))
    show ownGo _ _ _ _ _ _ _ T91 134 #[.val (.int p1), .val (.int p2), .val (.long q3), .second, .val (.int (Int32.ofNat 2)), .val (.int dp), .val (.ref b69), .val (.ref b71), .val (.ref b73), .val (.ref b75), .val (.ref b77), .unset, .unset, .unset] []
    exact tail _ _ _ _ (own_more G91 (by decide) (by decide)) Z0 (by omega) (by omega) M1 (fun j hj => by
      rcases j with _ | _ | j
      · rfl
      · rfl
      · omega)
  · subst hn
    show ownGo _ _ _ _ _ _ _ T79 86 #[.val (.int p1), .val (.int p2), .val (.long q3), .second, .val (.int (Int32.ofNat 3)), .val (.int dp), .val (.ref b69), .val (.ref b71), .val (.ref b73), .val (.ref b75), .val (.ref b77), .unset, .unset, .unset] []
    refine own_iload G79 at_86 rfl ?_
    show ownGo _ _ _ _ _ _ _ T79 88 #[.val (.int p1), .val (.int p2), .val (.long q3), .second, .val (.int (Int32.ofNat 3)), .val (.int dp), .val (.ref b69), .val (.ref b71), .val (.ref b73), .val (.ref b75), .val (.ref b77), .unset, .unset, .unset] [(.int (Int32.ofNat 3))]
    refine own_iconst G79 at_88 ?_
    show ownGo _ _ _ _ _ _ _ T79 89 #[.val (.int p1), .val (.int p2), .val (.long q3), .second, .val (.int (Int32.ofNat 3)), .val (.int dp), .val (.ref b69), .val (.ref b71), .val (.ref b73), .val (.ref b75), .val (.ref b77), .unset, .unset, .unset] [(.int (1 : Int32)), (.int (Int32.ofNat 3))]
    refine own_icmp_le G79 at_89 (pc' := 102) (by decide) (by decide) (fun hc => False.elim (hc (by decide))) (fun hc => ?_)
    show ownGo _ _ _ _ _ _ _ T79 92 #[.val (.int p1), .val (.int p2), .val (.long q3), .second, .val (.int (Int32.ofNat 3)), .val (.int dp), .val (.ref b69), .val (.ref b71), .val (.ref b73), .val (.ref b75), .val (.ref b77), .unset, .unset, .unset] []
    refine own_aload G79 at_92 rfl rfl ?_
    show ownGo _ _ _ _ _ _ _ T79 94 #[.val (.int p1), .val (.int p2), .val (.long q3), .second, .val (.int (Int32.ofNat 3)), .val (.int dp), .val (.ref b69), .val (.ref b71), .val (.ref b73), .val (.ref b75), .val (.ref b77), .unset, .unset, .unset] [(.ref b77)]
    refine own_aload G79 at_94 rfl rfl ?_
    show ownGo _ _ _ _ _ _ _ T79 96 #[.val (.int p1), .val (.int p2), .val (.long q3), .second, .val (.int (Int32.ofNat 3)), .val (.int dp), .val (.ref b69), .val (.ref b71), .val (.ref b73), .val (.ref b75), .val (.ref b77), .unset, .unset, .unset] [(.ref b71), (.ref b77)]
    refine own_interface G79 at_96 (xi := (⟨"java/util/List", "add", "(Ljava/lang/Object;)Z"⟩ : MethodName)) (y := (⟨"java/util/ArrayList", "add", "(Ljava/lang/Object;)Z"⟩ : MethodName)) (hw _ (List.mem_of_getElem? (i := 45) rfl)) (hw _ (List.mem_of_getElem? (i := 46) rfl)) (hw _ (List.mem_of_getElem? (i := 47) rfl)) (hw _ (List.mem_of_getElem? (i := 48) rfl)) (hw _ (List.mem_of_getElem? (i := 49) rfl)) (hw _ (List.mem_of_getElem? (i := 50) rfl)) (hw _ (List.mem_of_getElem? (i := 51) rfl)) (hw _ (List.mem_of_getElem? (i := 52) rfl)) (hw _ (List.mem_of_getElem? (i := 23) rfl)) (hw _ (List.mem_of_getElem? (i := 53) rfl)) (by decide) (a := b77) (argsL := [(.ref b71)]) (rest := []) L1.exa (rmAddb l Z a0 hw b77 b71 ed (0 + 1) 1 (fun j => if j = 0 then .ref b69 else .null) h79 n0 Z0 L1 gl (by omega) (own_neA (by omega)) (by decide) X1) rfl rfl rfl (lenOf pd_12 rfl) (W := 0) (Nat.le_of_eq rfl) (by decide) (by decide) (by decide) (by decide) ?_
    intro v92 T92 h92 hq92 G92
    obtain ⟨rfl, KB1, M1⟩ := hq92
    show ownGo _ _ _ _ _ _ _ T92 101 #[.val (.int p1), .val (.int p2), .val (.long q3), .second, .val (.int (Int32.ofNat 3)), .val (.int dp), .val (.ref b69), .val (.ref b71), .val (.ref b73), .val (.ref b75), .val (.ref b77), .unset, .unset, .unset] [(.int (1 : Int32))]
    have z_KB1 : h79.size ≤ h92.size := KB1.1
    replace X0 := X0.keep KB1
    replace X1 := X1.keep KB1
    replace X2 := X2.keep KB1
    replace X3 := X3.keep KB1
    replace Z0 : n0 ≤ h92.size := Nat.le_trans Z0 KB1.1
    replace O := O.keep KB1 (allS (by omega) (allS (by omega) all0))
    refine own_pop G92 at_101 rfl ?_
    show ownGo _ _ _ _ _ _ _ T92 102 #[.val (.int p1), .val (.int p2), .val (.long q3), .second, .val (.int (Int32.ofNat 3)), .val (.int dp), .val (.ref b69), .val (.ref b71), .val (.ref b73), .val (.ref b75), .val (.ref b77), .unset, .unset, .unset] []
    refine own_iload G92 at_102 rfl ?_
    show ownGo _ _ _ _ _ _ _ T92 104 #[.val (.int p1), .val (.int p2), .val (.long q3), .second, .val (.int (Int32.ofNat 3)), .val (.int dp), .val (.ref b69), .val (.ref b71), .val (.ref b73), .val (.ref b75), .val (.ref b77), .unset, .unset, .unset] [(.int (Int32.ofNat 3))]
    refine own_iconst G92 at_104 ?_
    show ownGo _ _ _ _ _ _ _ T92 105 #[.val (.int p1), .val (.int p2), .val (.long q3), .second, .val (.int (Int32.ofNat 3)), .val (.int dp), .val (.ref b69), .val (.ref b71), .val (.ref b73), .val (.ref b75), .val (.ref b77), .unset, .unset, .unset] [(.int (2 : Int32)), (.int (Int32.ofNat 3))]
    refine own_icmp_le G92 at_105 (pc' := 118) (by decide) (by decide) (fun hc => False.elim (hc (by decide))) (fun hc => ?_)
    show ownGo _ _ _ _ _ _ _ T92 108 #[.val (.int p1), .val (.int p2), .val (.long q3), .second, .val (.int (Int32.ofNat 3)), .val (.int dp), .val (.ref b69), .val (.ref b71), .val (.ref b73), .val (.ref b75), .val (.ref b77), .unset, .unset, .unset] []
    refine own_aload G92 at_108 rfl rfl ?_
    show ownGo _ _ _ _ _ _ _ T92 110 #[.val (.int p1), .val (.int p2), .val (.long q3), .second, .val (.int (Int32.ofNat 3)), .val (.int dp), .val (.ref b69), .val (.ref b71), .val (.ref b73), .val (.ref b75), .val (.ref b77), .unset, .unset, .unset] [(.ref b77)]
    refine own_aload G92 at_110 rfl rfl ?_
    show ownGo _ _ _ _ _ _ _ T92 112 #[.val (.int p1), .val (.int p2), .val (.long q3), .second, .val (.int (Int32.ofNat 3)), .val (.int dp), .val (.ref b69), .val (.ref b71), .val (.ref b73), .val (.ref b75), .val (.ref b77), .unset, .unset, .unset] [(.ref b73), (.ref b77)]
    refine own_interface G92 at_112 (xi := (⟨"java/util/List", "add", "(Ljava/lang/Object;)Z"⟩ : MethodName)) (y := (⟨"java/util/ArrayList", "add", "(Ljava/lang/Object;)Z"⟩ : MethodName)) (hw _ (List.mem_of_getElem? (i := 45) rfl)) (hw _ (List.mem_of_getElem? (i := 46) rfl)) (hw _ (List.mem_of_getElem? (i := 47) rfl)) (hw _ (List.mem_of_getElem? (i := 48) rfl)) (hw _ (List.mem_of_getElem? (i := 49) rfl)) (hw _ (List.mem_of_getElem? (i := 50) rfl)) (hw _ (List.mem_of_getElem? (i := 51) rfl)) (hw _ (List.mem_of_getElem? (i := 52) rfl)) (hw _ (List.mem_of_getElem? (i := 23) rfl)) (hw _ (List.mem_of_getElem? (i := 53) rfl)) (by decide) (a := b77) (argsL := [(.ref b73)]) (rest := []) M1.exa (rmAddb l Z a0 hw b77 b73 ed ((0 + 1) + 1) 2 (fun j => if j = 1 then .ref b71 else (fun j => if j = 0 then .ref b69 else .null) j) h92 n0 Z0 M1 gl (by omega) (own_neA (by omega)) (by decide) X2) rfl rfl rfl (lenOf pd_12 rfl) (W := 0) (Nat.le_of_eq rfl) (by decide) (by decide) (by decide) (by decide) ?_
    intro v93 T93 h93 hq93 G93
    obtain ⟨rfl, KB2, M2⟩ := hq93
    show ownGo _ _ _ _ _ _ _ T93 117 #[.val (.int p1), .val (.int p2), .val (.long q3), .second, .val (.int (Int32.ofNat 3)), .val (.int dp), .val (.ref b69), .val (.ref b71), .val (.ref b73), .val (.ref b75), .val (.ref b77), .unset, .unset, .unset] [(.int (1 : Int32))]
    have z_KB2 : h92.size ≤ h93.size := KB2.1
    replace X0 := X0.keep KB2
    replace X1 := X1.keep KB2
    replace X2 := X2.keep KB2
    replace X3 := X3.keep KB2
    replace Z0 : n0 ≤ h93.size := Nat.le_trans Z0 KB2.1
    replace O := O.keep KB2 (allS (by omega) (allS (by omega) all0))
    refine own_pop G93 at_117 rfl ?_
    show ownGo _ _ _ _ _ _ _ T93 118 #[.val (.int p1), .val (.int p2), .val (.long q3), .second, .val (.int (Int32.ofNat 3)), .val (.int dp), .val (.ref b69), .val (.ref b71), .val (.ref b73), .val (.ref b75), .val (.ref b77), .unset, .unset, .unset] []
    refine own_iload G93 at_118 rfl ?_
    show ownGo _ _ _ _ _ _ _ T93 120 #[.val (.int p1), .val (.int p2), .val (.long q3), .second, .val (.int (Int32.ofNat 3)), .val (.int dp), .val (.ref b69), .val (.ref b71), .val (.ref b73), .val (.ref b75), .val (.ref b77), .unset, .unset, .unset] [(.int (Int32.ofNat 3))]
    refine own_iconst G93 at_120 ?_
    show ownGo _ _ _ _ _ _ _ T93 121 #[.val (.int p1), .val (.int p2), .val (.long q3), .second, .val (.int (Int32.ofNat 3)), .val (.int dp), .val (.ref b69), .val (.ref b71), .val (.ref b73), .val (.ref b75), .val (.ref b77), .unset, .unset, .unset] [(.int (3 : Int32)), (.int (Int32.ofNat 3))]
    refine own_icmp_le G93 at_121 (pc' := 134) (by decide) (by decide) (fun hc => ?_) (fun hc => False.elim (absurd hc (by decide)))
    show ownGo _ _ _ _ _ _ _ T93 134 #[.val (.int p1), .val (.int p2), .val (.long q3), .second, .val (.int (Int32.ofNat 3)), .val (.int dp), .val (.ref b69), .val (.ref b71), .val (.ref b73), .val (.ref b75), .val (.ref b77), .unset, .unset, .unset] []
    exact tail _ _ _ _ (own_more G93 (by decide) (by decide)) Z0 (by omega) (by omega) M2 (fun j hj => by
      rcases j with _ | _ | _ | j
      · rfl
      · rfl
      · rfl
      · omega)
  · subst hn
    show ownGo _ _ _ _ _ _ _ T79 86 #[.val (.int p1), .val (.int p2), .val (.long q3), .second, .val (.int (Int32.ofNat 4)), .val (.int dp), .val (.ref b69), .val (.ref b71), .val (.ref b73), .val (.ref b75), .val (.ref b77), .unset, .unset, .unset] []
    refine own_iload G79 at_86 rfl ?_
    show ownGo _ _ _ _ _ _ _ T79 88 #[.val (.int p1), .val (.int p2), .val (.long q3), .second, .val (.int (Int32.ofNat 4)), .val (.int dp), .val (.ref b69), .val (.ref b71), .val (.ref b73), .val (.ref b75), .val (.ref b77), .unset, .unset, .unset] [(.int (Int32.ofNat 4))]
    refine own_iconst G79 at_88 ?_
    show ownGo _ _ _ _ _ _ _ T79 89 #[.val (.int p1), .val (.int p2), .val (.long q3), .second, .val (.int (Int32.ofNat 4)), .val (.int dp), .val (.ref b69), .val (.ref b71), .val (.ref b73), .val (.ref b75), .val (.ref b77), .unset, .unset, .unset] [(.int (1 : Int32)), (.int (Int32.ofNat 4))]
    refine own_icmp_le G79 at_89 (pc' := 102) (by decide) (by decide) (fun hc => False.elim (hc (by decide))) (fun hc => ?_)
    show ownGo _ _ _ _ _ _ _ T79 92 #[.val (.int p1), .val (.int p2), .val (.long q3), .second, .val (.int (Int32.ofNat 4)), .val (.int dp), .val (.ref b69), .val (.ref b71), .val (.ref b73), .val (.ref b75), .val (.ref b77), .unset, .unset, .unset] []
    refine own_aload G79 at_92 rfl rfl ?_
    show ownGo _ _ _ _ _ _ _ T79 94 #[.val (.int p1), .val (.int p2), .val (.long q3), .second, .val (.int (Int32.ofNat 4)), .val (.int dp), .val (.ref b69), .val (.ref b71), .val (.ref b73), .val (.ref b75), .val (.ref b77), .unset, .unset, .unset] [(.ref b77)]
    refine own_aload G79 at_94 rfl rfl ?_
    show ownGo _ _ _ _ _ _ _ T79 96 #[.val (.int p1), .val (.int p2), .val (.long q3), .second, .val (.int (Int32.ofNat 4)), .val (.int dp), .val (.ref b69), .val (.ref b71), .val (.ref b73), .val (.ref b75), .val (.ref b77), .unset, .unset, .unset] [(.ref b71), (.ref b77)]
    refine own_interface G79 at_96 (xi := (⟨"java/util/List", "add", "(Ljava/lang/Object;)Z"⟩ : MethodName)) (y := (⟨"java/util/ArrayList", "add", "(Ljava/lang/Object;)Z"⟩ : MethodName)) (hw _ (List.mem_of_getElem? (i := 45) rfl)) (hw _ (List.mem_of_getElem? (i := 46) rfl)) (hw _ (List.mem_of_getElem? (i := 47) rfl)) (hw _ (List.mem_of_getElem? (i := 48) rfl)) (hw _ (List.mem_of_getElem? (i := 49) rfl)) (hw _ (List.mem_of_getElem? (i := 50) rfl)) (hw _ (List.mem_of_getElem? (i := 51) rfl)) (hw _ (List.mem_of_getElem? (i := 52) rfl)) (hw _ (List.mem_of_getElem? (i := 23) rfl)) (hw _ (List.mem_of_getElem? (i := 53) rfl)) (by decide) (a := b77) (argsL := [(.ref b71)]) (rest := []) L1.exa (rmAddb l Z a0 hw b77 b71 ed (0 + 1) 1 (fun j => if j = 0 then .ref b69 else .null) h79 n0 Z0 L1 gl (by omega) (own_neA (by omega)) (by decide) X1) rfl rfl rfl (lenOf pd_12 rfl) (W := 0) (Nat.le_of_eq rfl) (by decide) (by decide) (by decide) (by decide) ?_
    intro v94 T94 h94 hq94 G94
    obtain ⟨rfl, KB1, M1⟩ := hq94
    show ownGo _ _ _ _ _ _ _ T94 101 #[.val (.int p1), .val (.int p2), .val (.long q3), .second, .val (.int (Int32.ofNat 4)), .val (.int dp), .val (.ref b69), .val (.ref b71), .val (.ref b73), .val (.ref b75), .val (.ref b77), .unset, .unset, .unset] [(.int (1 : Int32))]
    have z_KB1 : h79.size ≤ h94.size := KB1.1
    replace X0 := X0.keep KB1
    replace X1 := X1.keep KB1
    replace X2 := X2.keep KB1
    replace X3 := X3.keep KB1
    replace Z0 : n0 ≤ h94.size := Nat.le_trans Z0 KB1.1
    replace O := O.keep KB1 (allS (by omega) (allS (by omega) all0))
    refine own_pop G94 at_101 rfl ?_
    show ownGo _ _ _ _ _ _ _ T94 102 #[.val (.int p1), .val (.int p2), .val (.long q3), .second, .val (.int (Int32.ofNat 4)), .val (.int dp), .val (.ref b69), .val (.ref b71), .val (.ref b73), .val (.ref b75), .val (.ref b77), .unset, .unset, .unset] []
    refine own_iload G94 at_102 rfl ?_
    show ownGo _ _ _ _ _ _ _ T94 104 #[.val (.int p1), .val (.int p2), .val (.long q3), .second, .val (.int (Int32.ofNat 4)), .val (.int dp), .val (.ref b69), .val (.ref b71), .val (.ref b73), .val (.ref b75), .val (.ref b77), .unset, .unset, .unset] [(.int (Int32.ofNat 4))]
    refine own_iconst G94 at_104 ?_
    show ownGo _ _ _ _ _ _ _ T94 105 #[.val (.int p1), .val (.int p2), .val (.long q3), .second, .val (.int (Int32.ofNat 4)), .val (.int dp), .val (.ref b69), .val (.ref b71), .val (.ref b73), .val (.ref b75), .val (.ref b77), .unset, .unset, .unset] [(.int (2 : Int32)), (.int (Int32.ofNat 4))]
    refine own_icmp_le G94 at_105 (pc' := 118) (by decide) (by decide) (fun hc => False.elim (hc (by decide))) (fun hc => ?_)
    show ownGo _ _ _ _ _ _ _ T94 108 #[.val (.int p1), .val (.int p2), .val (.long q3), .second, .val (.int (Int32.ofNat 4)), .val (.int dp), .val (.ref b69), .val (.ref b71), .val (.ref b73), .val (.ref b75), .val (.ref b77), .unset, .unset, .unset] []
    refine own_aload G94 at_108 rfl rfl ?_
    show ownGo _ _ _ _ _ _ _ T94 110 #[.val (.int p1), .val (.int p2), .val (.long q3), .second, .val (.int (Int32.ofNat 4)), .val (.int dp), .val (.ref b69), .val (.ref b71), .val (.ref b73), .val (.ref b75), .val (.ref b77), .unset, .unset, .unset] [(.ref b77)]
    refine own_aload G94 at_110 rfl rfl ?_
    show ownGo _ _ _ _ _ _ _ T94 112 #[.val (.int p1), .val (.int p2), .val (.long q3), .second, .val (.int (Int32.ofNat 4)), .val (.int dp), .val (.ref b69), .val (.ref b71), .val (.ref b73), .val (.ref b75), .val (.ref b77), .unset, .unset, .unset] [(.ref b73), (.ref b77)]
    refine own_interface G94 at_112 (xi := (⟨"java/util/List", "add", "(Ljava/lang/Object;)Z"⟩ : MethodName)) (y := (⟨"java/util/ArrayList", "add", "(Ljava/lang/Object;)Z"⟩ : MethodName)) (hw _ (List.mem_of_getElem? (i := 45) rfl)) (hw _ (List.mem_of_getElem? (i := 46) rfl)) (hw _ (List.mem_of_getElem? (i := 47) rfl)) (hw _ (List.mem_of_getElem? (i := 48) rfl)) (hw _ (List.mem_of_getElem? (i := 49) rfl)) (hw _ (List.mem_of_getElem? (i := 50) rfl)) (hw _ (List.mem_of_getElem? (i := 51) rfl)) (hw _ (List.mem_of_getElem? (i := 52) rfl)) (hw _ (List.mem_of_getElem? (i := 23) rfl)) (hw _ (List.mem_of_getElem? (i := 53) rfl)) (by decide) (a := b77) (argsL := [(.ref b73)]) (rest := []) M1.exa (rmAddb l Z a0 hw b77 b73 ed ((0 + 1) + 1) 2 (fun j => if j = 1 then .ref b71 else (fun j => if j = 0 then .ref b69 else .null) j) h94 n0 Z0 M1 gl (by omega) (own_neA (by omega)) (by decide) X2) rfl rfl rfl (lenOf pd_12 rfl) (W := 0) (Nat.le_of_eq rfl) (by decide) (by decide) (by decide) (by decide) ?_
    intro v95 T95 h95 hq95 G95
    obtain ⟨rfl, KB2, M2⟩ := hq95
    show ownGo _ _ _ _ _ _ _ T95 117 #[.val (.int p1), .val (.int p2), .val (.long q3), .second, .val (.int (Int32.ofNat 4)), .val (.int dp), .val (.ref b69), .val (.ref b71), .val (.ref b73), .val (.ref b75), .val (.ref b77), .unset, .unset, .unset] [(.int (1 : Int32))]
    have z_KB2 : h94.size ≤ h95.size := KB2.1
    replace X0 := X0.keep KB2
    replace X1 := X1.keep KB2
    replace X2 := X2.keep KB2
    replace X3 := X3.keep KB2
    replace Z0 : n0 ≤ h95.size := Nat.le_trans Z0 KB2.1
    replace O := O.keep KB2 (allS (by omega) (allS (by omega) all0))
    refine own_pop G95 at_117 rfl ?_
    show ownGo _ _ _ _ _ _ _ T95 118 #[.val (.int p1), .val (.int p2), .val (.long q3), .second, .val (.int (Int32.ofNat 4)), .val (.int dp), .val (.ref b69), .val (.ref b71), .val (.ref b73), .val (.ref b75), .val (.ref b77), .unset, .unset, .unset] []
    refine own_iload G95 at_118 rfl ?_
    show ownGo _ _ _ _ _ _ _ T95 120 #[.val (.int p1), .val (.int p2), .val (.long q3), .second, .val (.int (Int32.ofNat 4)), .val (.int dp), .val (.ref b69), .val (.ref b71), .val (.ref b73), .val (.ref b75), .val (.ref b77), .unset, .unset, .unset] [(.int (Int32.ofNat 4))]
    refine own_iconst G95 at_120 ?_
    show ownGo _ _ _ _ _ _ _ T95 121 #[.val (.int p1), .val (.int p2), .val (.long q3), .second, .val (.int (Int32.ofNat 4)), .val (.int dp), .val (.ref b69), .val (.ref b71), .val (.ref b73), .val (.ref b75), .val (.ref b77), .unset, .unset, .unset] [(.int (3 : Int32)), (.int (Int32.ofNat 4))]
    refine own_icmp_le G95 at_121 (pc' := 134) (by decide) (by decide) (fun hc => False.elim (hc (by decide))) (fun hc => ?_)
    show ownGo _ _ _ _ _ _ _ T95 124 #[.val (.int p1), .val (.int p2), .val (.long q3), .second, .val (.int (Int32.ofNat 4)), .val (.int dp), .val (.ref b69), .val (.ref b71), .val (.ref b73), .val (.ref b75), .val (.ref b77), .unset, .unset, .unset] []
    refine own_aload G95 at_124 rfl rfl ?_
    show ownGo _ _ _ _ _ _ _ T95 126 #[.val (.int p1), .val (.int p2), .val (.long q3), .second, .val (.int (Int32.ofNat 4)), .val (.int dp), .val (.ref b69), .val (.ref b71), .val (.ref b73), .val (.ref b75), .val (.ref b77), .unset, .unset, .unset] [(.ref b77)]
    refine own_aload G95 at_126 rfl rfl ?_
    show ownGo _ _ _ _ _ _ _ T95 128 #[.val (.int p1), .val (.int p2), .val (.long q3), .second, .val (.int (Int32.ofNat 4)), .val (.int dp), .val (.ref b69), .val (.ref b71), .val (.ref b73), .val (.ref b75), .val (.ref b77), .unset, .unset, .unset] [(.ref b75), (.ref b77)]
    refine own_interface G95 at_128 (xi := (⟨"java/util/List", "add", "(Ljava/lang/Object;)Z"⟩ : MethodName)) (y := (⟨"java/util/ArrayList", "add", "(Ljava/lang/Object;)Z"⟩ : MethodName)) (hw _ (List.mem_of_getElem? (i := 45) rfl)) (hw _ (List.mem_of_getElem? (i := 46) rfl)) (hw _ (List.mem_of_getElem? (i := 47) rfl)) (hw _ (List.mem_of_getElem? (i := 48) rfl)) (hw _ (List.mem_of_getElem? (i := 49) rfl)) (hw _ (List.mem_of_getElem? (i := 50) rfl)) (hw _ (List.mem_of_getElem? (i := 51) rfl)) (hw _ (List.mem_of_getElem? (i := 52) rfl)) (hw _ (List.mem_of_getElem? (i := 23) rfl)) (hw _ (List.mem_of_getElem? (i := 53) rfl)) (by decide) (a := b77) (argsL := [(.ref b75)]) (rest := []) M2.exa (rmAddb l Z a0 hw b77 b75 ed (((0 + 1) + 1) + 1) 3 (fun j => if j = 2 then .ref b73 else (fun j => if j = 1 then .ref b71 else (fun j => if j = 0 then .ref b69 else .null) j) j) h95 n0 Z0 M2 gl (by omega) (own_neA (by omega)) (by decide) X3) rfl rfl rfl (lenOf pd_12 rfl) (W := 0) (Nat.le_of_eq rfl) (by decide) (by decide) (by decide) (by decide) ?_
    intro v96 T96 h96 hq96 G96
    obtain ⟨rfl, KB3, M3⟩ := hq96
    show ownGo _ _ _ _ _ _ _ T96 133 #[.val (.int p1), .val (.int p2), .val (.long q3), .second, .val (.int (Int32.ofNat 4)), .val (.int dp), .val (.ref b69), .val (.ref b71), .val (.ref b73), .val (.ref b75), .val (.ref b77), .unset, .unset, .unset] [(.int (1 : Int32))]
    have z_KB3 : h95.size ≤ h96.size := KB3.1
    replace X0 := X0.keep KB3
    replace X1 := X1.keep KB3
    replace X2 := X2.keep KB3
    replace X3 := X3.keep KB3
    replace Z0 : n0 ≤ h96.size := Nat.le_trans Z0 KB3.1
    replace O := O.keep KB3 (allS (by omega) (allS (by omega) all0))
    refine own_pop G96 at_133 rfl ?_
    show ownGo _ _ _ _ _ _ _ T96 134 #[.val (.int p1), .val (.int p2), .val (.long q3), .second, .val (.int (Int32.ofNat 4)), .val (.int dp), .val (.ref b69), .val (.ref b71), .val (.ref b73), .val (.ref b75), .val (.ref b77), .unset, .unset, .unset] []
    exact tail _ _ _ _ (own_more G96 (by decide) (by decide)) Z0 (by omega) (by omega) M3 (fun j hj => by
      rcases j with _ | _ | _ | _ | j
      · rfl
      · rfl
      · rfl
      · rfl
      · omega)
theorem own_len0 {args : Array Value} {s : State} {t : Term} (h : (Cond.eq (.length t) (.int (0 : Int32))).value args s none s [] = some true) : ∃ a, t.eval args s none [] s = some (.ref a) ∧ ∀ cl : Cell, s.heap[a]? = some cl → cl.slots.size = 0 := by
  cases hl : (Term.length t).eval args s none [] s with
  | none => simp [Cond.value, hl] at h
  | some v =>
    obtain ⟨a, cell, e1, e2, e3⟩ := Term.length_spec hl
    subst e3
    have h0 : cell.slots.size.toInt32 = 0 := gotT (Cond.eq_ints hl (Term.int_eval 0)) h
    have hs : cell.slots.size < 2 ^ 31 := by
      simp only [Term.eval, e1, e2, Option.bind_eq_bind, Option.bind_some] at hl
      by_cases q : cell.slots.size < 2 ^ 31
      · exact q
      · rw [if_neg q] at hl; cases hl
    have h1 := len_toInt hs
    rw [h0] at h1
    have h2 : ((0 : Int32).toInt : Int) = 0 := rfl
    refine ⟨a, e1, fun cl hc => ?_⟩
    simp only [State.arrayAt?, hc, Option.bind_eq_bind, Option.bind_some, Option.bind_eq_some_iff] at e2
    obtain ⟨k, -, e2⟩ := e2
    split at e2
    · cases e2
    · split at e2
      · cases e2; omega
      · cases e2
theorem own_dc {args : Array Value} {s : State} (hw : ∀ d ∈ tables_1, d.before args s = true) (hsets : ∀ d ∈ jdkStatics_1, d.before args s = true) : ∃ dc, True ∧ (∃ f, ownArr s s.heap dc (.object "java/lang/Object") 0 f) ∧ Sta s s.heap "java/util/ArrayList" "DEFAULTCAPACITY_EMPTY_ELEMENTDATA" "[Ljava/lang/Object;" (.ref dc) := by
  have h1 := Cond.before_iff.mp (hsets _ (List.mem_of_getElem? (i := 6) rfl))
  have h2 := Cond.before_iff.mp (hsets _ (List.mem_of_getElem? (i := 8) rfl))
  obtain ⟨v, e1, e2⟩ := own_len0 h2
  obtain ⟨cl, A⟩ := Arr.start e1 h1
  refine ⟨v, trivial, ⟨fun _ => .null, cl, A, ?_, fun j hj => absurd hj (Nat.not_lt_zero _)⟩, Sta.start e1 (Or.inr ⟨(hw _ (List.mem_of_getElem? (i := 23) rfl)), (hsets _ (List.mem_of_getElem? (i := 2) rfl))⟩)⟩
  exact e2 cl A.1
set_option maxRecDepth 65536 in
set_option maxHeartbeats 40000000 in
theorem comes_1 {Post : Tables → Env → Array Value → State → Outcome → State → Prop} (hpost : ∀ tb e args s v u, (limb_1_1.after args s (.returned v) u = true ∧ limb_1_2.after args s (.returned v) u = true ∧ True) → ReturnedEndW s (.returned v) u (Jvm.fieldLocs frame_1_writes args s ++ Jvm.arrayLocs frame_1_arrays args s ++ Jvm.staticLocs frame_1_statics s) 32 1152 → Post tb e args s (.returned v) u) :
    ArmFor flags0 classFile x code maxLocals ret World_1 tables_1 room_1 Calls_1 rest_1 Pre_1 Post := by
  intro l hfl _ _ p e ha hc hk s m args below hf hA hF happ hP
  obtain ⟨hcalls, hrest, hpre⟩ := hP
  obtain ⟨-, -, -, hnamed, -, -, -, hat⟩ := (Spec.applies_iff hf).mp happ
  obtain ⟨hg, hn⟩ := and_e (Cond.before_iff.mp (show (Jvm.Cond.and given_1 narrow_1).before args s = true from hpre))
  obtain ⟨g1, g2⟩ := and_e hg
  obtain ⟨g3, g4⟩ := and_e g2
  obtain ⟨g5, g6⟩ := and_e g4
  obtain ⟨w0, w1, w2, rfl⟩ : ∃ w0 w1 w2 : Value, args = #[w0, w1, w2] := by
    have hs : args.size = 3 := by simpa [Cond.value, given_1] using g1
    obtain ⟨L⟩ := args
    match L, hs with
    | [w0, w1, w2], _ => exact ⟨w0, w1, w2, rfl⟩
  have hw := fun d (hd : d ∈ tables_1) => atoms_spec (ws := Jvm.Cond.code x code maxLocals ret :: tables_1) hat d (List.mem_cons_of_mem _ hd)
  have hfit : Fit s := fun {y c} hc i hi => by
    obtain ⟨ha, rfl⟩ := Array.getElem?_eq_some_iff.mp hc
    have q := List.all_eq_true.mp ((Array.all_eq_true_iff_forall_mem.mp hF) _ (Array.getElem_mem ha)) i (List.mem_range.mpr hi)
    simpa [Array.getElem?_eq_getElem hi] using q
  obtain ⟨hsets, hown0⟩ := atoms_of _ (rest_1_c_eq ▸ (show rest_1_c.before _ s = true from hrest))
  have hr0 := Cond.before_iff.mp hown0
  obtain ⟨dc, -, AD, SD⟩ := own_dc hw hsets
  obtain ⟨i0, ei0⟩ := is_v g3
  obtain rfl : w0 = (.int i0) := Option.some.inj ei0
  obtain ⟨i1, ei1⟩ := is_v g5
  obtain rfl : w1 = (.int i1) := Option.some.inj ei1
  obtain ⟨i2, ei2⟩ := isL_v g6
  obtain rfl : w2 = (.long i2) := Option.some.inj ei2
  obtain ⟨n, o, h1, h2, h3, _, L, rfl, ⟨rfl, N⟩, hq⟩ := rm0 l s _ hw i0 i1 i2 dc s.heap s.heap.size (Nat.le_refl _) (Old.start s) SD AD p e ha hc hk s m _ below hf ((Spec.applies_iff_loose hf).mp happ).1 ⟨rfl, State.Warmed39.refl s, rfl⟩ trivial
  refine ⟨n, _, h1, h2, h3, hpost _ _ _ _ _ _ ⟨Cond.after_iff.mpr rfl, Cond.after_iff.mpr (eq_i res_at (Term.int_eval (1)) rfl), trivial⟩ ⟨hq.1, hq.2.1, hq.2.2.1, (hq.2.2.2.sift fun y hy => Or.inr (N y hy)).mono (by decide) (by decide)⟩⟩
theorem main_1_1 : Claimed_1_1 := comes_1 fun _ _ _ _ _ _ h hF => ⟨h.1, hF⟩
theorem main_1_2 : Claimed_1_2 := comes_1 fun _ _ _ _ _ _ h hF => ⟨h.2.1, hF⟩
end Jvm.Pilot.@@N@@
namespace Jvm.Pilot.@@N@@
open Jvm Jvm.ClassFile Sem Op Lib Jvm.Free Jvm.Stand Jvm.Pilot.@@N@@.Jvm.D
/-! MADE BY PROGRAM (witnessworld.py) out of the Statement's table words and the real class files: 29 classes; the members and pool entries that the words name. The judged class is class 1, her method 1. -/
namespace start1
open Jvm.ClassFile
def u (s : String) : CpInfo := .utf8 (stringToUtf16 s)
/-- a pool by its gaps: so many unusable entries, then the entry; so many at the end -/
def gap : Nat → List CpInfo → List CpInfo
  | 0, r => r
  | n + 1, r => .unusable :: gap n r
def poolList (es : List (Nat × CpInfo)) (last : Nat) : List CpInfo := es.foldr (fun e r => gap e.1 (e.2 :: r)) (gap last [])
def pool (es : List (Nat × CpInfo)) (last : Nat) : Array CpInfo := ⟨poolList es last⟩
def fileOf (pool : Array CpInfo) (this : Nat) (attrs : Array Attribute := #[]) (ms : Array MethodInfo := #[]) (fl : Nat := 33) (sup : Nat := 0) (ifs : Array Nat := #[]) (fds : Array FieldInfo := #[]) : ClassFile where
  minorVersion := 0
  majorVersion := 65
  constantPool := pool
  accessFlags := fl
  thisClass := this
  superClass := sup
  interfaces := ifs
  fields := fds
  methods := ms
  attributes := attrs
def plain (name : String) (sup : Option ClassId) : Class where
  name := name
  kind := .ordinary
  loader := none
  accessFlags := 33
  super := sup
  interfaces := #[]
  cf := none
  fields := #[]
  methods := #[]
  instanceTypes := #[]
  staticTypes := #[]
  resolved := #[]
  callSites := []
  init := .initialized
  statics := none
  mirror := none

def pool0 : Array CpInfo := pool [(5, u "<init>"), (0, u "()V"), (1, .class_ 10), (1, u "java/lang/Object")] 113

def k0c0 : Code := { maxStack := 0, maxLocals := 1, code := object_method_1_code, exceptionTable := #[], attributes := #[] }
def k0m0 : Method := { name := "<init>", desc := "()V", sig := { parameters := [], returnType := none }, accessFlags := 1, code := some k0c0 }
/-- java/lang/Object -/
def k0 : Class := { plain "java/lang/Object" none with
  accessFlags := 33
  interfaces := #[]
  cf := some (fileOf pool0 8 #[] #[{ accessFlags := 1, nameIndex := 5, descriptorIndex := 6, attributes := #[] }] 33 0 #[] #[])
  fields := #[]
  methods := #[k0m0]
  instanceTypes := #[]
  staticTypes := #[]
  resolved := Array.replicate 124 none
  statics := none }

def pool1 : Array CpInfo := pool [(2, .class_ 4), (0, .nameAndType 5 6), (0, u "java/lang/Object"), (0, u "<init>"), (0, u "()V"), (0, .integer 2147483647), (0, .class_ 9), (0, u "com/example/biomed_reranker/biomedreranker/Run$Entry"), (0, .methodref 8 11), (0, .nameAndType 5 12), (0, u "(Lcom/example/biomed_reranker/biomedreranker/RunLine;J)V"), (0, .long 2), (1, .long 3), (1, .class_ 18), (0, u "java/util/ArrayList"), (0, .methodref 17 3), (0, .interfaceMethodref 21 22), (0, .class_ 23), (0, .nameAndType 24 25), (0, u "java/util/List"), (0, u "add"), (0, u "(Ljava/lang/Object;)Z"), (0, .class_ 27), (0, u "com/example/biomed_reranker/biomedreranker/Run$Topic"), (0, .string 29), (0, u "t"), (0, .methodref 26 31), (0, .nameAndType 5 32), (0, u "(Ljava/lang/String;Ljava/util/List;)V"), (0, .methodref 26 34), (0, .nameAndType 35 36), (0, u "top"), (0, u "(I)Ljava/util/List;"), (0, .methodref 38 39), (0, .class_ 40), (0, .nameAndType 41 42), (0, u "java/lang/Math"), (0, u "min"), (0, u "(II)I"), (0, .interfaceMethodref 21 44), (0, .nameAndType 45 46), (0, u "size"), (0, u "()I"), (0, .interfaceMethodref 21 48), (0, .nameAndType 49 50), (0, u "get"), (0, u "(I)Ljava/lang/Object;"), (0, .class_ 52), (0, u "com/example/biomed_reranker/biomedreranker/TopicTopPinLaw"), (2, u "law"), (0, u "(IIJ)Z")] 8

def k1m0 : Method := { name := "<init>", desc := "()V", sig := { parameters := [], returnType := none }, accessFlags := 1, code := none }
def k1c1 : Code := { maxStack := 7, maxLocals := 14, code := code, exceptionTable := #[], attributes := #[] }
def k1m1 : Method := { name := "law", desc := "(IIJ)Z", sig := { parameters := [.int, .int, .long], returnType := some .boolean }, accessFlags := 9, code := some k1c1 }
/-- com/example/biomed_reranker/biomedreranker/TopicTopPinLaw -/
def k1 : Class := { plain "com/example/biomed_reranker/biomedreranker/TopicTopPinLaw" (some 0) with
  accessFlags := 49
  interfaces := #[]
  cf := some (fileOf pool1 51 #[] #[{ accessFlags := 1, nameIndex := 5, descriptorIndex := 6, attributes := #[] }, { accessFlags := 9, nameIndex := 55, descriptorIndex := 56, attributes := #[] }] 49 2 #[] #[])
  fields := #[]
  methods := #[k1m0, k1m1]
  instanceTypes := #[]
  staticTypes := #[]
  resolved := Array.replicate 65 none
  statics := none }

def pool2 : Array CpInfo := pool [(1, .methodref 2 3), (0, .class_ 4), (0, .nameAndType 5 6), (0, u "java/lang/Object"), (0, u "<init>"), (0, u "()V"), (0, .class_ 8), (0, u "java/lang/Record")] 13

def k2c0 : Code := { maxStack := 1, maxLocals := 1, code := jdk_30_method_1_code, exceptionTable := #[], attributes := #[] }
def k2m0 : Method := { name := "<init>", desc := "()V", sig := { parameters := [], returnType := none }, accessFlags := 4, code := some k2c0 }
/-- java/lang/Record -/
def k2 : Class := { plain "java/lang/Record" (some 0) with
  accessFlags := 1057
  interfaces := #[]
  cf := some (fileOf pool2 7 #[] #[{ accessFlags := 4, nameIndex := 5, descriptorIndex := 6, attributes := #[] }] 1057 2 #[] #[])
  fields := #[]
  methods := #[k2m0]
  instanceTypes := #[]
  staticTypes := #[]
  resolved := Array.replicate 22 none
  statics := none }

def pool3 : Array CpInfo := pool [(1, .methodref 2 3), (0, .class_ 4), (0, .nameAndType 5 6), (0, u "java/lang/Record"), (0, u "<init>"), (0, u "()V"), (0, .fieldref 8 9), (0, .class_ 10), (0, .nameAndType 11 12), (0, u "com/example/biomed_reranker/biomedreranker/Run$Entry"), (0, u "line"), (0, u "Lcom/example/biomed_reranker/biomedreranker/RunLine;"), (0, .fieldref 8 14), (0, .nameAndType 15 16), (0, u "lineNumber"), (0, u "J"), (12, u "(Lcom/example/biomed_reranker/biomedreranker/RunLine;J)V"), (11, .class_ 42), (0, u "com/example/biomed_reranker/biomedreranker/Run")] 20

def k3c0 : Code := { maxStack := 3, maxLocals := 4, code := prog_18_method_1_code, exceptionTable := #[], attributes := #[] }
def k3m0 : Method := { name := "<init>", desc := "(Lcom/example/biomed_reranker/biomedreranker/RunLine;J)V", sig := { parameters := [(.object "com/example/biomed_reranker/biomedreranker/RunLine"), .long], returnType := none }, accessFlags := 1, code := some k3c0 }
/-- com/example/biomed_reranker/biomedreranker/Run$Entry -/
def k3 : Class := { plain "com/example/biomed_reranker/biomedreranker/Run$Entry" (some 2) with
  accessFlags := 49
  interfaces := #[]
  cf := some (fileOf pool3 8 #[.nestHost 41] #[{ accessFlags := 1, nameIndex := 5, descriptorIndex := 29, attributes := #[] }] 49 2 #[] #[{ accessFlags := 18, nameIndex := 11, descriptorIndex := 12, attributes := #[] }, { accessFlags := 18, nameIndex := 15, descriptorIndex := 16, attributes := #[] }])
  fields := #[{ name := "line", type := (.object "com/example/biomed_reranker/biomedreranker/RunLine"), accessFlags := 18, slot := 0, constantValue := 0 }, { name := "lineNumber", type := .long, accessFlags := 18, slot := 1, constantValue := 0 }]
  methods := #[k3m0]
  instanceTypes := #[(.object "com/example/biomed_reranker/biomedreranker/RunLine"), .long]
  staticTypes := #[]
  resolved := Array.replicate 63 none
  statics := none }

def pool4 : Array CpInfo := pool [(8, .class_ 10), (1, u "java/lang/Iterable"), (24, .class_ 36), (0, u "java/lang/Object")] 25

/-- java/lang/Iterable -/
def k4 : Class := { plain "java/lang/Iterable" (some 0) with
  accessFlags := 1537
  interfaces := #[]
  cf := some (fileOf pool4 8 #[] #[] 1537 35 #[] #[])
  fields := #[]
  methods := #[]
  instanceTypes := #[]
  staticTypes := #[]
  resolved := Array.replicate 62 none
  statics := none }

def pool5 : Array CpInfo := pool [(10, .class_ 12), (1, u "java/util/Collection"), (47, .class_ 61), (0, u "java/lang/Object"), (0, .class_ 63), (0, u "java/lang/Iterable")] 51

/-- java/util/Collection -/
def k5 : Class := { plain "java/util/Collection" (some 0) with
  accessFlags := 1537
  interfaces := #[4]
  cf := some (fileOf pool5 10 #[] #[] 1537 60 #[62] #[])
  fields := #[]
  methods := #[]
  instanceTypes := #[]
  staticTypes := #[]
  resolved := Array.replicate 115 none
  statics := none }

def pool6 : Array CpInfo := pool [(1, .methodref 2 3), (0, .class_ 4), (0, .nameAndType 5 6), (0, u "java/lang/Object"), (0, u "<init>"), (0, u "()V"), (1, .class_ 10), (1, u "java/util/AbstractCollection"), (66, .class_ 78), (0, u "java/util/Collection")] 81

def k6c0 : Code := { maxStack := 1, maxLocals := 1, code := jdk_22_method_1_code, exceptionTable := #[], attributes := #[] }
def k6m0 : Method := { name := "<init>", desc := "()V", sig := { parameters := [], returnType := none }, accessFlags := 4, code := some k6c0 }
/-- java/util/AbstractCollection -/
def k6 : Class := { plain "java/util/AbstractCollection" (some 0) with
  accessFlags := 1057
  interfaces := #[5]
  cf := some (fileOf pool6 8 #[] #[{ accessFlags := 4, nameIndex := 5, descriptorIndex := 6, attributes := #[] }] 1057 2 #[77] #[])
  fields := #[]
  methods := #[k6m0]
  instanceTypes := #[]
  staticTypes := #[]
  resolved := Array.replicate 160 none
  statics := none }

def pool7 : Array CpInfo := pool [(8, .class_ 10), (1, u "java/util/SequencedCollection"), (15, .class_ 27), (0, u "java/lang/Object"), (0, .class_ 29), (0, u "java/util/Collection")] 27

/-- java/util/SequencedCollection -/
def k7 : Class := { plain "java/util/SequencedCollection" (some 0) with
  accessFlags := 1537
  interfaces := #[5]
  cf := some (fileOf pool7 8 #[] #[] 1537 26 #[28] #[])
  fields := #[]
  methods := #[]
  instanceTypes := #[]
  staticTypes := #[]
  resolved := Array.replicate 57 none
  statics := none }

def pool8 : Array CpInfo := pool [(8, .class_ 10), (1, u "java/util/List"), (49, u "add"), (3, u "(Ljava/lang/Object;)Z"), (10, u "get"), (0, u "(I)Ljava/lang/Object;"), (2, u "size"), (0, u "()I"), (22, .class_ 104), (0, u "java/lang/Object"), (15, .class_ 121), (0, u "java/util/SequencedCollection"), (60, u "subList"), (0, u "(II)Ljava/util/List;")] 67

def k8m0 : Method := { name := "size", desc := "()I", sig := { parameters := [], returnType := some .int }, accessFlags := 1025, code := none }
def k8m1 : Method := { name := "add", desc := "(Ljava/lang/Object;)Z", sig := { parameters := [(.object "java/lang/Object")], returnType := some .boolean }, accessFlags := 1025, code := none }
def k8m2 : Method := { name := "get", desc := "(I)Ljava/lang/Object;", sig := { parameters := [.int], returnType := some (.object "java/lang/Object") }, accessFlags := 1025, code := none }
def k8m3 : Method := { name := "subList", desc := "(II)Ljava/util/List;", sig := { parameters := [.int, .int], returnType := some (.object "java/util/List") }, accessFlags := 1025, code := none }
/-- java/util/List -/
def k8 : Class := { plain "java/util/List" (some 0) with
  accessFlags := 1537
  interfaces := #[7]
  cf := some (fileOf pool8 8 #[] #[{ accessFlags := 1025, nameIndex := 79, descriptorIndex := 80, attributes := #[] }, { accessFlags := 1025, nameIndex := 60, descriptorIndex := 64, attributes := #[] }, { accessFlags := 1025, nameIndex := 75, descriptorIndex := 76, attributes := #[] }, { accessFlags := 1025, nameIndex := 182, descriptorIndex := 183, attributes := #[] }] 1537 103 #[120] #[])
  fields := #[]
  methods := #[k8m0, k8m1, k8m2, k8m3]
  instanceTypes := #[]
  staticTypes := #[]
  resolved := Array.replicate 251 none
  statics := none }

def pool9 : Array CpInfo := pool [(1, .methodref 2 3), (0, .class_ 4), (0, .nameAndType 5 6), (0, u "java/util/AbstractCollection"), (0, u "<init>"), (0, u "()V"), (0, .fieldref 8 9), (0, .class_ 10), (0, .nameAndType 11 12), (0, u "java/util/AbstractList"), (0, u "modCount"), (0, u "I"), (64, .class_ 78), (0, u "java/util/AbstractList$Itr"), (3, .class_ 83), (0, u "java/util/AbstractList$ListItr"), (5, u "subListRangeCheck"), (0, u "(III)V"), (2, .class_ 94), (0, u "java/util/AbstractList$RandomAccessSubList"), (3, .class_ 99), (0, u "java/util/AbstractList$SubList"), (33, .class_ 134), (0, u "java/util/List"), (73, .class_ 209), (0, u "java/util/AbstractList$SubList$1"), (0, .class_ 211), (0, u "java/util/AbstractList$RandomAccessSpliterator")] 6

def k9c0 : Code := { maxStack := 2, maxLocals := 1, code := jdk_39_method_1_code, exceptionTable := #[], attributes := #[] }
def k9m0 : Method := { name := "<init>", desc := "()V", sig := { parameters := [], returnType := none }, accessFlags := 4, code := some k9c0 }
def k9c1 : Code := { maxStack := 4, maxLocals := 3, code := jdk_39_method_15_code, exceptionTable := #[], attributes := #[] }
def k9m1 : Method := { name := "subListRangeCheck", desc := "(III)V", sig := { parameters := [.int, .int, .int], returnType := none }, accessFlags := 8, code := some k9c1 }
/-- java/util/AbstractList -/
def k9 : Class := { plain "java/util/AbstractList" (some 6) with
  accessFlags := 1057
  interfaces := #[8]
  cf := some (fileOf pool9 8 #[.nestMembers #[93, 98, 208, 210, 82, 77]] #[{ accessFlags := 4, nameIndex := 5, descriptorIndex := 6, attributes := #[] }, { accessFlags := 8, nameIndex := 89, descriptorIndex := 90, attributes := #[] }] 1057 2 #[133] #[{ accessFlags := 132, nameIndex := 11, descriptorIndex := 12, attributes := #[] }])
  fields := #[{ name := "modCount", type := .int, accessFlags := 132, slot := 0, constantValue := 0 }]
  methods := #[k9m0, k9m1]
  instanceTypes := #[.int]
  staticTypes := #[]
  resolved := Array.replicate 218 none
  statics := none }

def pool10 : Array CpInfo := pool [(1, .class_ 2), (0, u "java/util/RandomAccess"), (0, .class_ 4), (0, u "java/lang/Object")] 2

/-- java/util/RandomAccess -/
def k10 : Class := { plain "java/util/RandomAccess" (some 0) with
  accessFlags := 1537
  interfaces := #[]
  cf := some (fileOf pool10 1 #[] #[] 1537 3 #[] #[])
  fields := #[]
  methods := #[]
  instanceTypes := #[]
  staticTypes := #[]
  resolved := Array.replicate 7 none
  statics := none }

def pool11 : Array CpInfo := pool [(1, .class_ 2), (0, u "java/lang/Cloneable"), (0, .class_ 4), (0, u "java/lang/Object")] 2

/-- java/lang/Cloneable -/
def k11 : Class := { plain "java/lang/Cloneable" (some 0) with
  accessFlags := 1537
  interfaces := #[]
  cf := some (fileOf pool11 1 #[] #[] 1537 3 #[] #[])
  fields := #[]
  methods := #[]
  instanceTypes := #[]
  staticTypes := #[]
  resolved := Array.replicate 7 none
  statics := none }

def pool12 : Array CpInfo := pool [(1, .class_ 2), (0, u "java/io/Serializable"), (0, .class_ 4), (0, u "java/lang/Object")] 2

/-- java/io/Serializable -/
def k12 : Class := { plain "java/io/Serializable" (some 0) with
  accessFlags := 1537
  interfaces := #[]
  cf := some (fileOf pool12 1 #[] #[] 1537 3 #[] #[])
  fields := #[]
  methods := #[]
  instanceTypes := #[]
  staticTypes := #[]
  resolved := Array.replicate 7 none
  statics := none }

def pool13 : Array CpInfo := pool [(1, .methodref 2 3), (0, .class_ 4), (0, .nameAndType 5 6), (0, u "java/util/AbstractList"), (0, u "<init>"), (0, u "()V"), (0, .class_ 8), (0, u "java/lang/Object"), (0, .fieldref 10 11), (0, .class_ 12), (0, .nameAndType 13 14), (0, u "java/util/ArrayList"), (0, u "elementData"), (0, u "[Ljava/lang/Object;"), (2, u "EMPTY_ELEMENTDATA"), (21, .fieldref 10 40), (0, .nameAndType 41 14), (0, u "DEFAULTCAPACITY_EMPTY_ELEMENTDATA"), (5, u "()[Ljava/lang/Object;"), (0, .fieldref 10 49), (0, .nameAndType 50 51), (0, u "size"), (0, u "I"), (11, .fieldref 10 64), (0, .nameAndType 65 51), (0, u "modCount"), (3, .methodref 10 70), (0, .nameAndType 71 72), (0, u "grow"), (0, u "(I)[Ljava/lang/Object;"), (6, .methodref 80 81), (0, .class_ 82), (0, .nameAndType 83 84), (0, u "java/lang/Math"), (0, u "max"), (0, u "(II)I"), (11, u "(Ljava/lang/Object;)Z"), (28, u "(I)Ljava/lang/Object;"), (3, .methodref 10 130), (0, .nameAndType 71 47), (0, .methodref 10 132), (0, .nameAndType 133 134), (0, u "add"), (0, u "(Ljava/lang/Object;[Ljava/lang/Object;I)V"), (13, .class_ 149), (0, u "java/util/List"), (36, u "()I"), (75, .class_ 263), (0, u "java/util/ArrayList$ListItr"), (3, .class_ 268), (0, u "java/util/ArrayList$Itr"), (3, .methodref 10 273), (0, .nameAndType 274 275), (0, u "subListRangeCheck"), (0, u "(III)V"), (0, .class_ 277), (0, u "java/util/ArrayList$SubList"), (0, .methodref 276 279), (0, .nameAndType 5 280), (0, u "(Ljava/util/ArrayList;II)V"), (9, .class_ 291), (0, u "java/util/ArrayList$ArrayListSpliterator"), (37, .class_ 330), (0, u "java/util/RandomAccess"), (0, .class_ 332), (0, u "java/lang/Cloneable"), (0, .class_ 334), (0, u "java/io/Serializable"), (0, u "serialVersionUID"), (0, u "J"), (3, u "DEFAULT_CAPACITY"), (118, u "subList"), (0, u "(II)Ljava/util/List;"), (39, .class_ 501), (0, u "java/util/ArrayList$SubList$2"), (0, .class_ 503), (0, u "java/util/ArrayList$SubList$1")] 5

def k13c0 : Code := { maxStack := 2, maxLocals := 1, code := jdk_38_method_2_code, exceptionTable := #[], attributes := #[] }
def k13m0 : Method := { name := "<init>", desc := "()V", sig := { parameters := [], returnType := none }, accessFlags := 1, code := some k13c0 }
def k13c1 : Code := { maxStack := 4, maxLocals := 4, code := jdk_38_method_6_code, exceptionTable := #[], attributes := #[] }
def k13m1 : Method := { name := "grow", desc := "(I)[Ljava/lang/Object;", sig := { parameters := [.int], returnType := some (.array (.object "java/lang/Object")) }, accessFlags := 2, code := some k13c1 }
def k13c2 : Code := { maxStack := 3, maxLocals := 1, code := jdk_38_method_7_code, exceptionTable := #[], attributes := #[] }
def k13m2 : Method := { name := "grow", desc := "()[Ljava/lang/Object;", sig := { parameters := [], returnType := some (.array (.object "java/lang/Object")) }, accessFlags := 2, code := some k13c2 }
def k13c3 : Code := { maxStack := 1, maxLocals := 1, code := jdk_38_method_8_code, exceptionTable := #[], attributes := #[] }
def k13m3 : Method := { name := "size", desc := "()I", sig := { parameters := [], returnType := some .int }, accessFlags := 1, code := some k13c3 }
def k13c4 : Code := { maxStack := 2, maxLocals := 2, code := jdk_38_method_18_code, exceptionTable := #[], attributes := #[] }
def k13m4 : Method := { name := "elementData", desc := "(I)Ljava/lang/Object;", sig := { parameters := [.int], returnType := some (.object "java/lang/Object") }, accessFlags := 0, code := some k13c4 }
def k13c5 : Code := { maxStack := 3, maxLocals := 4, code := jdk_38_method_24_code, exceptionTable := #[], attributes := #[] }
def k13m5 : Method := { name := "add", desc := "(Ljava/lang/Object;[Ljava/lang/Object;I)V", sig := { parameters := [(.object "java/lang/Object"), (.array (.object "java/lang/Object")), .int], returnType := none }, accessFlags := 2, code := some k13c5 }
def k13c6 : Code := { maxStack := 4, maxLocals := 2, code := jdk_38_method_25_code, exceptionTable := #[], attributes := #[] }
def k13m6 : Method := { name := "add", desc := "(Ljava/lang/Object;)Z", sig := { parameters := [(.object "java/lang/Object")], returnType := some .boolean }, accessFlags := 1, code := some k13c6 }
def k13c7 : Code := { maxStack := 5, maxLocals := 3, code := jdk_38_method_56_code, exceptionTable := #[], attributes := #[] }
def k13m7 : Method := { name := "subList", desc := "(II)Ljava/util/List;", sig := { parameters := [.int, .int], returnType := some (.object "java/util/List") }, accessFlags := 1, code := some k13c7 }
/-- java/util/ArrayList -/
def k13 : Class := { plain "java/util/ArrayList" (some 9) with
  accessFlags := 33
  interfaces := #[8, 10, 11, 12]
  cf := some (fileOf pool13 10 #[.nestMembers #[290, 276, 500, 502, 262, 267]] #[{ accessFlags := 1, nameIndex := 5, descriptorIndex := 6, attributes := #[] }, { accessFlags := 2, nameIndex := 71, descriptorIndex := 72, attributes := #[] }, { accessFlags := 2, nameIndex := 71, descriptorIndex := 47, attributes := #[] }, { accessFlags := 1, nameIndex := 50, descriptorIndex := 186, attributes := #[] }, { accessFlags := 0, nameIndex := 13, descriptorIndex := 125, attributes := #[] }, { accessFlags := 2, nameIndex := 133, descriptorIndex := 134, attributes := #[] }, { accessFlags := 1, nameIndex := 133, descriptorIndex := 96, attributes := #[] }, { accessFlags := 1, nameIndex := 459, descriptorIndex := 460, attributes := #[] }] 33 2 #[148, 329, 331, 333] #[{ accessFlags := 26, nameIndex := 335, descriptorIndex := 336, attributes := #[] }, { accessFlags := 26, nameIndex := 340, descriptorIndex := 51, attributes := #[] }, { accessFlags := 26, nameIndex := 17, descriptorIndex := 14, attributes := #[] }, { accessFlags := 26, nameIndex := 41, descriptorIndex := 14, attributes := #[] }, { accessFlags := 128, nameIndex := 13, descriptorIndex := 14, attributes := #[] }, { accessFlags := 2, nameIndex := 50, descriptorIndex := 51, attributes := #[] }])
  fields := #[{ name := "serialVersionUID", type := .long, accessFlags := 26, slot := 0, constantValue := 0 }, { name := "DEFAULT_CAPACITY", type := .int, accessFlags := 26, slot := 1, constantValue := 0 }, { name := "EMPTY_ELEMENTDATA", type := (.array (.object "java/lang/Object")), accessFlags := 26, slot := 2, constantValue := 0 }, { name := "DEFAULTCAPACITY_EMPTY_ELEMENTDATA", type := (.array (.object "java/lang/Object")), accessFlags := 26, slot := 3, constantValue := 0 }, { name := "elementData", type := (.array (.object "java/lang/Object")), accessFlags := 128, slot := 1, constantValue := 0 }, { name := "size", type := .int, accessFlags := 2, slot := 2, constantValue := 0 }]
  methods := #[k13m0, k13m1, k13m2, k13m3, k13m4, k13m5, k13m6, k13m7]
  instanceTypes := #[.int, (.array (.object "java/lang/Object")), .int]
  staticTypes := #[.long, .int, (.array (.object "java/lang/Object")), (.array (.object "java/lang/Object"))]
  resolved := Array.replicate 509 none
  statics := some 0 }

def pool14 : Array CpInfo := pool [(1, .class_ 2), (0, u "java/lang/Math"), (1, .class_ 6), (1, u "java/lang/Object"), (0, u "<init>"), (0, u "()V"), (89, .class_ 100), (1, u "java/lang/Math$RandomNumberGeneratorHolder"), (71, u "negativeZeroFloatBits"), (0, u "J"), (2, u "negativeZeroDoubleBits"), (21, u "max"), (2, u "min"), (43, u "$assertionsDisabled"), (0, u "Z"), (88, u "(II)I"), (2, u "twoToTheDoubleScaleDown"), (0, u "D"), (4, u "twoToTheDoubleScaleUp"), (9, u "E"), (3, u "PI"), (2, u "TAU"), (2, u "DEGREES_TO_RADIANS"), (0, u "RADIANS_TO_DEGREES")] 94

def k14m0 : Method := { name := "<init>", desc := "()V", sig := { parameters := [], returnType := none }, accessFlags := 2, code := none }
def k14c1 : Code := { maxStack := 2, maxLocals := 2, code := jdk_29_method_65_code, exceptionTable := #[], attributes := #[] }
def k14m1 : Method := { name := "max", desc := "(II)I", sig := { parameters := [.int, .int], returnType := some .int }, accessFlags := 9, code := some k14c1 }
def k14c2 : Code := { maxStack := 2, maxLocals := 2, code := jdk_29_method_69_code, exceptionTable := #[], attributes := #[] }
def k14m2 : Method := { name := "min", desc := "(II)I", sig := { parameters := [.int, .int], returnType := some .int }, accessFlags := 9, code := some k14c2 }
/-- java/lang/Math -/
def k14 : Class := { plain "java/lang/Math" (some 0) with
  accessFlags := 49
  interfaces := #[]
  cf := some (fileOf pool14 1 #[.nestMembers #[98]] #[{ accessFlags := 2, nameIndex := 7, descriptorIndex := 8, attributes := #[] }, { accessFlags := 9, nameIndex := 198, descriptorIndex := 335, attributes := #[] }, { accessFlags := 9, nameIndex := 201, descriptorIndex := 335, attributes := #[] }] 49 4 #[] #[{ accessFlags := 25, nameIndex := 354, descriptorIndex := 339, attributes := #[] }, { accessFlags := 25, nameIndex := 358, descriptorIndex := 339, attributes := #[] }, { accessFlags := 25, nameIndex := 361, descriptorIndex := 339, attributes := #[] }, { accessFlags := 26, nameIndex := 364, descriptorIndex := 339, attributes := #[] }, { accessFlags := 26, nameIndex := 365, descriptorIndex := 339, attributes := #[] }, { accessFlags := 26, nameIndex := 172, descriptorIndex := 173, attributes := #[] }, { accessFlags := 26, nameIndex := 176, descriptorIndex := 173, attributes := #[] }, { accessFlags := 8, nameIndex := 344, descriptorIndex := 339, attributes := #[] }, { accessFlags := 8, nameIndex := 338, descriptorIndex := 339, attributes := #[] }, { accessFlags := 4120, nameIndex := 245, descriptorIndex := 246, attributes := #[] }])
  fields := #[{ name := "E", type := .double, accessFlags := 25, slot := 0, constantValue := 0 }, { name := "PI", type := .double, accessFlags := 25, slot := 1, constantValue := 0 }, { name := "TAU", type := .double, accessFlags := 25, slot := 2, constantValue := 0 }, { name := "DEGREES_TO_RADIANS", type := .double, accessFlags := 26, slot := 3, constantValue := 0 }, { name := "RADIANS_TO_DEGREES", type := .double, accessFlags := 26, slot := 4, constantValue := 0 }, { name := "negativeZeroFloatBits", type := .long, accessFlags := 26, slot := 5, constantValue := 0 }, { name := "negativeZeroDoubleBits", type := .long, accessFlags := 26, slot := 6, constantValue := 0 }, { name := "twoToTheDoubleScaleUp", type := .double, accessFlags := 8, slot := 7, constantValue := 0 }, { name := "twoToTheDoubleScaleDown", type := .double, accessFlags := 8, slot := 8, constantValue := 0 }, { name := "$assertionsDisabled", type := .boolean, accessFlags := 4120, slot := 9, constantValue := 0 }]
  methods := #[k14m0, k14m1, k14m2]
  instanceTypes := #[]
  staticTypes := #[.double, .double, .double, .double, .double, .long, .long, .double, .double, .boolean]
  resolved := Array.replicate 460 none
  statics := none }

def pool15 : Array CpInfo := pool [(1, .methodref 2 3), (0, .class_ 4), (0, .nameAndType 5 6), (0, u "java/lang/Record"), (0, u "<init>"), (0, u "()V"), (0, .fieldref 8 9), (0, .class_ 10), (0, .nameAndType 11 12), (0, u "com/example/biomed_reranker/biomedreranker/Run$Topic"), (0, u "id"), (0, u "Ljava/lang/String;"), (0, .fieldref 8 14), (0, .nameAndType 15 16), (0, u "entries"), (0, u "Ljava/util/List;"), (0, .interfaceMethodref 18 19), (0, .class_ 20), (0, .nameAndType 21 22), (0, u "java/util/List"), (0, u "size"), (0, u "()I"), (0, .methodref 24 25), (0, .class_ 26), (0, .nameAndType 27 28), (0, u "java/lang/Math"), (0, u "min"), (0, u "(II)I"), (0, .interfaceMethodref 18 30), (0, .nameAndType 31 32), (0, u "subList"), (0, u "(II)Ljava/util/List;"), (14, u "(Ljava/lang/String;Ljava/util/List;)V"), (4, u "top"), (0, u "(I)Ljava/util/List;"), (8, .class_ 63), (0, u "com/example/biomed_reranker/biomedreranker/Run")] 23

def k15c0 : Code := { maxStack := 2, maxLocals := 3, code := prog_19_method_1_code, exceptionTable := #[], attributes := #[] }
def k15m0 : Method := { name := "<init>", desc := "(Ljava/lang/String;Ljava/util/List;)V", sig := { parameters := [(.object "java/lang/String"), (.object "java/util/List")], returnType := none }, accessFlags := 1, code := some k15c0 }
def k15c1 : Code := { maxStack := 4, maxLocals := 2, code := prog_19_method_2_code, exceptionTable := #[], attributes := #[] }
def k15m1 : Method := { name := "top", desc := "(I)Ljava/util/List;", sig := { parameters := [.int], returnType := some (.object "java/util/List") }, accessFlags := 1, code := some k15c1 }
/-- com/example/biomed_reranker/biomedreranker/Run$Topic -/
def k15 : Class := { plain "com/example/biomed_reranker/biomedreranker/Run$Topic" (some 2) with
  accessFlags := 49
  interfaces := #[]
  cf := some (fileOf pool15 8 #[.nestHost 62] #[{ accessFlags := 1, nameIndex := 5, descriptorIndex := 47, attributes := #[] }, { accessFlags := 1, nameIndex := 52, descriptorIndex := 53, attributes := #[] }] 49 2 #[] #[{ accessFlags := 18, nameIndex := 11, descriptorIndex := 12, attributes := #[] }, { accessFlags := 18, nameIndex := 15, descriptorIndex := 16, attributes := #[] }])
  fields := #[{ name := "id", type := (.object "java/lang/String"), accessFlags := 18, slot := 0, constantValue := 0 }, { name := "entries", type := (.object "java/util/List"), accessFlags := 18, slot := 1, constantValue := 0 }]
  methods := #[k15m0, k15m1]
  instanceTypes := #[(.object "java/lang/String"), (.object "java/util/List")]
  staticTypes := #[]
  resolved := Array.replicate 87 none
  statics := none }

def pool16 : Array CpInfo := pool [(1, .class_ 2), (0, u "java/lang/Comparable"), (0, .class_ 4), (0, u "java/lang/Object")] 7

/-- java/lang/Comparable -/
def k16 : Class := { plain "java/lang/Comparable" (some 0) with
  accessFlags := 1537
  interfaces := #[]
  cf := some (fileOf pool16 1 #[] #[] 1537 3 #[] #[])
  fields := #[]
  methods := #[]
  instanceTypes := #[]
  staticTypes := #[]
  resolved := Array.replicate 12 none
  statics := none }

def pool17 : Array CpInfo := pool [(2, .class_ 4), (1, u "java/lang/CharSequence"), (42, .class_ 48), (0, u "java/lang/CharSequence$1CodePointIterator"), (10, .class_ 60), (0, u "java/lang/CharSequence$1CharIterator"), (5, .class_ 67), (0, u "java/lang/Object")] 63

/-- java/lang/CharSequence -/
def k17 : Class := { plain "java/lang/CharSequence" (some 0) with
  accessFlags := 1537
  interfaces := #[]
  cf := some (fileOf pool17 2 #[.nestMembers #[47, 59]] #[] 1537 66 #[] #[])
  fields := #[]
  methods := #[]
  instanceTypes := #[]
  staticTypes := #[]
  resolved := Array.replicate 131 none
  statics := none }

def pool18 : Array CpInfo := pool [(1, .class_ 2), (0, u "java/lang/constant/Constable"), (0, .class_ 4), (0, u "java/lang/Object")] 6

/-- java/lang/constant/Constable -/
def k18 : Class := { plain "java/lang/constant/Constable" (some 0) with
  accessFlags := 1537
  interfaces := #[]
  cf := some (fileOf pool18 1 #[] #[] 1537 3 #[] #[])
  fields := #[]
  methods := #[]
  instanceTypes := #[]
  staticTypes := #[]
  resolved := Array.replicate 11 none
  statics := none }

def pool19 : Array CpInfo := pool [(1, .class_ 2), (0, u "java/lang/constant/ConstantDesc"), (0, .class_ 4), (0, u "java/lang/Object")] 32

/-- java/lang/constant/ConstantDesc -/
def k19 : Class := { plain "java/lang/constant/ConstantDesc" (some 0) with
  accessFlags := 1537
  interfaces := #[]
  cf := some (fileOf pool19 1 #[] #[] 1537 3 #[] #[])
  fields := #[]
  methods := #[]
  instanceTypes := #[]
  staticTypes := #[]
  resolved := Array.replicate 37 none
  statics := none }

def pool20 : Array CpInfo := pool [(2, .class_ 4), (1, u "java/lang/Object"), (0, u "<init>"), (0, u "()V"), (3, .class_ 12), (1, u "java/lang/String"), (0, u "value"), (0, u "[B"), (2, u "coder"), (0, u "B"), (2, u "hash"), (0, u "I"), (2, u "hashIsZero"), (0, u "Z"), (13, u "COMPACT_STRINGS"), (534, .class_ 576), (0, u "java/lang/CharSequence"), (22, u "CASE_INSENSITIVE_ORDER"), (0, u "Ljava/util/Comparator;"), (500, u "serialPersistentFields"), (0, u "[Ljava/io/ObjectStreamField;"), (0, .class_ 1104), (0, u "java/lang/String$CaseInsensitiveComparator"), (1, .class_ 1107), (0, u "java/io/Serializable"), (0, .class_ 1109), (0, u "java/lang/Comparable"), (0, .class_ 1111), (0, u "java/lang/constant/Constable"), (0, .class_ 1113), (0, u "java/lang/constant/ConstantDesc"), (2, u "serialVersionUID"), (0, u "J"), (3, u "REPL"), (0, u "C"), (2, u "LATIN1"), (1, u "UTF16")] 323

def k20m0 : Method := { name := "<init>", desc := "()V", sig := { parameters := [], returnType := none }, accessFlags := 1, code := none }
/-- java/lang/String -/
def k20 : Class := { plain "java/lang/String" (some 0) with
  accessFlags := 49
  interfaces := #[12, 16, 17, 18, 19]
  cf := some (fileOf pool20 10 #[.nestMembers #[1103]] #[{ accessFlags := 1, nameIndex := 5, descriptorIndex := 6, attributes := #[] }] 49 2 #[1106, 1108, 575, 1110, 1112] #[{ accessFlags := 18, nameIndex := 13, descriptorIndex := 14, attributes := #[] }, { accessFlags := 18, nameIndex := 17, descriptorIndex := 18, attributes := #[] }, { accessFlags := 2, nameIndex := 21, descriptorIndex := 22, attributes := #[] }, { accessFlags := 2, nameIndex := 25, descriptorIndex := 26, attributes := #[] }, { accessFlags := 26, nameIndex := 1116, descriptorIndex := 1117, attributes := #[] }, { accessFlags := 24, nameIndex := 40, descriptorIndex := 26, attributes := #[] }, { accessFlags := 26, nameIndex := 1101, descriptorIndex := 1102, attributes := #[] }, { accessFlags := 26, nameIndex := 1121, descriptorIndex := 1122, attributes := #[] }, { accessFlags := 25, nameIndex := 599, descriptorIndex := 600, attributes := #[] }, { accessFlags := 24, nameIndex := 1125, descriptorIndex := 18, attributes := #[] }, { accessFlags := 24, nameIndex := 1127, descriptorIndex := 18, attributes := #[] }])
  fields := #[{ name := "value", type := (.array .byte), accessFlags := 18, slot := 0, constantValue := 0 }, { name := "coder", type := .byte, accessFlags := 18, slot := 1, constantValue := 0 }, { name := "hash", type := .int, accessFlags := 2, slot := 2, constantValue := 0 }, { name := "hashIsZero", type := .boolean, accessFlags := 2, slot := 3, constantValue := 0 }, { name := "serialVersionUID", type := .long, accessFlags := 26, slot := 0, constantValue := 0 }, { name := "COMPACT_STRINGS", type := .boolean, accessFlags := 24, slot := 1, constantValue := 0 }, { name := "serialPersistentFields", type := (.array (.object "java/io/ObjectStreamField")), accessFlags := 26, slot := 2, constantValue := 0 }, { name := "REPL", type := .char, accessFlags := 26, slot := 3, constantValue := 0 }, { name := "CASE_INSENSITIVE_ORDER", type := (.object "java/util/Comparator"), accessFlags := 25, slot := 4, constantValue := 0 }, { name := "LATIN1", type := .byte, accessFlags := 24, slot := 5, constantValue := 0 }, { name := "UTF16", type := .byte, accessFlags := 24, slot := 6, constantValue := 0 }]
  methods := #[k20m0]
  instanceTypes := #[(.array .byte), .byte, .int, .boolean]
  staticTypes := #[.long, .boolean, (.array (.object "java/io/ObjectStreamField")), .char, (.object "java/util/Comparator"), .byte, .byte]
  resolved := Array.replicate 1451 none
  statics := none }

def pool21 : Array CpInfo := pool [(1, .methodref 2 3), (0, .class_ 4), (0, .nameAndType 5 6), (0, u "java/util/AbstractList"), (0, u "<init>"), (0, u "()V"), (0, .fieldref 8 9), (0, .class_ 10), (0, .nameAndType 11 12), (0, u "java/util/ArrayList$SubList"), (0, u "root"), (0, u "Ljava/util/ArrayList;"), (0, .fieldref 8 14), (0, .nameAndType 15 16), (0, u "parent"), (0, u "Ljava/util/ArrayList$SubList;"), (0, .fieldref 8 18), (0, .nameAndType 19 20), (0, u "offset"), (0, u "I"), (0, .fieldref 8 22), (0, .nameAndType 23 20), (0, u "size"), (0, .fieldref 25 26), (0, .class_ 27), (0, .nameAndType 28 20), (0, u "java/util/ArrayList"), (0, u "modCount"), (0, .fieldref 8 26), (0, .methodref 31 32), (0, .class_ 33), (0, .nameAndType 34 35), (0, u "java/util/Objects"), (0, u "checkIndex"), (0, u "(II)I"), (0, .methodref 8 37), (0, .nameAndType 38 6), (0, u "checkForComodification"), (0, .methodref 25 40), (0, .nameAndType 41 42), (0, u "elementData"), (0, u "(I)Ljava/lang/Object;"), (29, u "()I"), (109, .class_ 183), (0, u "java/util/RandomAccess"), (3, u "(Ljava/util/ArrayList;II)V"), (17, u "get")] 64

def k21c0 : Code := { maxStack := 3, maxLocals := 4, code := jdk_130_method_1_code, exceptionTable := #[], attributes := #[] }
def k21m0 : Method := { name := "<init>", desc := "(Ljava/util/ArrayList;II)V", sig := { parameters := [(.object "java/util/ArrayList"), .int, .int], returnType := none }, accessFlags := 1, code := some k21c0 }
def k21c1 : Code := { maxStack := 3, maxLocals := 2, code := jdk_130_method_4_code, exceptionTable := #[], attributes := #[] }
def k21m1 : Method := { name := "get", desc := "(I)Ljava/lang/Object;", sig := { parameters := [.int], returnType := some (.object "java/lang/Object") }, accessFlags := 1, code := some k21c1 }
def k21c2 : Code := { maxStack := 1, maxLocals := 1, code := jdk_130_method_5_code, exceptionTable := #[], attributes := #[] }
def k21m2 : Method := { name := "size", desc := "()I", sig := { parameters := [], returnType := some .int }, accessFlags := 1, code := some k21c2 }
def k21c3 : Code := { maxStack := 2, maxLocals := 1, code := jdk_130_method_28_code, exceptionTable := #[], attributes := #[] }
def k21m3 : Method := { name := "checkForComodification", desc := "()V", sig := { parameters := [], returnType := none }, accessFlags := 2, code := some k21c3 }
/-- java/util/ArrayList$SubList -/
def k21 : Class := { plain "java/util/ArrayList$SubList" (some 9) with
  accessFlags := 32
  interfaces := #[10]
  cf := some (fileOf pool21 8 #[.nestHost 25] #[{ accessFlags := 1, nameIndex := 5, descriptorIndex := 187, attributes := #[] }, { accessFlags := 1, nameIndex := 205, descriptorIndex := 42, attributes := #[] }, { accessFlags := 1, nameIndex := 23, descriptorIndex := 72, attributes := #[] }, { accessFlags := 2, nameIndex := 38, descriptorIndex := 6, attributes := #[] }] 32 2 #[182] #[{ accessFlags := 18, nameIndex := 11, descriptorIndex := 12, attributes := #[] }, { accessFlags := 18, nameIndex := 15, descriptorIndex := 16, attributes := #[] }, { accessFlags := 18, nameIndex := 19, descriptorIndex := 20, attributes := #[] }, { accessFlags := 2, nameIndex := 23, descriptorIndex := 20, attributes := #[] }])
  fields := #[{ name := "root", type := (.object "java/util/ArrayList"), accessFlags := 18, slot := 1, constantValue := 0 }, { name := "parent", type := (.object "java/util/ArrayList$SubList"), accessFlags := 18, slot := 2, constantValue := 0 }, { name := "offset", type := .int, accessFlags := 18, slot := 3, constantValue := 0 }, { name := "size", type := .int, accessFlags := 2, slot := 4, constantValue := 0 }]
  methods := #[k21m0, k21m1, k21m2, k21m3]
  instanceTypes := #[.int, (.object "java/util/ArrayList"), (.object "java/util/ArrayList$SubList"), .int, .int]
  staticTypes := #[]
  resolved := Array.replicate 270 none
  statics := none }

def pool22 : Array CpInfo := pool [(2, .class_ 4), (1, u "java/lang/Object"), (0, u "<init>"), (0, u "()V"), (35, .class_ 44), (1, u "java/util/Objects"), (60, .methodref 106 107), (0, .class_ 108), (0, .nameAndType 109 110), (0, u "jdk/internal/util/Preconditions"), (0, u "checkIndex"), (0, u "(IILjava/util/function/BiFunction;)I"), (60, u "(II)I")] 12

def k22m0 : Method := { name := "<init>", desc := "()V", sig := { parameters := [], returnType := none }, accessFlags := 2, code := none }
def k22c1 : Code := { maxStack := 3, maxLocals := 2, code := jdk_31_method_17_code, exceptionTable := #[], attributes := #[] }
def k22m1 : Method := { name := "checkIndex", desc := "(II)I", sig := { parameters := [.int, .int], returnType := some .int }, accessFlags := 9, code := some k22c1 }
/-- java/util/Objects -/
def k22 : Class := { plain "java/util/Objects" (some 0) with
  accessFlags := 49
  interfaces := #[]
  cf := some (fileOf pool22 42 #[] #[{ accessFlags := 2, nameIndex := 5, descriptorIndex := 6, attributes := #[] }, { accessFlags := 9, nameIndex := 109, descriptorIndex := 171, attributes := #[] }] 49 2 #[] #[])
  fields := #[]
  methods := #[k22m0, k22m1]
  instanceTypes := #[]
  staticTypes := #[]
  resolved := Array.replicate 184 none
  statics := none }

def pool23 : Array CpInfo := pool [(2, .class_ 4), (1, u "java/lang/Object"), (0, u "<init>"), (0, u "()V"), (17, .class_ 26), (1, u "jdk/internal/util/Preconditions"), (6, u "checkIndex"), (21, .class_ 56), (0, u "jdk/internal/util/Preconditions$4"), (57, .class_ 115), (0, u "jdk/internal/util/Preconditions$1"), (7, u "SIOOBE_FORMATTER"), (0, u "Ljava/util/function/BiFunction;"), (0, .class_ 126), (0, u "jdk/internal/util/Preconditions$2"), (3, u "AIOOBE_FORMATTER"), (0, .class_ 132), (0, u "jdk/internal/util/Preconditions$3"), (3, u "IOOBE_FORMATTER"), (41, u "(IILjava/util/function/BiFunction;)I")] 15

def k23m0 : Method := { name := "<init>", desc := "()V", sig := { parameters := [], returnType := none }, accessFlags := 1, code := none }
def k23c1 : Code := { maxStack := 3, maxLocals := 3, code := jdk_41_method_11_code, exceptionTable := #[], attributes := #[] }
def k23m1 : Method := { name := "checkIndex", desc := "(IILjava/util/function/BiFunction;)I", sig := { parameters := [.int, .int, (.object "java/util/function/BiFunction")], returnType := some .int }, accessFlags := 9, code := some k23c1 }
/-- jdk/internal/util/Preconditions -/
def k23 : Class := { plain "jdk/internal/util/Preconditions" (some 0) with
  accessFlags := 33
  interfaces := #[]
  cf := some (fileOf pool23 24 #[.nestMembers #[55, 131, 125, 114]] #[{ accessFlags := 1, nameIndex := 5, descriptorIndex := 6, attributes := #[] }, { accessFlags := 9, nameIndex := 33, descriptorIndex := 178, attributes := #[] }] 33 2 #[] #[{ accessFlags := 25, nameIndex := 123, descriptorIndex := 124, attributes := #[] }, { accessFlags := 25, nameIndex := 130, descriptorIndex := 124, attributes := #[] }, { accessFlags := 25, nameIndex := 136, descriptorIndex := 124, attributes := #[] }])
  fields := #[{ name := "SIOOBE_FORMATTER", type := (.object "java/util/function/BiFunction"), accessFlags := 25, slot := 0, constantValue := 0 }, { name := "AIOOBE_FORMATTER", type := (.object "java/util/function/BiFunction"), accessFlags := 25, slot := 1, constantValue := 0 }, { name := "IOOBE_FORMATTER", type := (.object "java/util/function/BiFunction"), accessFlags := 25, slot := 2, constantValue := 0 }]
  methods := #[k23m0, k23m1]
  instanceTypes := #[]
  staticTypes := #[(.object "java/util/function/BiFunction"), (.object "java/util/function/BiFunction"), (.object "java/util/function/BiFunction")]
  resolved := Array.replicate 194 none
  statics := none }

/-- the primitive byte -/
def k24 : Class := { plain "byte" none with kind := .primitive 'B', accessFlags := 0x411 }
/-- [B -/
def k25 : Class := { plain "[B" (some 0) with kind := .array 24 .byte, interfaces := #[11, 12], accessFlags := 1041 }

/-- the primitive int -/
def k26 : Class := { plain "int" none with kind := .primitive 'I', accessFlags := 0x411 }
/-- [I -/
def k27 : Class := { plain "[I" (some 0) with kind := .array 26 .int, interfaces := #[11, 12], accessFlags := 1041 }

/-- [Ljava/lang/Object; -/
def k28 : Class := { plain "[Ljava/lang/Object;" (some 0) with kind := .array 0 (.object "java/lang/Object"), interfaces := #[11, 12], accessFlags := 1041 }

def heap : Heap := #[{ cls := 13, slots := #[.long 0, .int 0, .ref 1, .ref 2], vm := .statics 13 },
  { cls := 28, slots := #[], vm := .none },
  { cls := 28, slots := #[], vm := .none }]
def classes : Array Class := #[k0, k1, k2, k3, k4, k5, k6, k7, k8, k9, k10, k11, k12, k13, k14, k15, k16, k17, k18, k19, k20, k21, k22, k23, k24, k25, k26, k27, k28]
def interned : List (Array UInt16 × Addr) := []
def slotsUsed : Nat := 4
def theMethod : MethodId := ⟨1, 1⟩
def args0 : Array Value := #[.int 5, .int 6, .long 7]
def aboutOver (below : List Frame) : State where
  vm := { classes := classes, interned := interned.toArray }
  heap := heap
  slotsUsed := slotsUsed
  threads := #[{ frames := .invoking theMethod args0 :: below }]
def below0 : List Frame := [.native { method := ⟨0, 0⟩, args := #[] }]
def about1 : State := aboutOver below0
def p0 : Program := .bare "" "" ""
def e0 : Env := launch0.env 0 0 0
theorem w_frames : about1.frames = Frame.invoking theMethod args0 :: below0 := rfl
set_option maxRecDepth 65536 in
theorem w_args : argsFit about1.vm theMethod args0 = true := by decide +kernel
set_option maxRecDepth 65536 in
theorem w_heap : heapFits about1 = true := by decide +kernel
set_option maxRecDepth 65536 in
theorem w_runnable : about1.curStatus? = some .runnable := by decide +kernel
set_option maxRecDepth 65536 in
theorem w_alone : about1.alone = true := by decide +kernel
set_option maxRecDepth 65536 in
theorem w_named : about1.methodNamed? x = some theMethod := by decide +kernel
set_option maxRecDepth 65536 in
theorem w_hears : about1.hears theMethod below0 = true := by decide +kernel
set_option maxRecDepth 65536 in
theorem w_ripe : about1.ripe theMethod args0 below0 = true := by decide +kernel
theorem w_running : about1.status = .running := rfl
set_option maxRecDepth 65536 in
theorem w_room : about1.hasRoom e0.platform room_1 = true :=
  launch0.hasRoom_least _ room_1 (by decide +kernel) (by decide +kernel) (by decide +kernel) (by decide +kernel) (by decide +kernel) (by decide +kernel)
theorem allAtoms_all (ts : List Jvm.Cond) (a : Array Jvm.Value) (st : Jvm.State) : (allAtoms ts).before a st = ts.all (fun c => c.before a st) := by
  induction ts with
  | nil => rfl
  | cons c t ih =>
    show (Jvm.Cond.and c (allAtoms t)).before a st = _
    rw [Jvm.Cond.before_and, ih, List.all_cons]
def words1 : List Jvm.Cond := Jvm.Cond.code x code maxLocals ret :: tables_1
/-- a 'code' word, met by the world's own term for the bytes: nothing is compared byte by byte -/
theorem code_word {y : MethodName} {bytes : ByteArray} {mx : Nat} {rt : Option FieldType} {a : Array Value} {s : State} {m : MethodId} {meth : Method} {c : Code} (h1 : s.methodNamed? y = some m) (h2 : s.vm.method? m = some meth) (h3 : meth.code = some c) (h4 : c.code = bytes)
    (h5 : (c.maxLocals == mx && c.exceptionTable.isEmpty && decide (c.maxStack ≤ mostOperands) && decide (meth.sig.returnType = rt) && !meth.locks && decide (parseMethodDescriptor y.desc = some meth.sig)) = true) : (Jvm.Cond.code y bytes mx rt).before a s = true := by
  simp only [Bool.and_eq_true, beq_iff_eq, Bool.not_eq_true', decide_eq_true_eq] at h5
  obtain ⟨⟨⟨⟨⟨g1, g2⟩, g3⟩, g4⟩, g5⟩, g6⟩ := h5
  simp [Cond.before, Cond.holds, Cond.value, h1, h2, h3, h4, g1, g2, g3, g4, g5, g6]
def isCode : Jvm.Cond → Bool
  | .code _ _ _ _ => true
  | _ => false
theorem all_split {L : List Jvm.Cond} {P : Jvm.Cond → Bool} (h1 : L.all (fun c => isCode c || P c) = true) (h2 : ∀ c ∈ L.filter isCode, P c = true) : L.all P = true := by
  refine List.all_eq_true.mpr fun c hc => ?_
  have h := List.all_eq_true.mp h1 c hc
  rcases Bool.eq_false_or_eq_true (isCode c) with hi | hi
  · exact h2 c (List.mem_filter.mpr ⟨hc, hi⟩)
  · simpa [hi] using h
set_option maxRecDepth 65536 in
theorem w_c0 : (Jvm.Cond.code x code maxLocals ret).before args0 about1 = true := code_word (m := ⟨1, 1⟩) (meth := k1m1) (c := k1c1) (by decide +kernel) rfl rfl rfl (by decide +kernel)
set_option maxRecDepth 65536 in
theorem w_c1 : (Jvm.Cond.code ({ cls := "com/example/biomed_reranker/biomedreranker/Run$Entry", name := "<init>", desc := "(Lcom/example/biomed_reranker/biomedreranker/RunLine;J)V" } : Jvm.MethodName) prog_18_method_1_code (4 : Nat) (Option.none : Option Jvm.ClassFile.FieldType)).before args0 about1 = true := code_word (m := ⟨3, 0⟩) (meth := k3m0) (c := k3c0) (by decide +kernel) rfl rfl rfl (by decide +kernel)
set_option maxRecDepth 65536 in
theorem w_c2 : (Jvm.Cond.code ({ cls := "java/lang/Record", name := "<init>", desc := "()V" } : Jvm.MethodName) jdk_30_method_1_code (1 : Nat) (Option.none : Option Jvm.ClassFile.FieldType)).before args0 about1 = true := code_word (m := ⟨2, 0⟩) (meth := k2m0) (c := k2c0) (by decide +kernel) rfl rfl rfl (by decide +kernel)
set_option maxRecDepth 65536 in
theorem w_c3 : (Jvm.Cond.code ({ cls := "java/lang/Object", name := "<init>", desc := "()V" } : Jvm.MethodName) object_method_1_code (1 : Nat) (Option.none : Option Jvm.ClassFile.FieldType)).before args0 about1 = true := code_word (m := ⟨0, 0⟩) (meth := k0m0) (c := k0c0) (by decide +kernel) rfl rfl rfl (by decide +kernel)
set_option maxRecDepth 65536 in
theorem w_c4 : (Jvm.Cond.code ({ cls := "java/util/ArrayList", name := "<init>", desc := "()V" } : Jvm.MethodName) jdk_38_method_2_code (1 : Nat) (Option.none : Option Jvm.ClassFile.FieldType)).before args0 about1 = true := code_word (m := ⟨13, 0⟩) (meth := k13m0) (c := k13c0) (by decide +kernel) rfl rfl rfl (by decide +kernel)
set_option maxRecDepth 65536 in
theorem w_c5 : (Jvm.Cond.code ({ cls := "java/util/AbstractList", name := "<init>", desc := "()V" } : Jvm.MethodName) jdk_39_method_1_code (1 : Nat) (Option.none : Option Jvm.ClassFile.FieldType)).before args0 about1 = true := code_word (m := ⟨9, 0⟩) (meth := k9m0) (c := k9c0) (by decide +kernel) rfl rfl rfl (by decide +kernel)
set_option maxRecDepth 65536 in
theorem w_c6 : (Jvm.Cond.code ({ cls := "java/util/AbstractCollection", name := "<init>", desc := "()V" } : Jvm.MethodName) jdk_22_method_1_code (1 : Nat) (Option.none : Option Jvm.ClassFile.FieldType)).before args0 about1 = true := code_word (m := ⟨6, 0⟩) (meth := k6m0) (c := k6c0) (by decide +kernel) rfl rfl rfl (by decide +kernel)
set_option maxRecDepth 65536 in
theorem w_c7 : (Jvm.Cond.code ({ cls := "java/util/ArrayList", name := "add", desc := "(Ljava/lang/Object;)Z" } : Jvm.MethodName) jdk_38_method_25_code (2 : Nat) (Option.some Jvm.ClassFile.FieldType.boolean)).before args0 about1 = true := code_word (m := ⟨13, 6⟩) (meth := k13m6) (c := k13c6) (by decide +kernel) rfl rfl rfl (by decide +kernel)
set_option maxRecDepth 65536 in
theorem w_c8 : (Jvm.Cond.code ({ cls := "java/util/ArrayList", name := "add", desc := "(Ljava/lang/Object;[Ljava/lang/Object;I)V" } : Jvm.MethodName) jdk_38_method_24_code (4 : Nat) (Option.none : Option Jvm.ClassFile.FieldType)).before args0 about1 = true := code_word (m := ⟨13, 5⟩) (meth := k13m5) (c := k13c5) (by decide +kernel) rfl rfl rfl (by decide +kernel)
set_option maxRecDepth 65536 in
theorem w_c9 : (Jvm.Cond.code ({ cls := "java/util/ArrayList", name := "grow", desc := "()[Ljava/lang/Object;" } : Jvm.MethodName) jdk_38_method_7_code (1 : Nat) (Option.some (Jvm.ClassFile.FieldType.array (Jvm.ClassFile.FieldType.object "java/lang/Object")))).before args0 about1 = true := code_word (m := ⟨13, 2⟩) (meth := k13m2) (c := k13c2) (by decide +kernel) rfl rfl rfl (by decide +kernel)
set_option maxRecDepth 65536 in
theorem w_c10 : (Jvm.Cond.code ({ cls := "java/util/ArrayList", name := "grow", desc := "(I)[Ljava/lang/Object;" } : Jvm.MethodName) jdk_38_method_6_code (4 : Nat) (Option.some (Jvm.ClassFile.FieldType.array (Jvm.ClassFile.FieldType.object "java/lang/Object")))).before args0 about1 = true := code_word (m := ⟨13, 1⟩) (meth := k13m1) (c := k13c1) (by decide +kernel) rfl rfl rfl (by decide +kernel)
set_option maxRecDepth 65536 in
theorem w_c11 : (Jvm.Cond.code ({ cls := "java/lang/Math", name := "max", desc := "(II)I" } : Jvm.MethodName) jdk_29_method_65_code (2 : Nat) (Option.some Jvm.ClassFile.FieldType.int)).before args0 about1 = true := code_word (m := ⟨14, 1⟩) (meth := k14m1) (c := k14c1) (by decide +kernel) rfl rfl rfl (by decide +kernel)
set_option maxRecDepth 65536 in
theorem w_c12 : (Jvm.Cond.code ({ cls := "com/example/biomed_reranker/biomedreranker/Run$Topic", name := "<init>", desc := "(Ljava/lang/String;Ljava/util/List;)V" } : Jvm.MethodName) prog_19_method_1_code (3 : Nat) (Option.none : Option Jvm.ClassFile.FieldType)).before args0 about1 = true := code_word (m := ⟨15, 0⟩) (meth := k15m0) (c := k15c0) (by decide +kernel) rfl rfl rfl (by decide +kernel)
set_option maxRecDepth 65536 in
theorem w_c13 : (Jvm.Cond.code ({ cls := "com/example/biomed_reranker/biomedreranker/Run$Topic", name := "top", desc := "(I)Ljava/util/List;" } : Jvm.MethodName) prog_19_method_2_code (2 : Nat) (Option.some (Jvm.ClassFile.FieldType.object "java/util/List"))).before args0 about1 = true := code_word (m := ⟨15, 1⟩) (meth := k15m1) (c := k15c1) (by decide +kernel) rfl rfl rfl (by decide +kernel)
set_option maxRecDepth 65536 in
theorem w_c14 : (Jvm.Cond.code ({ cls := "java/util/ArrayList", name := "size", desc := "()I" } : Jvm.MethodName) jdk_38_method_8_code (1 : Nat) (Option.some Jvm.ClassFile.FieldType.int)).before args0 about1 = true := code_word (m := ⟨13, 3⟩) (meth := k13m3) (c := k13c3) (by decide +kernel) rfl rfl rfl (by decide +kernel)
set_option maxRecDepth 65536 in
theorem w_c15 : (Jvm.Cond.code ({ cls := "java/lang/Math", name := "min", desc := "(II)I" } : Jvm.MethodName) jdk_29_method_69_code (2 : Nat) (Option.some Jvm.ClassFile.FieldType.int)).before args0 about1 = true := code_word (m := ⟨14, 2⟩) (meth := k14m2) (c := k14c2) (by decide +kernel) rfl rfl rfl (by decide +kernel)
set_option maxRecDepth 65536 in
theorem w_c16 : (Jvm.Cond.code ({ cls := "java/util/ArrayList", name := "subList", desc := "(II)Ljava/util/List;" } : Jvm.MethodName) jdk_38_method_56_code (3 : Nat) (Option.some (Jvm.ClassFile.FieldType.object "java/util/List"))).before args0 about1 = true := code_word (m := ⟨13, 7⟩) (meth := k13m7) (c := k13c7) (by decide +kernel) rfl rfl rfl (by decide +kernel)
set_option maxRecDepth 65536 in
theorem w_c17 : (Jvm.Cond.code ({ cls := "java/util/AbstractList", name := "subListRangeCheck", desc := "(III)V" } : Jvm.MethodName) jdk_39_method_15_code (3 : Nat) (Option.none : Option Jvm.ClassFile.FieldType)).before args0 about1 = true := code_word (m := ⟨9, 1⟩) (meth := k9m1) (c := k9c1) (by decide +kernel) rfl rfl rfl (by decide +kernel)
set_option maxRecDepth 65536 in
theorem w_c18 : (Jvm.Cond.code ({ cls := "java/util/ArrayList$SubList", name := "<init>", desc := "(Ljava/util/ArrayList;II)V" } : Jvm.MethodName) jdk_130_method_1_code (4 : Nat) (Option.none : Option Jvm.ClassFile.FieldType)).before args0 about1 = true := code_word (m := ⟨21, 0⟩) (meth := k21m0) (c := k21c0) (by decide +kernel) rfl rfl rfl (by decide +kernel)
set_option maxRecDepth 65536 in
theorem w_c19 : (Jvm.Cond.code ({ cls := "java/util/ArrayList$SubList", name := "size", desc := "()I" } : Jvm.MethodName) jdk_130_method_5_code (1 : Nat) (Option.some Jvm.ClassFile.FieldType.int)).before args0 about1 = true := code_word (m := ⟨21, 2⟩) (meth := k21m2) (c := k21c2) (by decide +kernel) rfl rfl rfl (by decide +kernel)
set_option maxRecDepth 65536 in
theorem w_c20 : (Jvm.Cond.code ({ cls := "java/util/ArrayList$SubList", name := "checkForComodification", desc := "()V" } : Jvm.MethodName) jdk_130_method_28_code (1 : Nat) (Option.none : Option Jvm.ClassFile.FieldType)).before args0 about1 = true := code_word (m := ⟨21, 3⟩) (meth := k21m3) (c := k21c3) (by decide +kernel) rfl rfl rfl (by decide +kernel)
set_option maxRecDepth 65536 in
theorem w_c21 : (Jvm.Cond.code ({ cls := "java/util/ArrayList$SubList", name := "get", desc := "(I)Ljava/lang/Object;" } : Jvm.MethodName) jdk_130_method_4_code (2 : Nat) (Option.some (Jvm.ClassFile.FieldType.object "java/lang/Object"))).before args0 about1 = true := code_word (m := ⟨21, 1⟩) (meth := k21m1) (c := k21c1) (by decide +kernel) rfl rfl rfl (by decide +kernel)
set_option maxRecDepth 65536 in
theorem w_c22 : (Jvm.Cond.code ({ cls := "java/util/Objects", name := "checkIndex", desc := "(II)I" } : Jvm.MethodName) jdk_31_method_17_code (2 : Nat) (Option.some Jvm.ClassFile.FieldType.int)).before args0 about1 = true := code_word (m := ⟨22, 1⟩) (meth := k22m1) (c := k22c1) (by decide +kernel) rfl rfl rfl (by decide +kernel)
set_option maxRecDepth 65536 in
theorem w_c23 : (Jvm.Cond.code ({ cls := "jdk/internal/util/Preconditions", name := "checkIndex", desc := "(IILjava/util/function/BiFunction;)I" } : Jvm.MethodName) jdk_41_method_11_code (3 : Nat) (Option.some Jvm.ClassFile.FieldType.int)).before args0 about1 = true := code_word (m := ⟨23, 1⟩) (meth := k23m1) (c := k23c1) (by decide +kernel) rfl rfl rfl (by decide +kernel)
set_option maxRecDepth 65536 in
theorem w_c24 : (Jvm.Cond.code ({ cls := "java/util/ArrayList", name := "elementData", desc := "(I)Ljava/lang/Object;" } : Jvm.MethodName) jdk_38_method_18_code (2 : Nat) (Option.some (Jvm.ClassFile.FieldType.object "java/lang/Object"))).before args0 about1 = true := code_word (m := ⟨13, 4⟩) (meth := k13m4) (c := k13c4) (by decide +kernel) rfl rfl rfl (by decide +kernel)
def codes1 : List Jvm.Cond := [Jvm.Cond.code x code maxLocals ret, Jvm.Cond.code ({ cls := "com/example/biomed_reranker/biomedreranker/Run$Entry", name := "<init>", desc := "(Lcom/example/biomed_reranker/biomedreranker/RunLine;J)V" } : Jvm.MethodName) prog_18_method_1_code (4 : Nat) (Option.none : Option Jvm.ClassFile.FieldType), Jvm.Cond.code ({ cls := "java/lang/Record", name := "<init>", desc := "()V" } : Jvm.MethodName) jdk_30_method_1_code (1 : Nat) (Option.none : Option Jvm.ClassFile.FieldType), Jvm.Cond.code ({ cls := "java/lang/Object", name := "<init>", desc := "()V" } : Jvm.MethodName) object_method_1_code (1 : Nat) (Option.none : Option Jvm.ClassFile.FieldType), Jvm.Cond.code ({ cls := "java/util/ArrayList", name := "<init>", desc := "()V" } : Jvm.MethodName) jdk_38_method_2_code (1 : Nat) (Option.none : Option Jvm.ClassFile.FieldType), Jvm.Cond.code ({ cls := "java/util/AbstractList", name := "<init>", desc := "()V" } : Jvm.MethodName) jdk_39_method_1_code (1 : Nat) (Option.none : Option Jvm.ClassFile.FieldType), Jvm.Cond.code ({ cls := "java/util/AbstractCollection", name := "<init>", desc := "()V" } : Jvm.MethodName) jdk_22_method_1_code (1 : Nat) (Option.none : Option Jvm.ClassFile.FieldType), Jvm.Cond.code ({ cls := "java/util/ArrayList", name := "add", desc := "(Ljava/lang/Object;)Z" } : Jvm.MethodName) jdk_38_method_25_code (2 : Nat) (Option.some Jvm.ClassFile.FieldType.boolean), Jvm.Cond.code ({ cls := "java/util/ArrayList", name := "add", desc := "(Ljava/lang/Object;[Ljava/lang/Object;I)V" } : Jvm.MethodName) jdk_38_method_24_code (4 : Nat) (Option.none : Option Jvm.ClassFile.FieldType), Jvm.Cond.code ({ cls := "java/util/ArrayList", name := "grow", desc := "()[Ljava/lang/Object;" } : Jvm.MethodName) jdk_38_method_7_code (1 : Nat) (Option.some (Jvm.ClassFile.FieldType.array (Jvm.ClassFile.FieldType.object "java/lang/Object"))), Jvm.Cond.code ({ cls := "java/util/ArrayList", name := "grow", desc := "(I)[Ljava/lang/Object;" } : Jvm.MethodName) jdk_38_method_6_code (4 : Nat) (Option.some (Jvm.ClassFile.FieldType.array (Jvm.ClassFile.FieldType.object "java/lang/Object"))), Jvm.Cond.code ({ cls := "java/lang/Math", name := "max", desc := "(II)I" } : Jvm.MethodName) jdk_29_method_65_code (2 : Nat) (Option.some Jvm.ClassFile.FieldType.int), Jvm.Cond.code ({ cls := "com/example/biomed_reranker/biomedreranker/Run$Topic", name := "<init>", desc := "(Ljava/lang/String;Ljava/util/List;)V" } : Jvm.MethodName) prog_19_method_1_code (3 : Nat) (Option.none : Option Jvm.ClassFile.FieldType), Jvm.Cond.code ({ cls := "com/example/biomed_reranker/biomedreranker/Run$Topic", name := "top", desc := "(I)Ljava/util/List;" } : Jvm.MethodName) prog_19_method_2_code (2 : Nat) (Option.some (Jvm.ClassFile.FieldType.object "java/util/List")), Jvm.Cond.code ({ cls := "java/util/ArrayList", name := "size", desc := "()I" } : Jvm.MethodName) jdk_38_method_8_code (1 : Nat) (Option.some Jvm.ClassFile.FieldType.int), Jvm.Cond.code ({ cls := "java/lang/Math", name := "min", desc := "(II)I" } : Jvm.MethodName) jdk_29_method_69_code (2 : Nat) (Option.some Jvm.ClassFile.FieldType.int), Jvm.Cond.code ({ cls := "java/util/ArrayList", name := "subList", desc := "(II)Ljava/util/List;" } : Jvm.MethodName) jdk_38_method_56_code (3 : Nat) (Option.some (Jvm.ClassFile.FieldType.object "java/util/List")), Jvm.Cond.code ({ cls := "java/util/AbstractList", name := "subListRangeCheck", desc := "(III)V" } : Jvm.MethodName) jdk_39_method_15_code (3 : Nat) (Option.none : Option Jvm.ClassFile.FieldType), Jvm.Cond.code ({ cls := "java/util/ArrayList$SubList", name := "<init>", desc := "(Ljava/util/ArrayList;II)V" } : Jvm.MethodName) jdk_130_method_1_code (4 : Nat) (Option.none : Option Jvm.ClassFile.FieldType), Jvm.Cond.code ({ cls := "java/util/ArrayList$SubList", name := "size", desc := "()I" } : Jvm.MethodName) jdk_130_method_5_code (1 : Nat) (Option.some Jvm.ClassFile.FieldType.int), Jvm.Cond.code ({ cls := "java/util/ArrayList$SubList", name := "checkForComodification", desc := "()V" } : Jvm.MethodName) jdk_130_method_28_code (1 : Nat) (Option.none : Option Jvm.ClassFile.FieldType), Jvm.Cond.code ({ cls := "java/util/ArrayList$SubList", name := "get", desc := "(I)Ljava/lang/Object;" } : Jvm.MethodName) jdk_130_method_4_code (2 : Nat) (Option.some (Jvm.ClassFile.FieldType.object "java/lang/Object")), Jvm.Cond.code ({ cls := "java/util/Objects", name := "checkIndex", desc := "(II)I" } : Jvm.MethodName) jdk_31_method_17_code (2 : Nat) (Option.some Jvm.ClassFile.FieldType.int), Jvm.Cond.code ({ cls := "jdk/internal/util/Preconditions", name := "checkIndex", desc := "(IILjava/util/function/BiFunction;)I" } : Jvm.MethodName) jdk_41_method_11_code (3 : Nat) (Option.some Jvm.ClassFile.FieldType.int), Jvm.Cond.code ({ cls := "java/util/ArrayList", name := "elementData", desc := "(I)Ljava/lang/Object;" } : Jvm.MethodName) jdk_38_method_18_code (2 : Nat) (Option.some (Jvm.ClassFile.FieldType.object "java/lang/Object"))]
set_option maxRecDepth 65536 in
theorem codes_eq : words1.filter isCode = codes1 := rfl
theorem w_codes : ∀ c ∈ words1.filter isCode, c.before args0 about1 = true := by
  rw [codes_eq]
  intro c hc
  simp only [codes1, List.mem_cons, List.not_mem_nil, or_false] at hc
  rcases hc with rfl | rfl | rfl | rfl | rfl | rfl | rfl | rfl | rfl | rfl | rfl | rfl | rfl | rfl | rfl | rfl | rfl | rfl | rfl | rfl | rfl | rfl | rfl | rfl | rfl
  · exact w_c0
  · exact w_c1
  · exact w_c2
  · exact w_c3
  · exact w_c4
  · exact w_c5
  · exact w_c6
  · exact w_c7
  · exact w_c8
  · exact w_c9
  · exact w_c10
  · exact w_c11
  · exact w_c12
  · exact w_c13
  · exact w_c14
  · exact w_c15
  · exact w_c16
  · exact w_c17
  · exact w_c18
  · exact w_c19
  · exact w_c20
  · exact w_c21
  · exact w_c22
  · exact w_c23
  · exact w_c24
set_option maxRecDepth 65536 in
theorem w_t1 : (words1.take 24).all (fun c => isCode c || c.before args0 about1) = true := by decide +kernel
set_option maxRecDepth 65536 in
theorem w_t2 : ((words1.drop 24).take 24).all (fun c => isCode c || c.before args0 about1) = true := by decide +kernel
set_option maxRecDepth 65536 in
theorem w_t3 : (((words1.drop 24).drop 24).take 24).all (fun c => isCode c || c.before args0 about1) = true := by decide +kernel
set_option maxRecDepth 65536 in
theorem w_t4 : ((((words1.drop 24).drop 24).drop 24).take 24).all (fun c => isCode c || c.before args0 about1) = true := by decide +kernel
set_option maxRecDepth 65536 in
theorem w_t5 : (((((words1.drop 24).drop 24).drop 24).drop 24).take 24).all (fun c => isCode c || c.before args0 about1) = true := by decide +kernel
set_option maxRecDepth 65536 in
theorem w_t6 : ((((((words1.drop 24).drop 24).drop 24).drop 24).drop 24).take 24).all (fun c => isCode c || c.before args0 about1) = true := by decide +kernel
set_option maxRecDepth 65536 in
theorem w_t7 : (((((((words1.drop 24).drop 24).drop 24).drop 24).drop 24).drop 24).take 24).all (fun c => isCode c || c.before args0 about1) = true := by decide +kernel
set_option maxRecDepth 65536 in
theorem w_t8 : (((((((words1.drop 24).drop 24).drop 24).drop 24).drop 24).drop 24).drop 24).all (fun c => isCode c || c.before args0 about1) = true := by decide +kernel
theorem w_tables : (allAtoms (Jvm.Cond.code x code maxLocals ret :: tables_1)).before args0 about1 = true := by
  rw [allAtoms_all]
  show words1.all (fun c => c.before args0 about1) = true
  refine all_split ?_ w_codes
  rw [← List.take_append_drop 24 words1, List.all_append, w_t1, ← List.take_append_drop 24 (words1.drop 24), List.all_append, w_t2, ← List.take_append_drop 24 ((words1.drop 24).drop 24), List.all_append, w_t3, ← List.take_append_drop 24 (((words1.drop 24).drop 24).drop 24), List.all_append, w_t4, ← List.take_append_drop 24 ((((words1.drop 24).drop 24).drop 24).drop 24), List.all_append, w_t5, ← List.take_append_drop 24 (((((words1.drop 24).drop 24).drop 24).drop 24).drop 24), List.all_append, w_t6, ← List.take_append_drop 24 ((((((words1.drop 24).drop 24).drop 24).drop 24).drop 24).drop 24), List.all_append, w_t7, w_t8]
  rfl
set_option maxRecDepth 65536 in
theorem w_rest : rest_1_c.before args0 about1 = true := by decide +kernel
set_option maxRecDepth 65536 in
theorem w_case : (Jvm.Cond.and given_1 narrow_1).before args0 about1 = true := by decide +kernel
theorem w_applies : (headSpec (Jvm.Cond.code x code maxLocals ret :: tables_1) room_1).applies x e0.platform about1 = true :=
  (Spec.applies_iff w_frames).mpr ⟨w_running, w_runnable, w_alone, w_named, w_hears, w_ripe, w_room, w_tables⟩
theorem atStart : AtStart classFile x code maxLocals ret World_1 tables_1 room_1 Calls_1 rest_1 Pre_1 launch0 p0 e0 about1 theMethod args0 below0 :=
  ⟨lists_1, trivial, launch0.admits_env _ _ _, launch0.least_env, fairChoices_fair.cas, fairChoices_fair.clock, w_frames, w_args, w_heap, w_applies, trivial, w_rest, w_case⟩
end start1
theorem witness_1 : WitnessClaimed_1 := ⟨start1.p0, start1.e0, start1.about1, start1.theMethod, start1.args0, start1.below0, start1.atStart⟩
end Jvm.Pilot.@@N@@
